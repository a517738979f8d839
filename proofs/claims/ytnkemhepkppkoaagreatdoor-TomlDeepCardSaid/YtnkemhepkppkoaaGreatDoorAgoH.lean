/-
Functions and loops: a shallow function that equals the denotation of the code is sound. No theorem about the program stands here.
-/
import Derived.Test.YtnkemhepkppkoaaGreatDoorAgoG
import Derived.LoopN
set_option linter.all false
namespace Go.Ago
open Go
variable {P : Program} {ι ι' : IMap} {h h' h1 : AHeap} {w w' : World}

/-! Values read back. -/
theorem unTs_pk : ∀ {ts : List Ty} {vs : List Value} {x : TsDen ts}, unTs ts vs = some x → vs = pkTs ts x
  | [], [], _, _ => rfl
  | [], _ :: _, _, hx => by cases hx
  | [t], [], _, hx => by cases hx
  | [t], [v], x, hx => by rw [pkTs, ← unT_pk (t := t) (x := x) hx]
  | [t], _ :: _ :: _, _, hx => by cases hx
  | t :: t' :: ts, [], _, hx => by cases hx
  | t :: t' :: ts, v :: vs, x, hx => by
    simp only [unTs] at hx
    split at hx
    · rename_i a b ha hb
      cases hx
      rw [pkTs, ← unT_pk ha, ← unTs_pk hb]
    · cases hx
theorem unR_pk {ts : List Ty} {v : Value} {x : TsDen ts} (hx : unR ts v = some x) : v = tupleOf (pkTs ts x) := by
  match ts, x, hx with
  | [], x, hx =>
    simp only [unR] at hx
    cases v <;> simp only at hx <;> try cases hx
    rename_i vs _
    rw [← unTs_pk hx]
    cases hv : vs.toList with
    | nil => simp [tupleOf, ← hv]
    | cons a l => rw [hv] at hx; cases hx
  | [t], x, hx => rw [pkTs]; exact unT_pk hx
  | t :: t' :: ts, x, hx =>
    simp only [unR] at hx
    split at hx
    · rename_i vs
      have := unTs_pk hx
      rw [pkTs, tupleOf]
      · rw [pkTs] at this; rw [← this]
      · intro v e
        have h2 : (pkTs (t' :: ts) x.2) = [] := by simpa using congrArg List.tail e
        cases ts <;> simp [pkTs] at h2
    · cases hx

/-! Slots. -/
theorem getE_put : ∀ {E : Env} {ls : List (Nat × Ty)} {vs : List Value}, getE E ls = some vs → ∀ j u, putE ls vs j = some u → E j = some u
  | E, [], vs, _, j, u, hu => by cases vs <;> cases hu
  | E, (i, t) :: ls, vs, hg, j, u, hu => by
    simp only [getE] at hg
    split at hg
    · rename_i v vs' hv hvs
      cases hg
      simp only [putE, Env.set, cond_beq] at hu
      split at hu
      · rename_i e; subst e; cases hu; exact hv
      · exact getE_put hvs j u hu
    · cases hg
theorem getE_rel {E : Env} {ls : List (Nat × Ty)} {vs : List Value} {t : Array Value} (hg : getE E ls = some vs) (hE : ERel P ι E t) : ERel P ι (putE ls vs) t :=
  fun j u hu => hE j u (getE_put hg j u hu)
theorem putE_mem : ∀ {ls : List (Nat × Ty)} {vs : List Value} {j : Nat} {u : Value}, putE ls vs j = some u → ls.any (fun x => Nat.beq j x.1) = true
  | [], vs, j, u, hu => by cases vs <;> cases hu
  | (i, t) :: ls, [], j, u, hu => by cases hu
  | (i, t) :: ls, v :: vs, j, u, hu => by
    rw [List.any_cons, Bool.or_eq_true]
    simp only [putE, Env.set] at hu
    cases hb : Nat.beq j i with
    | true => exact .inl rfl
    | false => rw [hb] at hu; exact .inr (putE_mem hu)
theorem setE_spec : ∀ {E E0 : Env} {ms : List (Nat × Ty)} {vs : List Value}, getE E ms = some vs → ∀ j u, setE E0 ms vs j = some u →
    E j = some u ∨ (E0 j = some u ∧ ms.any (fun x => Nat.beq j x.1) = false)
  | E, E0, [], vs, _, j, u, hu => .inr ⟨by cases vs <;> exact hu, rfl⟩
  | E, E0, (i, t) :: ms, vs, hg, j, u, hu => by
    simp only [getE] at hg
    split at hg
    · rename_i v vs' hv hvs
      cases hg
      simp only [setE, Env.set, cond_beq] at hu
      split at hu
      · rename_i e; subst e; cases hu; exact .inl hv
      · rename_i e
        rcases setE_spec hvs j u hu with h1 | ⟨h1, h2⟩
        · exact .inl h1
        · refine .inr ⟨h1, ?_⟩
          rw [List.any_cons, h2, Bool.or_false]
          grind [absurd, Nat.eq_of_beq_eq_true]
    · cases hg

/-! Functions. -/
def FnOK (P : Program) (e : Ent) : Prop := ∀ x, CallOK P e.id (pkTs e.as x) ⟨TsDen e.rs, e.m x, fun y => tupleOf (pkTs e.rs y)⟩
def AllOK (P : Program) : List Ent → Prop
  | [] => True
  | e :: r => FnOK P e ∧ AllOK P r
theorem lookS_ok : ∀ {l : List Ent}, AllOK P l → ∀ f vs ca, lookS l f vs = some ca → CallOK P f vs ca
  | [], _, f, vs, ca, hx => by cases hx
  | e :: r, hl, f, vs, ca, hx => by
    simp only [lookS] at hx
    split at hx
    · rename_i hb
      have := Nat.eq_of_beq_eq_true hb
      subst this
      split at hx
      · rename_i x hu
        cases hx
        rw [unTs_pk hu]; exact hl.1 x
      · cases hx
    · exact lookS_ok hl.2 f vs ca hx
/-! Function values. -/
theorem callOK_cast {f : FuncId} {vs vs' : List Value} {ca : CallAct} (e : vs = vs') (hc : CallOK P f vs ca) : CallOK P f vs' ca := e ▸ hc
def TgOK (P : Program) {as rs : List Ty} (e : DTg as rs) : Prop := ∀ a c, CallOK P e.id (pkTs as a ++ pkTs e.cs c) ⟨TsDen rs, e.m a c, fun y => tupleOf (pkTs rs y)⟩
def AllT (P : Program) {as rs : List Ty} : List (DTg as rs) → Prop
  | [] => True
  | e :: r => TgOK P e ∧ AllT P r
theorem isFn_spec {g : FuncId} {x : Value} (h : isFn g x = true) : ∃ caps, x = .func (.func g) #[] caps := by
  unfold isFn at h
  split at h
  · simp_all
  · cases h
theorem asFn_spec {cs : List Ty} {x : Value} {c : TsDen cs} (hx : asFn cs x h = some (c, h1)) : h1 = h ∧ capsOf x = pkTs cs c := by
  unfold asFn at hx
  split at hx
  · rename_i c' hc; cases hx; exact ⟨rfl, unTs_pk hc⟩
  · cases hx
theorem dsp_ok {as rs : List Ty} : ∀ {l : List (DTg as rs)}, AllT P l → ∀ x a, DynOK P x (pkTs as a) ⟨TsDen rs, dsp l x a, fun y => tupleOf (pkTs rs y)⟩
  | [], _, x, a => fun h y h1 hx => by simp [dsp, M.fail] at hx
  | e :: r, hl, x, a => by
    have one : ∀ (rest : M (TsDen rs)), (∀ h y h1, rest h = some (y, h1) → ∃ g caps ca' y', x = .func (.func g) #[] caps ∧ CallOK P g (pkTs as a ++ caps.toList) ca' ∧ ca'.m h = some (y', h1) ∧ ca'.pk y' = tupleOf (pkTs rs y)) →
        ∀ h y h1, (iteB (isFn e.id x) (M.bind (asFn e.cs x) fun c => e.m a c) rest) h = some (y, h1) →
        ∃ g caps ca' y', x = .func (.func g) #[] caps ∧ CallOK P g (pkTs as a ++ caps.toList) ca' ∧ ca'.m h = some (y', h1) ∧ ca'.pk y' = tupleOf (pkTs rs y) := by
      intro rest hrest h y h1 hx
      unfold iteB at hx
      split at hx
      · rename_i hf
        obtain ⟨caps, rfl⟩ := isFn_spec hf
        simp only [M.bind] at hx
        split at hx
        · rename_i c h2 hc
          obtain ⟨e2, hcap⟩ := asFn_spec hc
          have hok := hl.1 a c
          rw [← hcap] at hok
          rw [e2] at hx
          exact ⟨_, caps, _, y, rfl, hok, hx, rfl⟩
        · cases hx
      · exact hrest h y h1 hx
    have ih := dsp_ok hl.2 x a
    cases r with
    | nil => exact one _ fun h y h1 hx => by simp [M.fail] at hx
    | cons f r => exact one _ ih
def DEntOK (P : Program) (e : DEnt) : Prop := ∀ x a, DynOK P x (pkTs e.as a) ⟨TsDen e.rs, e.m x a, fun y => tupleOf (pkTs e.rs y)⟩
def AllD (P : Program) : List DEnt → Prop
  | [] => True
  | e :: r => DEntOK P e ∧ AllD P r
theorem dent_ok {e : DEnt} {l : List (DTg e.as e.rs)} (hl : AllT P l) (he : ∀ x a, dsp l x a = e.m x a) : DEntOK P e := fun x a => by
  rw [← he]; exact dsp_ok hl x a
theorem lookD_ok : ∀ {l : List DEnt}, AllD P l → ∀ t x vs ca, lookD l t x vs = some ca → DynOK P x vs ca
  | [], _, t, x, vs, ca, hx => by cases hx
  | e :: r, hl, t, x, vs, ca, hx => by
    simp only [lookD] at hx
    split at hx
    · split at hx
      · rename_i a hu
        cases hx
        rw [unTs_pk hu]; exact hl.1 x a
      · cases hx
    · exact lookD_ok hl.2 t x vs ca hx
/-- The functions of this list with these numbers let the making of a map pass. -/
def AllMo (l : List Ent) (ms : List FuncId) : Prop := ∀ f vs ca, ms.any (Nat.beq f) = true → lookS l f vs = some ca → MoM ca.m
theorem AllMo.nil {l : List Ent} : AllMo l [] := fun f vs ca h => by cases h
theorem AllMo.one {e : Ent} (h : ∀ x, MoM (e.m x)) {l : List Ent} {g : FuncId} (hg : ∀ vs ca, lookS l g vs = some ca → ∃ x, ca = ⟨TsDen e.rs, e.m x, fun y => tupleOf (pkTs e.rs y)⟩) : AllMo l [g] := fun f vs ca h1 h2 => by
  simp only [List.any_cons, List.any_nil, Bool.or_false] at h1
  grind [Nat.eq_of_beq_eq_true]
theorem lookS_find {g : FuncId} {e : Ent} : ∀ {l : List Ent}, l.find? (fun e => Nat.beq g e.id) = some e → ∀ vs ca, lookS l g vs = some ca → ∃ x, ca = ⟨TsDen e.rs, e.m x, fun y => tupleOf (pkTs e.rs y)⟩
  | [], h, vs, ca, hx => by cases h
  | a :: l, h, vs, ca, hx => by
    rw [List.find?_cons] at h
    unfold lookS at hx
    cases hb : Nat.beq g a.id with
    | true =>
      rw [hb] at h hx
      simp only [Option.some.injEq] at h
      subst h
      grind
    | false =>
      rw [hb] at h hx
      exact lookS_find h vs ca hx
/-! Functions that may end in a panic. -/
def PFnOK (P : Program) (e : PEnt) : Prop := ∀ x, PCallOK P e.id (pkTs e.as x) ⟨TsDen e.rs, e.m x, fun y => tupleOf (pkTs e.rs y)⟩
def AllP (P : Program) : List PEnt → Prop
  | [] => True
  | e :: r => PFnOK P e ∧ AllP P r
theorem lookP_ok : ∀ {l : List PEnt}, AllP P l → ∀ f vs ca, lookP l f vs = some ca → PCallOK P f vs ca
  | [], _, f, vs, ca, hx => by cases hx
  | e :: r, hl, f, vs, ca, hx => by
    simp only [lookP] at hx
    split at hx
    · rename_i hb
      have := Nat.eq_of_beq_eq_true hb
      subst this
      split at hx
      · rename_i x hu
        cases hx
        rw [unTs_pk hu]; exact hl.1 x
      · cases hx
    · exact lookP_ok hl.2 f vs ca hx
theorem lookP_is : ∀ {l : List PEnt} {f vs ca}, lookP l f vs = some ca → (l.any fun e => Nat.beq f e.id) = true
  | [], f, vs, ca, hx => by cases hx
  | e :: r, f, vs, ca, hx => by
    simp only [lookP] at hx
    rw [List.any_cons]
    split at hx
    · rename_i hb; rw [hb]; rfl
    · rw [lookP_is hx]; simp
/-- No function stands in both tables. -/
def disj (l : List Ent) (ps : List PEnt) : Bool := l.all fun e => !(ps.any fun p => Nat.beq e.id p.id)
theorem disj_ok {ps : List PEnt} {f : FuncId} {vs : List Value} : ∀ {l : List Ent}, disj l ps = true → (ps.any fun p => Nat.beq f p.id) = true → lookS l f vs = none
  | [], _, _ => rfl
  | e :: l, h, hf => by
    unfold disj at h
    rw [List.all_cons, Bool.and_eq_true] at h
    simp only [lookS]
    split
    · grind [Nat.eq_of_beq_eq_true]
    · exact disj_ok (l := l) h.2 hf
theorem lookC_ok {l : List Ent} {d : List DEnt} {ms : List FuncId} {ps : List PEnt} (h1 : AllOK P l) (h2 : AllD P d) (h3 : AllMo l ms) (h4 : AllP P ps) (h5 : disj l ps = true) : CtabOK P (lookC l d ms ps) := ⟨lookS_ok h1, lookD_ok h2, h3, lookP_ok h4, fun _ _ _ h => lookP_is h, fun _ _ h => disj_ok h5 h⟩
theorem putE_params : ∀ (as : List Ty) (i : Nat) (ls : List (Nat × Ty)) (vs : List Value) (vs' : Array Value) (t : Array Value), ls.map (·.1) = List.range' i as.length → vs.length = as.length →
    (∀ k v, vs[k]? = some v → ∃ v', t[i + k]? = some v' ∧ VRel P ι v v') → ERel P ι (putE ls vs) t
  | as, i, [], vs, vs', t, _, _, _ => by intro j u hu; cases vs <;> cases hu
  | [], i, (a, b) :: ls, vs, vs', t, hl, _, _ => by simp at hl
  | ty :: as, i, (a, b) :: ls, [], vs', t, _, hv, _ => by simp at hv
  | ty :: as, i, (a, b) :: ls, v :: vs, vs', t, hl, hv, hr => by
    rw [List.map_cons, List.length_cons, List.range'_succ, List.cons.injEq] at hl
    obtain ⟨rfl, hl⟩ := hl
    have ih := putE_params as (a + 1) ls vs vs' t hl (by simpa using hv) fun k u hu => by
      have := hr (k + 1) u (by simpa using hu)
      rw [show a + 1 + k = a + (k + 1) by omega]; exact this
    intro j u hu
    simp only [putE, Env.set, cond_beq] at hu
    split at hu
    · rename_i e; subst e; cases hu
      exact hr 0 v rfl
    · exact ih j u hu
theorem resAct_ok (R : ∀ t a a', ARel ι a a' → ∀ v h1, (ldT P t a).exec h = some (v, h1) → h1 = h ∧ ∃ v', (loadVar t a').run P w = .ok v' w ∧ VRel P ι v v') {E : Env} {tm : Array Value} (hE : ERel P ι E tm)
    {X : Type} {K : Value → M X} {r : X × AHeap} {fin : List Value → Act} :
    ∀ (rs : List ResultVar) (acc : List Value), (resAct P rs E acc fin).run K h = some r → ∃ vs vs', LRel P ι vs vs' ∧ (fin (acc.reverse ++ vs)).run K h = some r ∧
      (rs.mapM (fun x : ResultVar => (match x with
        | .tmp t => Pure.pure (tm.getD t undef)
        | .cell a t => do loadVar t (← asAddr (tm.getD a undef)) : Sem Value))).run P w = .ok vs' w
  | [], acc, hx => ⟨[], [], .nil, by simpa [resAct] using hx, by simp⟩
  | .tmp t :: rs, acc, hx => by
    simp only [resAct] at hx
    split at hx
    · rename_i v hv
      obtain ⟨vs, vs', h1, h2, h3⟩ := resAct_ok R hE rs _ hx
      obtain ⟨v', e1, e2⟩ := hE t v hv
      refine ⟨v :: vs, v' :: vs', .cons e2 h1, by simpa using h2, ?_⟩
      simp_all
    · simp [Act.run, M.fail] at hx
  | .cell s t :: rs, acc, hx => by
    simp only [resAct] at hx
    split at hx
    · rename_i a ha
      obtain ⟨p', e1, e2⟩ := hE s _ ha
      cases e2 with
      | flat _ hf => simp [flat1] at hf
      | ptr _ a' har =>
      have go : ∀ A : Act, (∀ v h1, A.exec h = some (v, h1) → h1 = h ∧ ∃ v', (loadVar t a').run P w = .ok v' w ∧ VRel P ι v v') →
          (resAct.resBind A fun v => resAct P rs E (v :: acc) fin).run K h = some r → ∃ v v', (loadVar t a').run P w = .ok v' w ∧ VRel P ι v v' ∧ (resAct P rs E (v :: acc) fin).run K h = some r := by
        intro A
        have gen : ∀ (A : Act) (h2 : AHeap), (resAct.resBind A fun v => resAct P rs E (v :: acc) fin).run K h2 = some r → ∃ v h3, A.exec h2 = some (v, h3) ∧ (resAct P rs E (v :: acc) fin).run K h3 = some r := by
          intro A
          induction A with
          | val v => intro h2 hx; exact ⟨v, h2, rfl, hx⟩
          | none => intro h2 hx; simp [resAct.resBind, Act.run, M.fail] at hx
          | ask α m k ih =>
            intro h2 hx
            simp only [resAct.resBind, Act.run, M.bind] at hx
            grind [Act.exec]
        grind
      have hx' : (resAct.resBind (ldT P t a) fun v => resAct P rs E (v :: acc) fin).run K h = some r := by
        split at hx
        · rename_i v hv; rw [hv]; exact hx
        · rename_i α m k hv; rw [hv]; exact hx
        · rename_i hv; rw [hv]; exact hx
      obtain ⟨v, v', q1, q2, q3⟩ := go _ (R t a a' har) hx'
      obtain ⟨vs, vs', h1, h2, h3⟩ := resAct_ok R hE rs _ q3
      refine ⟨v :: vs, v' :: vs', .cons q2 h1, by simpa using h2, ?_⟩
      have : tm.getD s undef = .pointer (some a') := by simp [Array.getD_eq_getD_getElem?, e1]
      have ha' : asAddr (Value.pointer (some a')) = Pure.pure a' := rfl
      grind [Sem.run_bind, Sem.run_pure, Result.andThen_ok]
    · simp [Act.run, M.fail] at hx
theorem enter_ok {f : FuncId} {fn : Func} (hf : P.funcs[f]? = some fn) (hb : fn.body.isNone = false) (hn : (fn.name == "runtime.NumGoroutine") = false) (args : Array Value) (w : World) :
    (callFunc f args).run P w = .ok (.enter f args) w := by
  simp only [beq_eq_false_iff_ne, ne_eq] at hn
  simp [callFunc, hf, hb, hn]
  intro h; rw [h] at hb; cases hb
theorem pkTs_length : ∀ (ts : List Ty) (x : TsDen ts), (pkTs ts x).length = ts.length
  | [], _ => rfl
  | [_], _ => rfl
  | t :: t' :: ts, x => by simp [pkTs, pkTs_length (t' :: ts) x.2]
theorem LRel.get? {vs vs' : List Value} (hl : LRel P ι vs vs') {k : Nat} {v : Value} (hk : vs[k]? = some v) : ∃ v', vs'[k]? = some v' ∧ VRel P ι v v' := by
  have hlt : k < vs'.length := by rw [← hl.1]; exact (List.getElem?_eq_some_iff.1 hk).1
  exact ⟨vs'[k], List.getElem?_eq_getElem hlt, hl.2 k v _ hk (List.getElem?_eq_getElem hlt)⟩
theorem tuple_rel {vs vs' : List Value} (hl : LRel P ι vs vs') : VRel P ι (tupleOf vs) (if h : vs'.toArray.size = 1 then vs'.toArray[0] else .tuple vs'.toArray) := by
  have hlen : vs.length = vs'.length := hl.1
  match vs, vs', hl, hlen with
  | [v], [v'], hl, _ =>
    obtain ⟨v2, h1, h2⟩ := hl.get? (k := 0) (v := v) rfl
    cases h1; exact h2
  | [], [], hl, _ => exact .tuple _ _ rfl (by simp)
  | a :: b :: r, a' :: b' :: r', hl, hlen =>
    simp only [tupleOf]
    rw [dif_neg (by simp)]
    refine .tuple _ _ (by simpa using hlen) fun i v v' h1 h2 => ?_
    obtain ⟨u, h3, h4⟩ := hl.get? (k := i) (v := v) (by simpa using h1)
    grind
theorem fin_done {F : Fz} {ts : List Ty} {fn : Func} {E' : Env} {h' : AHeap} {y : TsDen ts} {a' : Go.Act} (R' : Rel P F ι' h' w') (HE' : ERel P ι' E' a'.tmps)
    (hx : (resAct P fn.results.toList E' [] fun vs => .val (tupleOf vs)).run (retK ts) h' = some (y, h1)) :
    ∃ v, (results fn a'.tmps).run P w' = .ok v w' ∧ VRel P ι' (tupleOf (pkTs ts y)) v ∧ Rel P F ι' h1 w' := by
  obtain ⟨vs, vs2, q1, q2, q3⟩ := resAct_ok (fun t a a' ha v h1 he => ldT_sound R' ha he) HE' fn.results.toList [] hx
  simp only [List.reverse_nil, List.nil_append, Act.run, retK] at q2
  generalize hu : unR ts (tupleOf vs) = u at q2
  cases u with
  | none => simp [M.fail] at q2
  | some r =>
    simp only [M.pure] at q2
    cases q2
    refine ⟨(if h : vs2.toArray.size = 1 then vs2.toArray[0] else .tuple vs2.toArray), ?_, ?_, R'⟩
    · unfold results
      rw [Sem.run_bind, ← Array.toArray_toList (xs := fn.results), List.mapM_toArray, Sem.run_map]
      erw [q3]
      rfl
    grind [unR_pk, tuple_rel]
/-- How a function's frame begins. -/
theorem fn_start {as : List Ty} {nt : Nat} {ps : List (Nat × Ty)} {F : Fz} (x : TsDen as) (vs' : Array Value) (hps : ps.map (·.1) = List.range' 0 as.length) (hnt : Nat.ble as.length nt = true) (R : Rel P F ι h w) (hl : LRel P ι (pkTs as x) vs'.toList) :
    Start P { F with dfs := [] } ι (nt, none) (putE ps (pkTs as x)) h { tmps := vs' ++ Array.replicate (nt - vs'.size) undef, defers := [] } w := by
  have hlen := hl.1
  rw [pkTs_length] at hlen
  have hsz : vs'.size = as.length := by simpa using hlen.symm
  have hle := Nat.le_of_ble_eq_true hnt
  refine ⟨R.df [], ?_, rfl, ?_⟩
  · refine putE_params as 0 ps _ vs' _ hps (pkTs_length _ _) fun k v hk => ?_
    obtain ⟨v', h1, h2⟩ := hl.get? hk
    grind
  · simp; omega
theorem fn_ok {e : Ent} {fn : Func} {c : Code} {T : Tabs (TsDen e.rs)} {N : Nat} {ps : List (Nat × Ty)} (hf : P.funcs[e.id]? = some fn) (hb : fn.body = some c) (hn : (fn.name == "runtime.NumGoroutine") = false)
    (hps : ps.map (·.1) = List.range' 0 e.as.length) (hnt : Nat.ble e.as.length fn.ntmps = true) (HT : TabsOK P c T (fn.ntmps, none) (finF P fn e.rs)) (hp : T.pan = fun _ => M.fail)
    (hg : ∀ x, den P c T (fn.ntmps, none) (finF P fn e.rs) N false [.code []] (putE ps (pkTs e.as x)) = e.m x) : FnOK P e := by
  intro x
  refine CallOK.of (fun args w => enter_ok hf (by rw [hb]; rfl) hn args w) ?_
  intro F h y h1 hx ι w vs' R hl
  refine calls_of_wp hf hb ?_
  have S := fn_start (nt := fn.ntmps) x vs' hps hnt R hl
  rw [← hg x] at hx
  intro b k cs
  obtain ⟨e2, a', w', hpost, harr⟩ := den_sound HT N false [.code []] _ _ ι h (y, h1) _ w S hx b k cs
  refine ⟨e2, a', w', ?_, harr⟩
  rcases hpost with hpost | hpan
  · obtain ⟨ae, heq, ι', E', h', hle', hfin, R', HE', hd, hs, hfr⟩ := hpost
    have done : (resAct P fn.results.toList E' [] fun vs => .val (tupleOf vs)).run (retK e.rs) h' = some (y, h1) →
        a'.defers = [] ∧ ∃ v, (results fn a'.tmps).run P w' = .ok v w' ∧ ∃ v' ι', Ending.returned v = .returned v' ∧ VRel P ι' (tupleOf (pkTs e.rs y)) v' ∧ Rel P F ι' h1 w' ∧ ι.le ι' := fun hx =>
      let ⟨v, q1, q2, q3⟩ := fin_done R' HE' hx
      ⟨hd, v, q1, v, ι', rfl, q2, q3.df F.dfs, hle'⟩
    unfold finF at hfin
    cases ae with
    | exit id => simp [M.fail] at hfin
    | normal =>
      cases e2 with
      | normal => exact done hfin
      | _ => exact heq.elim
    | ret =>
      cases e2 with
      | ret => exact done hfin
      | _ => exact heq.elim
  · obtain ⟨ι2, v, v', h, q1, q2, q3, _⟩ := hpan
    rw [hp] at q3; simp [M.fail] at q3
theorem fnp_ok {e : PEnt} {fn : Func} {c : Code} {T : Tabs (TsDen e.rs ⊕ Value)} {N : Nat} {ps : List (Nat × Ty)} (hf : P.funcs[e.id]? = some fn) (hb : fn.body = some c) (hn : (fn.name == "runtime.NumGoroutine") = false)
    (hps : ps.map (·.1) = List.range' 0 e.as.length) (hnt : Nat.ble e.as.length fn.ntmps = true) (HT : TabsOK P c T (fn.ntmps, none) (finP (finF P fn e.rs))) (hp : T.pan = fun v => M.pure (.inr v))
    (hg : ∀ x, den P c T (fn.ntmps, none) (finP (finF P fn e.rs)) N false [.code []] (putE ps (pkTs e.as x)) = e.m x) : PFnOK P e := by
  intro x
  have key : ∀ (F : Fz) h r h1, e.m x h = some (r, h1) → ∀ ι w (vs' : Array Value), Rel P F ι h w → LRel P ι (pkTs e.as x) vs'.toList →
      Calls P e.id vs' w fun en w' => ∃ v' ι', Rel P F ι' h1 w' ∧ ι.le ι' ∧ ((∃ y, r = .inl y ∧ en = .returned v' ∧ VRel P ι' (tupleOf (pkTs e.rs y)) v') ∨ (∃ v, r = .inr v ∧ en = .panicked (one v') ∧ VRel P ι' v v')) := by
    intro F h r h1 hx ι w vs' R hl
    refine calls_of_wp hf hb ?_
    have S := fn_start (nt := fn.ntmps) x vs' hps hnt R hl
    rw [← hg x] at hx
    intro b k cs
    obtain ⟨e2, a', w', hpost, harr⟩ := den_sound HT N false [.code []] _ _ ι h (r, h1) _ w S hx b k cs
    refine ⟨e2, a', w', ?_, harr⟩
    rcases hpost with hpost | hpan
    · obtain ⟨ae, heq, ι', E', h', hle', hfin, R', HE', hd, hs, hfr⟩ := hpost
      simp only [finP, M.bind] at hfin
      split at hfin
      · rename_i y h2 hfin2
        cases hfin
        have done : (resAct P fn.results.toList E' [] fun vs => .val (tupleOf vs)).run (retK e.rs) h' = some (y, h1) →
            a'.defers = [] ∧ ∃ v, (results fn a'.tmps).run P w' = .ok v w' ∧ ∃ v' ι', Rel P F ι' h1 w' ∧ ι.le ι' ∧ ((∃ y', (Sum.inl y : TsDen e.rs ⊕ Value) = .inl y' ∧ Ending.returned v = .returned v' ∧ VRel P ι' (tupleOf (pkTs e.rs y')) v') ∨ (∃ u, (Sum.inl y : TsDen e.rs ⊕ Value) = .inr u ∧ Ending.returned v = .panicked (one v') ∧ VRel P ι' u v')) := fun hx =>
          let ⟨v, q1, q2, q3⟩ := fin_done R' HE' hx
          ⟨hd, v, q1, v, ι', q3.df F.dfs, hle', .inl ⟨y, rfl, rfl, q2⟩⟩
        unfold finF at hfin2
        cases ae with
        | exit id => simp [M.fail] at hfin2
        | normal =>
          cases e2 with
          | normal => exact done hfin2
          | _ => exact heq.elim
        | ret =>
          cases e2 with
          | ret => exact done hfin2
          | _ => exact heq.elim
      · cases hfin
    · obtain ⟨ι2, v, v', h, q1, q2, q3, q4, q5, q6, q7⟩ := hpan
      rw [hp] at q3
      simp only [M.pure] at q3
      cases q3
      subst q1
      exact ⟨q6, v', ι2, q5.df F.dfs, q2, .inr ⟨v, rfl, rfl, q4⟩⟩
  refine ⟨fun args w => enter_ok hf (by rw [hb]; rfl) hn args w, ?_, ?_⟩
  · intro F h y h1 hx ι w vs' R hl
    refine (key F h _ h1 hx ι w vs' R hl).mono ?_
    grind
  · intro F h v h1 hx ι w vs' R hl
    refine (key F h _ h1 hx ι w vs' R hl).mono ?_
    grind
end Go.Ago
