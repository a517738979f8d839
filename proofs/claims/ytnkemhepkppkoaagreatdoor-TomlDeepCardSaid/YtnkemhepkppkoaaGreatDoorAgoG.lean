/-
The denotation of code is sound: what it gives, the model's machine does. No theorem about the program stands here.
-/
import Derived.Test.YtnkemhepkppkoaaGreatDoorAgoU
import Derived.Scope
set_option linter.all false
namespace Go.Ago
open Go
variable {P : Program} {ι ι' : IMap} {h h' h1 : AHeap} {w w' : World}

def itemsOf (body : Code) (todo : List PItem) : List Item := todo.map fun
  | .code p => .code (codeAt body p)
  | .blk id => .inBlock id
  | .scp p => .inScope (codeAt body p)
def eqv : Exit → AExit → Prop
  | .normal, .normal => True
  | .exit a, .exit b => a = b
  | .ret, .ret => True
  | _, _ => False
def Runs (P : Program) (its : List Item) (Q : Exit → Go.Act → World → Prop) (a : Go.Act) (w : World) : Prop :=
  ∀ (b : Frame) (k : List Item) (cs : List Frame), ∃ e a' w', Q e a' w' ∧ Arrives P (lone (b.at a (its ++ k)) cs w) b k cs e a' w'
def Post {R : Type} (P : Program) (F : Fz) (ι : IMap) (W : Wr) (t0 : Array Value) (fin : AExit → Env → M R) (pan : Value → M R) (r : R × AHeap) : Exit → Go.Act → World → Prop :=
  fun e a w => (∃ ae, eqv e ae ∧ Now P F ι W t0 (fin ae) r a w) ∨ PanP P F ι W t0 pan r e a w
/-- What a loop leaves that ends in a panic. -/
def LPan (P : Program) (F : Fz) (ι : IMap) (W : Wr) (t0 : Array Value) (v : Value) (h1 : AHeap) : Exit → Go.Act → World → Prop :=
  fun e a w => ∃ ι' v', e = .panic (one v') ∧ ι.le ι' ∧ VRel P ι' v v' ∧ Rel P F ι' h1 w ∧ a.defers = F.dfs ∧ a.tmps.size = W.1 ∧ Frm W t0 a.tmps
/-- What a loop leaves. -/
def LPost (P : Program) (F : Fz) (ι : IMap) (W : Wr) (t0 : Array Value) (ae : AExit) (E' : Env) (h1 : AHeap) : Exit → Go.Act → World → Prop :=
  fun e a w => eqv e ae ∧ ∃ ι', ι.le ι' ∧ Rel P F ι' h1 w ∧ ERel P ι' E' a.tmps ∧ a.defers = F.dfs ∧ a.tmps.size = W.1 ∧ Frm W t0 a.tmps
structure Start (P : Program) (F : Fz) (ι : IMap) (W : Wr) (E : Env) (h : AHeap) (a : Go.Act) (w : World) : Prop where
  rel : Rel P F ι h w
  env : ERel P ι E a.tmps
  defers : a.defers = F.dfs
  size : a.tmps.size = W.1
def LoopOK (P : Program) (body : Code) (W : Wr) (p : Path) (E : Env) : LoopAct → Prop
  | .one _ m e out => ∀ F h x h1, m h = some (x, h1) → ∀ ι w a, Start P F ι W E h a w → (codeAt body p).wp P (LPost P F ι W a.tmps e (out x) h1) a w
  | .two _ _ m e out e' out' => (∀ F h x h1, m h = some (.inl x, h1) → ∀ ι w a, Start P F ι W E h a w → (codeAt body p).wp P (LPost P F ι W a.tmps e (out x) h1) a w) ∧
      (∀ F h x h1, m h = some (.inr x, h1) → ∀ ι w a, Start P F ι W E h a w → (codeAt body p).wp P (LPost P F ι W a.tmps e' (out' x) h1) a w)
  | .pone _ m e out => (∀ F h x h1, m h = some (.inl x, h1) → ∀ ι w a, Start P F ι W E h a w → (codeAt body p).wp P (LPost P F ι W a.tmps e (out x) h1) a w) ∧
      (∀ F h v h1, m h = some (.inr v, h1) → ∀ ι w a, Start P F ι W E h a w → (codeAt body p).wp P (LPan P F ι W a.tmps v h1) a w)
  | .ptwo _ _ m e out e' out' => (∀ F h x h1, m h = some (.inl (.inl x), h1) → ∀ ι w a, Start P F ι W E h a w → (codeAt body p).wp P (LPost P F ι W a.tmps e (out x) h1) a w) ∧
      (∀ F h x h1, m h = some (.inl (.inr x), h1) → ∀ ι w a, Start P F ι W E h a w → (codeAt body p).wp P (LPost P F ι W a.tmps e' (out' x) h1) a w) ∧
      (∀ F h v h1, m h = some (.inr v, h1) → ∀ ι w a, Start P F ι W E h a w → (codeAt body p).wp P (LPan P F ι W a.tmps v h1) a w)
  | .none => True
structure TabsOK {R : Type} (P : Program) (body : Code) (T : Tabs R) (W : Wr) (fin : AExit → Env → M R) : Prop where
  call : CtabOK P T.call
  loop : ∀ p E, LoopOK P body W p E (T.loop p E)
  join : ∀ p k J, T.join p = some (k, J) → ∀ E m, J E = some m → ∀ F h r, m h = some r → ∀ ι w a, Start P F ι W E h a w → Runs P (itemsOf body (.code p :: k)) (Post P F ι W a.tmps fin T.pan r) a w

theorem Runs.steps {its its' : List Item} {Q : Exit → Go.Act → World → Prop} {a a' : Go.Act} (hst : ∀ (b : Frame) (k : List Item) (cs : List Frame), Steps P (lone (b.at a (its ++ k)) cs w) (lone (b.at a' (its' ++ k)) cs w'))
    (hr : Runs P its' Q a' w') : Runs P its Q a w := fun b k cs =>
  let ⟨e, a2, w2, q, harr⟩ := hr b k cs
  ⟨e, a2, w2, q, .of_steps (hst b k cs) harr⟩
theorem Runs.mono {its : List Item} {Q Q' : Exit → Go.Act → World → Prop} {a : Go.Act} (hr : Runs P its Q a w) (hq : ∀ e a w, Q e a w → Q' e a w) : Runs P its Q' a w := fun b k cs =>
  let ⟨e, a2, w2, q, harr⟩ := hr b k cs
  ⟨e, a2, w2, hq _ _ _ q, harr⟩
/-- A piece of code that ends as the post says, and what stands behind it. -/
theorem Runs.code {c : Code} {its : List Item} {Q : Exit → Go.Act → World → Prop} {a : Go.Act} (hc : c.wp P (fun e a w => e = .normal ∧ Runs P its Q a w) a w) : Runs P (.code c :: its) Q a w := by
  intro b k cs
  obtain ⟨e, a1, w1, ⟨rfl, hq⟩, harr⟩ := hc b (its ++ k) cs
  obtain ⟨e, a2, w2, q, harr2⟩ := hq b k cs
  exact ⟨e, a2, w2, q, .of_steps harr harr2⟩
/-- The same, where the piece may end in a panic. -/
theorem Runs.codeP {c : Code} {its : List Item} {Q : Exit → Go.Act → World → Prop} {a : Go.Act} (hc : c.wp P (fun e a w => (e = .normal ∧ Runs P its Q a w) ∨ ((∃ ch, e = .panic ch) ∧ Q e a w)) a w) : Runs P (.code c :: its) Q a w := by
  intro b k cs
  obtain ⟨e, a1, w1, hq | ⟨⟨ch, rfl⟩, hq⟩, harr⟩ := hc b (its ++ k) cs
  · obtain ⟨rfl, hq⟩ := hq
    obtain ⟨e, a2, w2, q, harr2⟩ := hq b k cs
    exact ⟨e, a2, w2, q, .of_steps harr harr2⟩
  · exact ⟨.panic ch, a1, w1, hq, harr⟩
theorem Runs.panCode {its : List Item} {Q : Exit → Go.Act → World → Prop} {c : Code} {a : Go.Act} (hc : c.wp P (fun e a w => (∃ ch, e = .panic ch) ∧ Q e a w) a w) : Runs P (.code c :: its) Q a w := by
  intro b k0 cs
  obtain ⟨e, a1, w1, ⟨⟨ch, rfl⟩, h1⟩, harr⟩ := hc b (its ++ k0) cs
  exact ⟨.panic ch, a1, w1, h1, harr⟩
theorem exitTo_append {id : Nat} : ∀ {its its' : List Item} (k : List Item), exitTo id its = some its' → exitTo id (its ++ k) = some (its' ++ k)
  | [], _, _, h => by simp [exitTo] at h
  | x :: its, its', k, h => by
    cases x with
    | inBlock id' =>
      simp only [exitTo, List.cons_append] at h ⊢
      split at h
      · rename_i e; rw [if_pos e]; cases h; rfl
      · rename_i e; rw [if_neg e]; exact exitTo_append k h
    | _ => simp only [exitTo, List.cons_append] at h ⊢; exact exitTo_append k h
theorem exitTo_append_none {id : Nat} : ∀ {its : List Item} (k : List Item), exitTo id its = none → exitTo id (its ++ k) = exitTo id k
  | [], _, _ => rfl
  | x :: its, k, h => by
    cases x with
    | inBlock id' =>
      simp only [exitTo, List.cons_append] at h ⊢
      split at h
      · cases h
      · rename_i e; rw [if_neg e]; exact exitTo_append_none k h
    | _ => simp only [exitTo, List.cons_append] at h ⊢; exact exitTo_append_none k h
theorem exitP_spec (body : Code) (id : Nat) : ∀ (k : List PItem), exitTo id (itemsOf body k) = (exitP id k).map (itemsOf body)
  | [] => rfl
  | .code p :: k => by simp only [itemsOf, List.map_cons, exitTo, exitP]; exact exitP_spec body id k
  | .scp p :: k => by simp only [itemsOf, List.map_cons, exitTo, exitP]; exact exitP_spec body id k
  | .blk id' :: k => by
    simp only [itemsOf, List.map_cons, exitTo, exitP]
    cases hb : Nat.beq id' id with
    | true => grind [Nat.eq_of_beq_eq_true, itemsOf]
    | false =>
      have : id' ≠ id := fun e => by subst e; rw [Nat.beq_refl] at hb; cases hb
      rw [if_neg (by simpa using this)]; exact exitP_spec body id k
/-- A jump out of what stands ahead. -/
theorem Runs.exitCode {body : Code} {id : Nat} {k : List PItem} {Q : Exit → Go.Act → World → Prop} {a : Go.Act} {its : List Item}
    (hst : ∀ (b : Frame) (k0 : List Item) (cs : List Frame) k', exitTo id (itemsOf body k ++ k0) = some k' → Steps P (lone (b.at a (its ++ k0)) cs w) (lone (b.at a k') cs w))
    (h1 : ∀ k', exitP id k = some k' → Runs P (itemsOf body k') Q a w) (h2 : exitP id k = none → Q (.exit id) a w) : Runs P its Q a w := by
  intro b k0 cs
  have hs := exitP_spec body id k
  cases hp : exitP id k with
  | some k' =>
    rw [hp] at hs
    obtain ⟨e, a2, w2, q, harr⟩ := h1 k' hp b k0 cs
    exact ⟨e, a2, w2, q, .of_steps (hst b k0 cs _ (exitTo_append k0 hs)) harr⟩
  | none =>
    rw [hp] at hs
    refine ⟨.exit id, a, w, h2 hp, fun k' hk' => hst b k0 cs k' ?_⟩
    rw [exitTo_append_none k0 hs]; exact hk'
theorem Runs.exitCode' {body : Code} {id : Nat} {k : List PItem} {Q : Exit → Go.Act → World → Prop} {c : Code} {a : Go.Act}
    (hc : c.wp P (fun e a w => e = .exit id ∧ (∀ k', exitP id k = some k' → Runs P (itemsOf body k') Q a w) ∧ (exitP id k = none → Q (.exit id) a w)) a w) : Runs P (.code c :: itemsOf body k) Q a w := by
  intro b k0 cs
  obtain ⟨e, a1, w1, ⟨rfl, h1, h2⟩, harr⟩ := hc b (itemsOf body k ++ k0) cs
  have hs := exitP_spec body id k
  cases hp : exitP id k with
  | some k' =>
    rw [hp] at hs
    obtain ⟨e, a2, w2, q, harr2⟩ := h1 k' hp b k0 cs
    exact ⟨e, a2, w2, q, .of_steps (harr _ (exitTo_append k0 hs)) harr2⟩
  | none =>
    rw [hp] at hs
    refine ⟨.exit id, a1, w1, h2 hp, fun k' hk' => harr k' ?_⟩
    rw [exitTo_append_none k0 hs]; exact hk'
theorem Runs.retCode {its : List Item} {Q : Exit → Go.Act → World → Prop} {c : Code} {a : Go.Act} (hc : c.wp P (fun e a w => e = .ret ∧ Q .ret a w) a w) : Runs P (.code c :: its) Q a w := by
  intro b k0 cs
  obtain ⟨e, a1, w1, ⟨rfl, h1⟩, harr⟩ := hc b (its ++ k0) cs
  exact ⟨.ret, a1, w1, h1, harr⟩
theorem eqItems_eq : ∀ {k l : List PItem}, eqItems k l = true → k = l := by
  have hp : ∀ {p q : Path}, eqPath p q = true → p = q := by
    intro p
    induction p with
    | nil => grind [eqPath]
    | cons a p ih => intro q hq; cases q with
      | nil => simp [eqPath] at hq
      | cons b q =>
        simp only [eqPath, Bool.and_eq_true] at hq
        rw [Nat.eq_of_beq_eq_true hq.1, ih hq.2]
  intro k
  induction k with
  | nil => grind [eqItems]
  | cons x k ih => intro l hl; cases l with
    | nil => cases x <;> simp [eqItems] at hl
    | cons y l =>
      cases x <;> cases y <;> simp only [eqItems, Bool.and_eq_true] at hl <;> first
        | (rw [hp hl.1, ih hl.2])
        | (rw [Nat.eq_of_beq_eq_true hl.1, ih hl.2])
        | (cases hl)
theorem Now.start {R : Type} {F : Fz} {W : Wr} {t0 : Array Value} {K : Env → M R} {r : R × AHeap} {a : Go.Act} (hn : Now P F ι W t0 K r a w) :
    ∃ ι' E h, ι.le ι' ∧ K E h = some r ∧ Start P F ι' W E h a w ∧ Frm W t0 a.tmps :=
  let ⟨ι', E, h, q1, q2, q3, q4, q5, q6, q7⟩ := hn
  ⟨ι', E, h, q1, q2, ⟨q3, q4, q5, q6⟩, q7⟩
theorem Post.trans {R : Type} {F : Fz} {W : Wr} {t0 t1 : Array Value} {fin : AExit → Env → M R} {pan : Value → M R} {r : R × AHeap} (hle : ι.le ι') (hf : Frm W t0 t1) (e : Exit) (a : Go.Act) (w : World)
    (hp : Post P F ι' W t1 fin pan r e a w) : Post P F ι W t0 fin pan r e a w := by
  rcases hp with ⟨ae, h1, ι2, E, h, q1, q2, q3, q4, q5, q6, q7⟩ | hp
  · exact .inl ⟨ae, h1, ι2, E, h, hle.trans q1, q2, q3, q4, q5, q6, hf.trans q7⟩
  · exact .inr (hp.trans hle hf)

theorem map_fst (l : List Nat) : (l.map fun i => (i, ([] : List Nat))).map (·.1) = l := by
  rw [List.map_map]
  have : ((fun x : Nat × List Nat => x.1) ∘ fun i => (i, ([] : List Nat))) = id := rfl
  rw [this, List.map_id]
theorem den_sound {R : Type} {body : Code} {T : Tabs R} {W : Wr} {fin : AExit → Env → M R} (HT : TabsOK P body T W fin) :
    ∀ (n : Nat) (j : Bool) (todo : List PItem) (E : Env) (F : Fz) (ι : IMap) (h : AHeap) (r : R × AHeap) (a : Go.Act) (w : World), Start P F ι W E h a w →
      den P body T W fin n j todo E h = some r → Runs P (itemsOf body todo) (Post P F ι W a.tmps fin T.pan r) a w
  | 0, j, todo, E, F, ι, h, r, a, w, S, hx => by simp [den, M.fail] at hx
  | n + 1, j, [], E, F, ι, h, r, a, w, S, hx => fun b k cs =>
    ⟨.normal, a, w, .inl ⟨.normal, trivial, ι, E, h, .refl _, hx, S.rel, S.env, S.defers, S.size, .refl _ _⟩, Steps.refl _ _⟩
  | n + 1, j, .blk id :: k, E, F, ι, h, r, a, w, S, hx => by
    have ih := den_sound HT n true k E F ι h r a w S hx
    exact ih.steps fun b k0 cs => .one step_inBlock
  | n + 1, j, .scp p :: k, E, F, ι, h, r, a, w, S, hx => by
    have ih := den_sound HT n true k E F ι h r a w S hx
    exact ih.steps fun b k0 cs => .one step_inScope
  | n + 1, j, .code p :: k, E, F, ι, h, r, a, w, S, hx => by
    have ih := den_sound HT n
    generalize hm : den P body T W fin (n + 1) j (.code p :: k) E = m at hx
    unfold den at hm
    have ops : ∀ {id : Nat} {ops : Array Oper} {draw : Bool}, codeAt body p = .region id ops draw →
        (codeAt body p).wp P (fun e a' w' => e = .normal ∧ Now P F ι W a.tmps (fun E' => den P body T W fin n true k E') r a' w') a w → Runs P (itemsOf body (.code p :: k)) (Post P F ι W a.tmps fin T.pan r) a w := by
      intro id ops draw _ hwp
      refine Runs.code (wp_mono hwp ?_)
      rintro e a' w' ⟨rfl, hn⟩
      obtain ⟨ι', E', h', q1, q2, q3, q4⟩ := hn.start
      exact ⟨rfl, (ih true k E' F ι' h' r a' w' q3 q2).mono fun e a w => Post.trans q1 q4 e a w⟩
    have opsP : ∀ {id : Nat} {ops : Array Oper} {draw : Bool}, codeAt body p = .region id ops draw →
        (codeAt body p).wp P (fun e a' w' => (e = .normal ∧ Now P F ι W a.tmps (fun E' => den P body T W fin n true k E') r a' w') ∨ PanP P F ι W a.tmps T.pan r e a' w') a w → Runs P (itemsOf body (.code p :: k)) (Post P F ι W a.tmps fin T.pan r) a w := by
      intro id ops draw _ hwp
      refine Runs.codeP (wp_mono hwp ?_)
      rintro e a' w' (⟨rfl, hn⟩ | hp)
      · obtain ⟨ι', E', h', q1, q2, q3, q4⟩ := hn.start
        exact .inl ⟨rfl, (ih true k E' F ι' h' r a' w' q3 q2).mono fun e a w => Post.trans q1 q4 e a w⟩
      · obtain ⟨ι2, v, v', h, q1, q2⟩ := hp
        exact .inr ⟨⟨_, q1⟩, .inr ⟨ι2, v, v', h, q1, q2⟩⟩
    have loopPan : ∀ (v : Value) (h1 : AHeap), (codeAt body p).wp P (LPan P F ι W a.tmps v h1) a w → T.pan v h1 = some r → Runs P (itemsOf body (.code p :: k)) (Post P F ι W a.tmps fin T.pan r) a w := by
      intro v h1 hwp hv
      refine Runs.panCode (wp_mono hwp ?_)
      rintro e a' w' ⟨ι', v', rfl, q1, q2, q3, q4, q5, q6⟩
      exact ⟨⟨_, rfl⟩, .inr ⟨ι', v, v', h1, rfl, q1, hv, q2, q3, q4, q5, q6⟩⟩
    have loopEnd : ∀ (ae : AExit) (E' : Env) (h1 : AHeap), (codeAt body p).wp P (LPost P F ι W a.tmps ae E' h1) a w →
        (∀ id, ae = .exit id → (∀ k', exitP id k = some k' → den P body T W fin n true k' E' h1 = some r) ∧ (exitP id k = none → fin (.exit id) E' h1 = some r)) →
        (ae = .ret → fin .ret E' h1 = some r) → (ae ≠ .normal) → Runs P (itemsOf body (.code p :: k)) (Post P F ι W a.tmps fin T.pan r) a w := by
      intro ae E' h1 hwp hex hret hno
      cases ae with
      | normal => exact absurd rfl hno
      | exit id =>
        refine Runs.exitCode' (body := body) (id := id) (k := k) (wp_mono hwp ?_)
        rintro e a' w' ⟨he, ι', q1, q2, q3, q4, q5, q6⟩
        cases e with
        | exit id' =>
          have : id' = id := he
          subst this
          refine ⟨rfl, fun k' hk' => ?_, fun hk' => .inl ⟨.exit id', rfl, ι', E', h1, q1, (hex id' rfl).2 hk', q2, q3, q4, q5, q6⟩⟩
          exact (ih true k' E' F ι' h1 r a' w' ⟨q2, q3, q4, q5⟩ ((hex id' rfl).1 k' hk')).mono fun e a w => Post.trans q1 q6 e a w
        | _ => exact he.elim
      | ret =>
        refine Runs.retCode (wp_mono hwp ?_)
        rintro e a' w' ⟨he, ι', q1, q2, q3, q4, q5, q6⟩
        cases e with
        | ret => exact ⟨rfl, .inl ⟨.ret, trivial, ι', E', h1, q1, hret rfl, q2, q3, q4, q5, q6⟩⟩
        | _ => exact he.elim
    split at hm
    · -- a place where ways meet
      rename_i k' J hj
      split at hm
      · rename_i hk
        have hk := eqItems_eq hk
        subst hk
        split at hm
        · rename_i m0 hJ
          subst hm
          have hj' : T.join p = some (k, J) := by
            split at hj
            · exact hj
            · cases hj
          exact HT.join p k J hj' E m0 hJ F h r hx ι w a S
        · subst hm; simp [M.fail] at hx
      · subst hm; simp [M.fail] at hx
    · split at hm
      · -- skip
        rename_i hc; subst hm
        refine (ih true k E F ι h r a w S hx).steps fun b k0 cs => ?_
        simp only [itemsOf, List.map_cons, hc, List.cons_append]
        exact .one step_skip
      · rename_i l hc; subst hm
        refine (ih true k E F ι h r a w S hx).steps fun b k0 cs => ?_
        simp only [itemsOf, List.map_cons, hc, List.cons_append]
        exact .one step_label
      · rename_i x y hc; subst hm
        refine (ih true _ E F ι h r a w S hx).steps fun b k0 cs => ?_
        simp only [itemsOf, List.map_cons, hc, List.cons_append]
        have e0 : codeAt body (0 :: p) = x := by simp [codeAt, hc, child]
        have e1 : codeAt body (1 :: p) = y := by simp [codeAt, hc, child]
        rw [e0, e1]
        exact .one step_seq
      · -- cond
        rename_i c x y hc
        have e0 : codeAt body (0 :: p) = x := by simp [codeAt, hc, child]
        have e1 : codeAt body (1 :: p) = y := by simp [codeAt, hc, child]
        split at hm
        · rename_i b hb
          have hev := (ev_sound S.env hb).bool
          unfold iteB at hm
          split at hm
          · rename_i e; subst e; subst hm
            refine (ih true _ _ F ι h r a w ⟨S.rel, S.env.learn hb, S.defers, S.size⟩ hx).steps fun b k0 cs => ?_
            simp only [itemsOf, List.map_cons, hc, List.cons_append, e0]
            exact .one (step_cond (t := true) hev)
          · rename_i e
            have : b = false := by cases b <;> simp_all
            subst this; subst hm
            refine (ih true _ _ F ι h r a w ⟨S.rel, S.env.learn hb, S.defers, S.size⟩ hx).steps fun b k0 cs => ?_
            simp only [itemsOf, List.map_cons, hc, List.cons_append, e1]
            exact .one (step_cond (t := false) hev)
        · subst hm; simp [M.fail] at hx
      · rename_i id c hc; subst hm
        refine (ih true _ E F ι h r a w S hx).steps fun b k0 cs => ?_
        have e0 : codeAt body (0 :: p) = c := by simp [codeAt, hc, child]
        simp only [itemsOf, List.map_cons, hc, List.cons_append, e0]
        exact .one step_block
      · -- scope
        rename_i c hc; subst hm
        refine (ih true _ E F ι h r a w S hx).steps fun b k0 cs => ?_
        have e0 : codeAt body (0 :: p) = c := by simp [codeAt, hc, child]
        simp only [itemsOf, List.map_cons, hc, List.cons_append, e0]
        exact .one step_scope
      · -- loop
        rename_i c hc
        have hl := HT.loop p E
        split at hm
        · rename_i α m0 e out hT
          rw [hT] at hl
          subst hm
          simp only [M.bind] at hx
          split at hx
          · rename_i x h1 hm0
            refine loopEnd e (out x) h1 (hl F h x h1 hm0 ι w a S) ?_ ?_ ?_
            · rintro id rfl
              simp only at hx
              refine ⟨fun k' hk' => ?_, fun hk' => ?_⟩
              · rw [hk'] at hx; exact hx
              · rw [hk'] at hx; exact hx
            · rintro rfl; exact hx
            · rintro rfl; simp [M.fail] at hx
          · cases hx
        · rename_i α β m0 e out e' out' hT
          rw [hT] at hl
          subst hm
          simp only [M.bind] at hx
          split at hx
          · rename_i x h1 hm0
            cases x with
            | inl x =>
              simp only [sumElim] at hx
              refine loopEnd e (out x) h1 (hl.1 F h x h1 hm0 ι w a S) ?_ ?_ ?_
              · rintro id rfl
                simp only at hx
                refine ⟨fun k' hk' => ?_, fun hk' => ?_⟩
                · rw [hk'] at hx; exact hx
                · rw [hk'] at hx; exact hx
              · rintro rfl; exact hx
              · rintro rfl; simp [M.fail] at hx
            | inr x =>
              simp only [sumElim] at hx
              refine loopEnd e' (out' x) h1 (hl.2 F h x h1 hm0 ι w a S) ?_ ?_ ?_
              · rintro id rfl
                simp only at hx
                refine ⟨fun k' hk' => ?_, fun hk' => ?_⟩
                · rw [hk'] at hx; exact hx
                · rw [hk'] at hx; exact hx
              · rintro rfl; exact hx
              · rintro rfl; simp [M.fail] at hx
          · cases hx
        · rename_i α m0 e out hT
          rw [hT] at hl
          subst hm
          simp only [M.bind] at hx
          split at hx
          · rename_i x h1 hm0
            cases x with
            | inl x =>
              simp only [sumElim] at hx
              refine loopEnd e (out x) h1 (hl.1 F h x h1 hm0 ι w a S) ?_ ?_ ?_
              · rintro id rfl
                simp only at hx
                refine ⟨fun k' hk' => ?_, fun hk' => ?_⟩
                · rw [hk'] at hx; exact hx
                · rw [hk'] at hx; exact hx
              · rintro rfl; exact hx
              · rintro rfl; simp [M.fail] at hx
            | inr v => exact loopPan v h1 (hl.2 F h v h1 hm0 ι w a S) hx
          · cases hx
        · rename_i α β m0 e out e' out' hT
          rw [hT] at hl
          subst hm
          simp only [M.bind] at hx
          split at hx
          · rename_i x h1 hm0
            rcases x with (x | x) | v
            · simp only [sumElim] at hx
              refine loopEnd e (out x) h1 (hl.1 F h x h1 hm0 ι w a S) ?_ ?_ ?_
              · rintro id rfl
                simp only at hx
                refine ⟨fun k' hk' => ?_, fun hk' => ?_⟩
                · rw [hk'] at hx; exact hx
                · rw [hk'] at hx; exact hx
              · rintro rfl; exact hx
              · rintro rfl; simp [M.fail] at hx
            · simp only [sumElim] at hx
              refine loopEnd e' (out' x) h1 (hl.2.1 F h x h1 hm0 ι w a S) ?_ ?_ ?_
              · rintro id rfl
                simp only at hx
                refine ⟨fun k' hk' => ?_, fun hk' => ?_⟩
                · rw [hk'] at hx; exact hx
                · rw [hk'] at hx; exact hx
              · rintro rfl; exact hx
              · rintro rfl; simp [M.fail] at hx
            · exact loopPan v h1 (hl.2.2 F h v h1 hm0 ι w a S) hx
          · cases hx
        · subst hm; simp [M.fail] at hx
      · -- exit
        rename_i id hc
        refine Runs.exitCode (body := body) (id := id) (k := k) (fun b k0 cs k' hk' => ?_) (fun k' hk' => ?_) (fun hk' => ?_)
        · simp only [itemsOf, List.map_cons, hc, List.cons_append]
          exact .one (step_exit hk')
        · rw [hk'] at hm; subst hm
          exact ih true k' E F ι h r a w S hx
        · rw [hk'] at hm; subst hm
          exact .inl ⟨.exit id, rfl, ι, E, h, .refl _, hx, S.rel, S.env, S.defers, S.size, .refl _ _⟩
      · rename_i hc; subst hm
        intro b k0 cs
        simp only [itemsOf, List.map_cons, hc, List.cons_append]
        exact ⟨.ret, a, w, .inl ⟨.ret, trivial, ι, E, h, .refl _, hx, S.rel, S.env, S.defers, S.size, .refl _ _⟩, _, .one step_ret⟩
      · -- regions
        rename_i id os draw hc
        split at hm
        · -- that draw
          refine opsP hc ?_
          rw [hc]
          split at hm
          · rename_i l hl
            split at hm
            · rename_i hok
              rw [Bool.and_eq_true] at hok
              obtain ⟨hok, hbok⟩ := hok
              unfold drawOKP at hok
              simp only [Bool.and_eq_true] at hok
              obtain ⟨⟨hok1, hok2⟩, hok3⟩ := hok
              have hdst : ∀ (i : Nat) o, os[i]? = some o → isPanCall T.call o = true → o.dst.isSome = true := by
                intro i o ho hi
                have := List.all_eq_true.1 hok3 o (by rw [Array.mem_toList_iff]; exact Array.mem_of_getElem? ho)
                have hi : isPanCall (T.call.chk P 0 os l) o = true := hi
                rw [hi] at this
                simpa using this
              rw [panOK_chk] at hok2
              have fin2 : ∀ (nb : Nat) (h2 : AHeap), Rel P F ι h2 w → denOpsD P (T.call.chk P nb os l) W (some nb) os T.pan l E LEnv.emp (fun _ => none) (fun E' => den P body T W fin n true k E') h2 = some r →
                  (Code.region id os true).wp P (fun e a' w' => (e = .normal ∧ Now P F ι W a.tmps (fun E' => den P body T W fin n true k E') r a' w') ∨ PanP P F ι W a.tmps T.pan r e a' w') a w := by
                intro nb h2 R2 hx
                refine wp_region_draw fun t => ?_
                have R3 : Rel P F ι h2 { w with drawn := w.drawn + 1 } := R2.of_heap rfl ⟨rfl, rfl⟩
                rcases denOpsD_any (P := P) (C := T.call.chk P nb os l) (W := W) (nb := nb) (HT.call.chk nb os l).mo (chk_HB hbok) (HT.call.chk nb os l).dis (HT.call.chk nb os l).isP hok1 (by rw [panOK_chk]; exact hok2) hdst t hx with hany | hany
                · have := denOps_sound (ι := ι) (F := F) (t0 := a.tmps) (HT.call.chk nb os l).noPan S.rel.lib (Q := fun e a' w' => (e = .normal ∧ Now P F ι W a.tmps (fun E' => den P body T W fin n true k E') r a' w') ∨ PanP P F ι W a.tmps T.pan r e a' w') (fun a w hn => .inl ⟨rfl, hn⟩) _ E LEnv.emp (fun _ => none) F ι h2 a { w with drawn := w.drawn + 1 } R3 S.env .emp S.defers S.size (.refl _ _) (.refl _) (.refl _) hany
                  rw [map_fst] at this; exact this
                · exact denOpsP_sound (ι := ι) (F := F) (t0 := a.tmps) (HT.call.chk nb os l) S.rel.lib _ E LEnv.emp F ι h2 a { w with drawn := w.drawn + 1 } R3 S.env .emp S.defers S.size (.refl _ _) (.refl _) (.refl _) hany
              split at hm
              · subst hm
                simp only [M.bind, Ago.reserve] at hx
                exact fin2 _ _ (S.rel.reserve _) hx
              · subst hm
                exact fin2 _ _ S.rel hx
            · subst hm; simp [M.fail] at hx
          · subst hm; simp [M.fail] at hx
        · subst hm
          refine opsP hc ?_
          rw [hc]
          refine wp_region ?_
          exact denOpsP_sound (ι := ι) (F := F) (t0 := a.tmps) HT.call S.rel.lib _ E LEnv.emp F ι h a w S.rel S.env .emp S.defers S.size (.refl _ _) (.refl _) (.refl _) hx
      · subst hm; simp [M.fail] at hx
end Go.Ago
