/-
Loops: a shallow loop whose round equals the denotation of the loop's body is sound. No theorem about the program stands here.
-/
import Derived.Test.YtnkemhepkppkoaaGreatDoorAgoH
set_option linter.all false
namespace Go.Ago
open Go
variable {P : Program} {ι ι' : IMap} {h h' h1 : AHeap} {w w' : World}

theorem rounds_mono {c : Code} {Q Q' : Exit → Go.Act → World → Prop} (hq : ∀ e a w, e ≠ .normal → Q e a w → Q' e a w) : ∀ (n : Nat) (a : Go.Act) (w : World), Code.rounds P c Q n a w → Code.rounds P c Q' n a w
  | 0, _, _, h => h
  | n + 1, a, w, h => wp_mono h fun e a w he => by
    cases e with
    | normal => exact rounds_mono hq n a w he
    | _ => exact hq _ _ _ (by simp) he
def nextL {R : Type} (ls : List (Nat × Ty)) (g : TsDen (tys ls) → M R) (E : Env) : M R :=
  match getE E ls with
  | some vs => (match unTs (tys ls) vs with | some x => g x | none => M.fail)
  | none => M.fail
theorem nextL_spec {R : Type} {ls : List (Nat × Ty)} {g : TsDen (tys ls) → M R} {E : Env} {r : R × AHeap} (hx : nextL ls g E h = some r) : ∃ x, getE E ls = some (pkTs (tys ls) x) ∧ g x h = some r := by
  unfold nextL at hx
  generalize hg : getE E ls = o at hx
  cases o with
  | none => simp [M.fail] at hx
  | some vs =>
    simp only at hx
    generalize hu : unTs (tys ls) vs = o at hx
    cases o with
    | none => simp [M.fail] at hx
    | some x => exact ⟨x, by rw [← unTs_pk hu], hx⟩
theorem loop_key {R : Type} {body c : Code} {p : Path} {ls : List (Nat × Ty)} {nt : Nat} {ws : List Nat} {G : Nat → TsDen (tys ls) → M R} {fin : Nat → AExit → Env → M R} {T : Nat → Tabs R} {N : Nat}
    (hc : codeAt body p = .loop c) (h0 : ∀ x, G 0 x = M.fail)
    (hs : ∀ n x, den P body (T n) (nt, some ws) (fin n) N false [.code (0 :: p)] (putE ls (pkTs (tys ls) x)) = G (n + 1) x)
    (hn : ∀ n E, fin n .normal E = nextL ls (G n) E) :
    ∀ (n : Nat), (∀ m, m < n → TabsOK P body (T m) (nt, some ws) (fin m)) → ∀ (x : TsDen (tys ls)) (F : Fz) (h : AHeap) (r : R × AHeap), G n x h = some r → ∀ (ι : IMap) (w : World) (a : Go.Act), Start P F ι (nt, some ws) (putE ls (pkTs (tys ls) x)) h a w →
      Code.rounds P c (fun e a' w' => ∃ m, Post P F ι (nt, some ws) a.tmps (fin m) (T m).pan r e a' w') n a w
  | 0, _, x, F, h, r, hx, ι, w, a, S => by rw [h0] at hx; simp [M.fail] at hx
  | n + 1, hT, x, F, h, r, hx, ι, w, a, S => by
    rw [← hs] at hx
    have hd := den_sound (hT n (Nat.lt_succ_self n)) N false [.code (0 :: p)] _ F ι h r a w S hx
    have hcc : codeAt body (0 :: p) = c := by show child (codeAt body p) 0 = c; rw [hc]; rfl
    intro b k cs
    obtain ⟨e, a', w', hpost, harr⟩ := hd b k cs
    refine ⟨e, a', w', ?_, by grind [itemsOf]⟩
    cases e with
    | normal =>
      rcases hpost with ⟨ae, heq, hnow⟩ | ⟨_, _, _, _, q, _⟩
      · cases ae with
        | normal =>
          obtain ⟨ι2, E2, h2, hle, hk, S2, hfr⟩ := hnow.start
          rw [hn] at hk
          obtain ⟨x2, hg, hk⟩ := nextL_spec hk
          have ih := loop_key hc h0 hs hn n (fun m hm => hT m (Nat.lt_succ_of_lt hm)) x2 F h2 r hk ι2 w' a' ⟨S2.rel, getE_rel hg S2.env, S2.defers, S2.size⟩
          refine rounds_mono (fun e a w _ hq => ?_) n a' w' ih
          grind [Post.trans]
        | _ => exact heq.elim
      · cases q
    | _ => exact ⟨n, hpost⟩

/-! The table of loops. -/
def LEntOK (P : Program) (body : Code) (W : Wr) (e : LEnt) : Prop := ∀ E x, getE E e.ls = some (pkTs (tys e.ls) x) → LoopOK P body W e.p E (e.act x)
def AllL (P : Program) (body : Code) (W : Wr) : List LEnt → Prop
  | [] => True
  | e :: r => LEntOK P body W e ∧ AllL P body W r
theorem eqPath_eq : ∀ {p q : Path}, eqPath p q = true → p = q
  | [], [], _ => rfl
  | [], _ :: _, h => by cases h
  | _ :: _, [], h => by cases h
  | a :: p, b :: q, h => by
    simp only [eqPath, Bool.and_eq_true] at h
    rw [Nat.eq_of_beq_eq_true h.1, eqPath_eq h.2]
theorem lookL_ok {body : Code} {W : Wr} : ∀ {l : List LEnt}, AllL P body W l → ∀ p E, LoopOK P body W p E (lookL l p E)
  | [], _, p, E => trivial
  | e :: r, hl, p, E => by
    simp only [lookL]
    split
    · rename_i hp
      have := eqPath_eq hp
      subst this
      split
      · rename_i vs hg
        split
        · rename_i x hu
          exact hl.1 E x (by rw [hg, unTs_pk hu])
        · trivial
      · trivial
    · exact lookL_ok hl.2 p E
theorem any_beq {α : Type} {l : List α} {f : α → Nat} {i : Nat} : l.any (fun y => Nat.beq i (f y)) = true ↔ ∃ y ∈ l, i = f y := by
  simp_all
/-- The slots after a loop. -/
theorem loop_out {F : Fz} {W : Wr} {nt : Nat} {ws : List Nat} {ls ms : List (Nat × Ty)} {E E' : Env} {x : TsDen (tys ls)} {y : TsDen (tys ms)} {a a' : Go.Act}
    (hW : subW W nt ws = true) (hg : getE E ls = some (pkTs (tys ls) x)) (S : Start P F ι W E h a w) (hg' : getE E' ms = some (pkTs (tys ms) y))
    (hle : ι.le ι') (R' : Rel P F ι' h1 w') (HE' : ERel P ι' E' a'.tmps) (hd : a'.defers = F.dfs) (hs : a'.tmps.size = nt) (hfr : Frm (nt, some ws) a.tmps a'.tmps) :
    ∃ ι', ι.le ι' ∧ Rel P F ι' h1 w' ∧ ERel P ι' (outL ls ms ws x y) a'.tmps ∧ a'.defers = F.dfs ∧ a'.tmps.size = W.1 ∧ Frm W a.tmps a'.tmps := by
  unfold subW at hW
  rw [Bool.and_eq_true] at hW
  have hnt := Nat.eq_of_beq_eq_true hW.1
  refine ⟨ι', hle, R', ?_, hd, by rw [hs, hnt], hfr.1, fun l hl i hi => ?_⟩
  · intro j u hu
    rcases setE_spec hg' j u hu with h1 | ⟨h1, h2⟩
    · exact HE' j u h1
    · unfold delE at h1
      cases hb : ws.any (Nat.beq j) with
      | true => rw [hb] at h1; cases h1
      | false =>
        rw [hb] at h1
        obtain ⟨u', h3, h4⟩ := getE_rel hg S.env j u h1
        exact ⟨u', by rw [hfr.2 ws rfl _ hb]; exact h3, h4.mono hle⟩
  · refine hfr.2 ws rfl i ?_
    simp_all
theorem no_pan {R : Type} {F : Fz} {W : Wr} {t0 : Array Value} {fin : AExit → Env → M R} {pan : Value → M R} {r : R × AHeap} {e : Exit} {a : Go.Act} (hp : pan = fun _ => M.fail) (h : Post P F ι W t0 fin pan r e a w) :
    ∃ ae, eqv e ae ∧ Now P F ι W t0 (fin ae) r a w := by
  rcases h with h | ⟨ι2, v, v', h, q1, q2, q3, _⟩
  · exact h
  · rw [hp] at q3; simp [M.fail] at q3
theorem frm_up {W : Wr} {nt : Nat} {ws : List Nat} (hW : subW W nt ws = true) {t t' : Array Value} (hfr : Frm (nt, some ws) t t') : Frm W t t' := by
  unfold subW at hW
  rw [Bool.and_eq_true] at hW
  refine ⟨hfr.1, fun l hl i hi => hfr.2 ws rfl i ?_⟩
  simp_all
theorem getU {ms : List (Nat × Ty)} {R : Type} {E : Env} {f : TsDen (tys ms) → R} {r : R × AHeap}
    (hx : nextL ms (fun x => M.pure (f x)) E h = some r) : ∃ y, getE E ms = some (pkTs (tys ms) y) ∧ r = (f y, h) := by
  obtain ⟨y, h1, h2⟩ := nextL_spec hx
  simp only [M.pure, Option.some.injEq] at h2
  exact ⟨y, h1, h2.symm⟩
variable {body c : Code} {p : Path} {ls ms rs : List (Nat × Ty)} {nt id N : Nat} {ws : List Nat} {e2 : AExit}
theorem eqv_exit {e : Exit} {i : Nat} (h : eqv e (.exit i)) : e = .exit i := by
  cases e with
  | exit j => rw [show j = i from h]
  | _ => exact h.elim
theorem loop1_ok {G : Nat → TsDen (tys ls) → M (TsDen (tys ms))} {T : Nat → Tabs (TsDen (tys ms))} (hc : codeAt body p = .loop c) (h0 : ∀ x, G 0 x = M.fail)
    (hs : ∀ n x, den P body (T n) (nt, some ws) (finL1 ls ms id (G n)) N false [.code (0 :: p)] (putE ls (pkTs (tys ls) x)) = G (n + 1) x)
    (hp : ∀ m, (T m).pan = fun _ => M.fail)
    (n : Nat) (hT : ∀ m, m < n → TabsOK P body (T m) (nt, some ws) (finL1 ls ms id (G m))) {W : Wr} (hW : subW W nt ws = true) :
    LEntOK P body W ⟨p, ls, actL1 ls ms ws id (G n)⟩ := by
  intro E x hg F h y h1 hx ι w a S
  rw [hc]
  have hnt : W.1 = nt := by unfold subW at hW; simp_all
  refine wp_loop_rounds n (rounds_mono (fun e a' w' hne hq => ?_) n a w (loop_key hc h0 hs (fun _ _ => rfl) n hT x F h (y, h1) hx ι w a ⟨S.rel, getE_rel hg S.env, S.defers, by rw [S.size, hnt]⟩))
  obtain ⟨m, hq⟩ := hq
  obtain ⟨ae, heq, ι', E', h', hle, hfin, R', HE', hd, hs', hfr⟩ := no_pan (hp m) hq
  cases ae with
  | normal => cases e <;> first | exact absurd rfl hne | exact heq.elim
  | ret => simp [finL1, M.fail] at hfin
  | exit id' =>
    have hfin' : id = id' ∧ nextL ms (fun x => M.pure x) E' h' = some (y, h1) := by
      simp only [finL1] at hfin
      generalize hb : Nat.beq id id' = b at hfin
      generalize hgg : getE E' ms = o at hfin
      cases b <;> cases o <;> simp only at hfin <;> try (simp [M.fail] at hfin; done)
      refine ⟨Nat.eq_of_beq_eq_true hb, ?_⟩
      unfold nextL; rw [hgg]; exact hfin
    obtain ⟨rfl, hfin'⟩ := hfin'
    obtain ⟨y', hg', e1⟩ := getU hfin'
    cases e1
    exact ⟨heq, loop_out hW hg S hg' hle R' HE' hd hs' hfr⟩
theorem loopr_ok {G : Nat → TsDen (tys ls) → M (TsDen (tys rs))} {T : Nat → Tabs (TsDen (tys rs))} (hc : codeAt body p = .loop c) (h0 : ∀ x, G 0 x = M.fail)
    (hs : ∀ n x, den P body (T n) (nt, some ws) (finLr ls rs (G n)) N false [.code (0 :: p)] (putE ls (pkTs (tys ls) x)) = G (n + 1) x)
    (hp : ∀ m, (T m).pan = fun _ => M.fail)
    (n : Nat) (hT : ∀ m, m < n → TabsOK P body (T m) (nt, some ws) (finLr ls rs (G m))) {W : Wr} (hW : subW W nt ws = true) :
    LEntOK P body W ⟨p, ls, actLr ls rs ws (G n)⟩ := by
  intro E x hg F h y h1 hx ι w a S
  rw [hc]
  have hnt : W.1 = nt := by unfold subW at hW; simp_all
  refine wp_loop_rounds n (rounds_mono (fun e a' w' hne hq => ?_) n a w (loop_key hc h0 hs (fun _ _ => rfl) n hT x F h (y, h1) hx ι w a ⟨S.rel, getE_rel hg S.env, S.defers, by rw [S.size, hnt]⟩))
  obtain ⟨m, hq⟩ := hq
  obtain ⟨ae, heq, ι', E', h', hle, hfin, R', HE', hd, hs', hfr⟩ := no_pan (hp m) hq
  cases ae with
  | normal => cases e <;> first | exact absurd rfl hne | exact heq.elim
  | exit id' => simp [finLr, M.fail] at hfin
  | ret =>
    obtain ⟨y', hg', e1⟩ := getU (f := fun x => x) (show nextL rs (fun x => M.pure x) E' h' = some (y, h1) from hfin)
    cases e1
    exact ⟨heq, loop_out hW hg S hg' hle R' HE' hd hs' hfr⟩
theorem eqE_eq {a b : AExit} (h : eqE a b = true) : a = b := by
  cases a <;> cases b <;> simp only [eqE] at h <;> first | rfl | (cases h; done) | (rw [Nat.eq_of_beq_eq_true h])
theorem loop2_ok {G : Nat → TsDen (tys ls) → M (TsDen (tys ms) ⊕ TsDen (tys rs))} {T : Nat → Tabs (TsDen (tys ms) ⊕ TsDen (tys rs))} (hc : codeAt body p = .loop c) (h0 : ∀ x, G 0 x = M.fail)
    (hs : ∀ n x, den P body (T n) (nt, some ws) (finL2 ls ms rs id e2 (G n)) N false [.code (0 :: p)] (putE ls (pkTs (tys ls) x)) = G (n + 1) x)
    (hp : ∀ m, (T m).pan = fun _ => M.fail)
    (n : Nat) (hT : ∀ m, m < n → TabsOK P body (T m) (nt, some ws) (finL2 ls ms rs id e2 (G m))) {W : Wr} (hW : subW W nt ws = true) :
    LEntOK P body W ⟨p, ls, actL2 ls ms rs ws id e2 (G n)⟩ := by
  intro E x hg
  have hnt : W.1 = nt := by unfold subW at hW; simp_all
  have key : ∀ {F : Fz} {h : AHeap} {r h1}, G n x h = some (r, h1) → ∀ ι w a, Start P F ι W E h a w →
      Code.rounds P c (fun e a' w' => ∃ ι' E' h', ι.le ι' ∧ Rel P F ι' h' w' ∧ ERel P ι' E' a'.tmps ∧ a'.defers = F.dfs ∧ a'.tmps.size = nt ∧ Frm (nt, some ws) a.tmps a'.tmps ∧
        ((eqv e (.exit id) ∧ ∃ y, getE E' ms = some (pkTs (tys ms) y) ∧ r = .inl y ∧ h1 = h') ∨ (eqv e e2 ∧ ∃ y, getE E' rs = some (pkTs (tys rs) y) ∧ r = .inr y ∧ h1 = h'))) n a w := by
    intro F h r h1 hx ι w a S
    refine rounds_mono (fun e a' w' hne hq => ?_) n a w (loop_key hc h0 hs (fun _ _ => rfl) n hT x F h (r, h1) hx ι w a ⟨S.rel, getE_rel hg S.env, S.defers, by rw [S.size, hnt]⟩)
    obtain ⟨m, hq⟩ := hq
    obtain ⟨ae, heq, ι', E', h', hle, hfin, R', HE', hd, hs', hfr⟩ := no_pan (hp m) hq
    refine ⟨ι', E', h', hle, R', HE', hd, hs', hfr, ?_⟩
    have tail : ∀ ae, ae ≠ .normal → eqv e ae → (match eqE ae (.exit id) with
        | true => nextL ms (fun x => M.pure (Sum.inl x : TsDen (tys ms) ⊕ TsDen (tys rs))) E'
        | false => (match eqE ae e2 with
          | true => nextL rs (fun x => M.pure (Sum.inr x : TsDen (tys ms) ⊕ TsDen (tys rs))) E'
          | false => M.fail)) h' = some (r, h1) → ((eqv e (.exit id) ∧ ∃ y, getE E' ms = some (pkTs (tys ms) y) ∧ r = .inl y ∧ h1 = h') ∨ (eqv e e2 ∧ ∃ y, getE E' rs = some (pkTs (tys rs) y) ∧ r = .inr y ∧ h1 = h')) := by
      intro ae _ he2 hf2
      cases h2 : eqE ae (.exit id) <;> rw [h2] at hf2
      · cases h3 : eqE ae e2 <;> rw [h3] at hf2
        · simp [M.fail] at hf2
        · have := eqE_eq h3; subst this
          obtain ⟨y', hg', e1⟩ := getU (f := fun x => (Sum.inr x : TsDen (tys ms) ⊕ TsDen (tys rs))) hf2
          cases e1
          exact .inr ⟨he2, y', hg', rfl, rfl⟩
      · have := eqE_eq h2; subst this
        obtain ⟨y', hg', e1⟩ := getU (f := fun x => (Sum.inl x : TsDen (tys ms) ⊕ TsDen (tys rs))) hf2
        cases e1
        exact .inl ⟨he2, y', hg', rfl, rfl⟩
    cases ae with
    | normal => cases e <;> first | exact absurd rfl hne | exact heq.elim
    | ret => exact tail .ret (by simp) heq hfin
    | exit id' => exact tail (.exit id') (by simp) heq hfin
  refine ⟨fun F h y h1 hx ι w a S => ?_, fun F h y h1 hx ι w a S => ?_⟩ <;> rw [hc] <;> refine wp_loop_rounds n (rounds_mono (fun e a' w' hne hq => ?_) n a w (key hx ι w a S))
  · obtain ⟨ι', E', h', hle, R', HE', hd, hs', hfr, ⟨q0, y', q1, q2, q3⟩ | ⟨q0, y', q1, q2, q3⟩⟩ := hq
    · cases q2; subst q3; exact ⟨q0, loop_out hW hg S q1 hle R' HE' hd hs' hfr⟩
    · cases q2
  · obtain ⟨ι', E', h', hle, R', HE', hd, hs', hfr, ⟨q0, y', q1, q2, q3⟩ | ⟨q0, y', q1, q2, q3⟩⟩ := hq
    · cases q2
    · cases q2; subst q3; exact ⟨q0, loop_out hW hg S q1 hle R' HE' hd hs' hfr⟩
def AllJ {R : Type} (P : Program) (body : Code) (cl : List Ent) (dl : List DEnt) (ms : List FuncId) (ll : List LEnt) (dr : Nat → Option (List (Nat × List Nat))) (W : Wr) (fin : AExit → Env → M R) (N : Nat) (ps : List PEnt) (pan : Value → M R) : List (JEnt R) → Prop
  | [] => True
  | e :: r => (∀ x, den P body ⟨lookC cl dl ms ps, lookL ll, lookJ r, dr, pan⟩ W fin N false (.code e.p :: e.k) (putE e.ls (pkTs (tys e.ls) x)) = e.m x) ∧ AllJ P body cl dl ms ll dr W fin N ps pan r
theorem disj_nil (l : List Ent) : disj l [] = true := by unfold disj; simp
theorem tabs_ok {R : Type} {W : Wr} {cl : List Ent} {dl : List DEnt} {ms : List FuncId} {ll : List LEnt} {dr : Nat → Option (List (Nat × List Nat))} {fin : AExit → Env → M R} {N : Nat} {ps : List PEnt} {pan : Value → M R} (hmo : AllMo cl ms) (h1 : AllOK P cl) (hd : AllD P dl) (h2 : AllL P body W ll) (h4 : AllP P ps) (h5 : disj cl ps = true) :
    ∀ {js : List (JEnt R)}, AllJ P body cl dl ms ll dr W fin N ps pan js → TabsOK P body ⟨lookC cl dl ms ps, lookL ll, lookJ js, dr, pan⟩ W fin
  | [], _ => ⟨lookC_ok h1 hd hmo h4 h5, lookL_ok h2, fun _ _ _ h => by cases h⟩
  | e :: r, hj => by
    have ih := tabs_ok (fin := fin) (N := N) hmo h1 hd h2 h4 h5 hj.2
    refine ⟨lookC_ok h1 hd hmo h4 h5, lookL_ok h2, fun p k J hp E m hJ F h r' hx ι w a S => ?_⟩
    simp only [lookJ] at hp
    split at hp
    · rename_i he
      have := eqPath_eq he
      subst this
      cases hp
      unfold goJ at hJ
      split at hJ
      · rename_i vs hg
        split at hJ
        · rename_i x hu
          cases hJ
          have hgg : getE E e.ls = some (pkTs (tys e.ls) x) := by rw [hg, unTs_pk hu]
          rw [← hj.1 x] at hx
          exact den_sound ih N false _ _ F ι h r' a w ⟨S.rel, getE_rel hgg S.env, S.defers, S.size⟩ hx
        · cases hJ
      · cases hJ
    · exact ih.join p k J hp E m hJ F h r' hx ι w a S
theorem AllJ.cons {R : Type} {body : Code} {cl : List Ent} {dl : List DEnt} {ms : List FuncId} {ll : List LEnt} {dr : Nat → Option (List (Nat × List Nat))} {W : Wr} {fin : AExit → Env → M R} {N : Nat} {ps : List PEnt} {pan : Value → M R} {e : JEnt R} {r : List (JEnt R)}
    (h : ∀ x, den P body ⟨lookC cl dl ms ps, lookL ll, lookJ r, dr, pan⟩ W fin N false (.code e.p :: e.k) (putE e.ls (pkTs (tys e.ls) x)) = e.m x) (hr : AllJ P body cl dl ms ll dr W fin N ps pan r) : AllJ P body cl dl ms ll dr W fin N ps pan (e :: r) := ⟨h, hr⟩
theorem AllJ.nil {R : Type} {body : Code} {cl : List Ent} {dl : List DEnt} {ms : List FuncId} {ll : List LEnt} {dr : Nat → Option (List (Nat × List Nat))} {W : Wr} {fin : AExit → Env → M R} {N : Nat} {ps : List PEnt} {pan : Value → M R} : AllJ P body cl dl ms ll dr W fin N ps pan ([] : List (JEnt R)) := trivial
theorem AllL.cons {body : Code} {W : Wr} {e : LEnt} {r : List LEnt} (h : LEntOK P body W e) (hr : AllL P body W r) : AllL P body W (e :: r) := ⟨h, hr⟩
theorem AllL.nil {body : Code} {W : Wr} : AllL P body W [] := trivial
theorem AllOK.cons {e : Ent} {r : List Ent} (h : FnOK P e) (hr : AllOK P r) : AllOK P (e :: r) := ⟨h, hr⟩
theorem AllD.cons {e : DEnt} {r : List DEnt} (h : DEntOK P e) (hr : AllD P r) : AllD P (e :: r) := ⟨h, hr⟩
theorem AllD.nil : AllD P [] := trivial
theorem AllT.cons {as rs : List Ty} {e : DTg as rs} {r : List (DTg as rs)} (h : TgOK P e) (hr : AllT P r) : AllT P (e :: r) := ⟨h, hr⟩
theorem AllT.nil {as rs : List Ty} : AllT P ([] : List (DTg as rs)) := trivial
theorem AllOK.nil : AllOK P [] := trivial
theorem fn_zero {e : Ent} {fn : Func} (hf : P.funcs[e.id]? = some fn) (hb : fn.body.isNone = false) (hn : (fn.name == "runtime.NumGoroutine") = false) (h0 : ∀ x, e.m x = M.fail) : FnOK P e := by
  intro x
  refine CallOK.of (fun args w => enter_ok hf hb hn args w) ?_
  intro F h y h1 hx
  simp [h0, M.fail] at hx
/-! The same, with a function's tables given one by one. -/
structure TOK {R : Type} (P : Program) (body : Code) (W : Wr) (cl : List Ent) (dl : List DEnt) (mo : List FuncId) (ll : List LEnt) (js : List (JEnt R)) (dr : Nat → Option (List (Nat × List Nat))) (fin : AExit → Env → M R) : Prop where
  hm : AllMo cl mo
  c : AllOK P cl
  d : AllD P dl
  l : AllL P body W ll
  j : AllJ P body cl dl mo ll dr W fin 400 [] (fun _ => M.fail) js
theorem TOK.ok {R : Type} {body : Code} {W : Wr} {cl : List Ent} {dl : List DEnt} {mo : List FuncId} {ll : List LEnt} {js : List (JEnt R)} {dr : Nat → Option (List (Nat × List Nat))} {fin : AExit → Env → M R} (t : TOK P body W cl dl mo ll js dr fin) :
    TabsOK P body ⟨lookC cl dl mo, lookL ll, lookJ js, dr, fun _ => M.fail⟩ W fin := tabs_ok (ps := []) (pan := fun _ => M.fail) t.hm t.c t.d t.l trivial (disj_nil _) t.j
section
variable (body : Code) (p : Path) (ls ms rs : List (Nat × Ty)) (id : Nat) (e2 : AExit) (nt : Nat) (ws : List Nat) (mo : List FuncId) (ct : Nat → List Ent) (dt : Nat → List DEnt) (lt : Nat → List LEnt) (dr : Nat → Option (List (Nat × List Nat)))
theorem loop1_t (G : Nat → TsDen (tys ls) → M (TsDen (tys ms))) (jt : Nat → List (JEnt (TsDen (tys ms)))) (hc : codeAt body p = .loop (child (codeAt body p) 0)) (h0 : ∀ x, G 0 x = M.fail)
    (hs : ∀ n x, den P body ⟨lookC (ct n) (dt n) mo, lookL (lt n), lookJ (jt n), dr, fun _ => M.fail⟩ (nt, some ws) (finL1 ls ms id (G n)) 400 false [.code (0 :: p)] (putE ls (pkTs (tys ls) x)) = G (n + 1) x)
    (n : Nat) (hT : ∀ m, m < n → TOK P body (nt, some ws) (ct m) (dt m) mo (lt m) (jt m) dr (finL1 ls ms id (G m))) {W : Wr} (hW : subW W nt ws = true) : LEntOK P body W ⟨p, ls, actL1 ls ms ws id (G n)⟩ :=
  loop1_ok (T := fun n => ⟨lookC (ct n) (dt n) mo, lookL (lt n), lookJ (jt n), dr, fun _ => M.fail⟩) hc h0 hs (fun _ => rfl) n (fun m hm => (hT m hm).ok) hW
theorem loopr_t (G : Nat → TsDen (tys ls) → M (TsDen (tys rs))) (jt : Nat → List (JEnt (TsDen (tys rs)))) (hc : codeAt body p = .loop (child (codeAt body p) 0)) (h0 : ∀ x, G 0 x = M.fail)
    (hs : ∀ n x, den P body ⟨lookC (ct n) (dt n) mo, lookL (lt n), lookJ (jt n), dr, fun _ => M.fail⟩ (nt, some ws) (finLr ls rs (G n)) 400 false [.code (0 :: p)] (putE ls (pkTs (tys ls) x)) = G (n + 1) x)
    (n : Nat) (hT : ∀ m, m < n → TOK P body (nt, some ws) (ct m) (dt m) mo (lt m) (jt m) dr (finLr ls rs (G m))) {W : Wr} (hW : subW W nt ws = true) : LEntOK P body W ⟨p, ls, actLr ls rs ws (G n)⟩ :=
  loopr_ok (T := fun n => ⟨lookC (ct n) (dt n) mo, lookL (lt n), lookJ (jt n), dr, fun _ => M.fail⟩) hc h0 hs (fun _ => rfl) n (fun m hm => (hT m hm).ok) hW
theorem loop2_t (G : Nat → TsDen (tys ls) → M (TsDen (tys ms) ⊕ TsDen (tys rs))) (jt : Nat → List (JEnt (TsDen (tys ms) ⊕ TsDen (tys rs)))) (hc : codeAt body p = .loop (child (codeAt body p) 0)) (h0 : ∀ x, G 0 x = M.fail)
    (hs : ∀ n x, den P body ⟨lookC (ct n) (dt n) mo, lookL (lt n), lookJ (jt n), dr, fun _ => M.fail⟩ (nt, some ws) (finL2 ls ms rs id e2 (G n)) 400 false [.code (0 :: p)] (putE ls (pkTs (tys ls) x)) = G (n + 1) x)
    (n : Nat) (hT : ∀ m, m < n → TOK P body (nt, some ws) (ct m) (dt m) mo (lt m) (jt m) dr (finL2 ls ms rs id e2 (G m))) {W : Wr} (hW : subW W nt ws = true) : LEntOK P body W ⟨p, ls, actL2 ls ms rs ws id e2 (G n)⟩ :=
  loop2_ok (T := fun n => ⟨lookC (ct n) (dt n) mo, lookL (lt n), lookJ (jt n), dr, fun _ => M.fail⟩) hc h0 hs (fun _ => rfl) n (fun m hm => (hT m hm).ok) hW
end
theorem fn_t (e : Ent) (fn : Func) (c : Code) (ps : List (Nat × Ty)) (mo : List FuncId) (cl : List Ent) (dl : List DEnt) (ll : List LEnt) (js : List (JEnt (TsDen e.rs))) (dr : Nat → Option (List (Nat × List Nat)))
    (hf : P.funcs[e.id]? = some fn) (hb : fn.body = some c) (hn : (fn.name == "runtime.NumGoroutine") = false) (hps : ps.map (·.1) = List.range' 0 e.as.length) (hnt : Nat.ble e.as.length fn.ntmps = true)
    (hT : TOK P c (fn.ntmps, none) cl dl mo ll js dr (finF P fn e.rs))
    (hg : ∀ x, den P c ⟨lookC cl dl mo, lookL ll, lookJ js, dr, fun _ => M.fail⟩ (fn.ntmps, none) (finF P fn e.rs) 400 false [.code []] (putE ps (pkTs e.as x)) = e.m x) : FnOK P e :=
  fn_ok hf hb hn hps hnt hT.ok rfl hg

/-! Loops and functions that may end in a panic. -/
abbrev inrP {R : Type} : Value → M (R ⊕ Value) := fun v => M.pure (.inr v)
section
variable {body c : Code} {p : Path} {ls ms rs : List (Nat × Ty)} {nt id N : Nat} {ws : List Nat} {e2 : AExit}
/-- How a loop's rounds end: in order, or in a panic. -/
theorem rounds_p {X : Type} {F : Fz} {W : Wr} {nt : Nat} {ws : List Nat} {t0 : Array Value} {fin : AExit → Env → M (X ⊕ Value)} {r : (X ⊕ Value) × AHeap} {e : Exit} {a' : Go.Act} {pan : Value → M (X ⊕ Value)} (hp : pan = inrP) (hne : e ≠ .normal)
    (h : Post P F ι (nt, some ws) t0 fin pan r e a' w') :
    (∃ ae, ae ≠ .normal ∧ eqv e ae ∧ Now P F ι (nt, some ws) t0 (fin ae) r a' w') ∨ (∃ v ι' v', r.1 = .inr v ∧ e = .panic (one v') ∧ ι.le ι' ∧ VRel P ι' v v' ∧ Rel P F ι' r.2 w' ∧ a'.defers = F.dfs ∧ a'.tmps.size = nt ∧ Frm (nt, some ws) t0 a'.tmps) := by
  rcases h with ⟨ae, heq, hnow⟩ | ⟨ι2, v, v', h, q1, q2, q3, q4, q5, q6, q7, q8⟩
  · refine .inl ⟨ae, ?_, heq, hnow⟩
    rintro rfl
    cases e <;> first | exact absurd rfl hne | exact heq.elim
  · rw [hp] at q3
    simp only [M.pure] at q3
    grind
theorem loop1P_ok {G : Nat → TsDen (tys ls) → M (TsDen (tys ms) ⊕ Value)} {T : Nat → Tabs (TsDen (tys ms) ⊕ Value)} (hc : codeAt body p = .loop c) (h0 : ∀ x, G 0 x = M.fail)
    (hs : ∀ n x, den P body (T n) (nt, some ws) (finL1P ls ms id (G n)) N false [.code (0 :: p)] (putE ls (pkTs (tys ls) x)) = G (n + 1) x)
    (hp : ∀ m, (T m).pan = inrP)
    (n : Nat) (hT : ∀ m, m < n → TabsOK P body (T m) (nt, some ws) (finL1P ls ms id (G m))) {W : Wr} (hW : subW W nt ws = true) :
    LEntOK P body W ⟨p, ls, actL1P ls ms ws id (G n)⟩ := by
  intro E x hg
  have hnt : W.1 = nt := by unfold subW at hW; simp_all
  have key : ∀ {F : Fz} {h : AHeap} {r h1}, G n x h = some (r, h1) → ∀ ι w a, Start P F ι W E h a w →
      Code.rounds P c (fun e a' w' => (∃ y, r = .inl y ∧ LPost P F ι W a.tmps (.exit id) (outL ls ms ws x y) h1 e a' w') ∨ (∃ v, r = .inr v ∧ LPan P F ι W a.tmps v h1 e a' w')) n a w := by
    intro F h r h1 hx ι w a S
    refine rounds_mono (fun e a' w' hne hq => ?_) n a w (loop_key hc h0 hs (fun _ _ => rfl) n hT x F h (r, h1) hx ι w a ⟨S.rel, getE_rel hg S.env, S.defers, by rw [S.size, hnt]⟩)
    obtain ⟨m, hq⟩ := hq
    rcases rounds_p (W := W) (hp m) hne hq with ⟨ae, hae, heq, ι', E', h', hle, hfin, R', HE', hd, hs', hfr⟩ | ⟨v, ι', v', q1, q2, q3, q4, q5, q6, q7, q8⟩
    · cases ae with
      | normal => exact absurd rfl hae
      | ret => simp [finL1P, M.fail] at hfin
      | exit id' =>
        have hfin' : id = id' ∧ nextL ms (fun x => M.pure (Sum.inl x : TsDen (tys ms) ⊕ Value)) E' h' = some (r, h1) := by
          simp only [finL1P] at hfin
          generalize hb : Nat.beq id id' = b at hfin
          generalize hgg : getE E' ms = o at hfin
          cases b <;> cases o <;> simp only at hfin <;> try (simp [M.fail] at hfin; done)
          refine ⟨Nat.eq_of_beq_eq_true hb, ?_⟩
          unfold nextL; rw [hgg]; exact hfin
        obtain ⟨rfl, hfin'⟩ := hfin'
        obtain ⟨y', hg', e1⟩ := getU (f := fun x => (Sum.inl x : TsDen (tys ms) ⊕ Value)) hfin'
        cases e1
        exact .inl ⟨y', rfl, heq, loop_out hW hg S hg' hle R' HE' hd hs' hfr⟩
    · exact .inr ⟨v, q1, ι', v', q2, q3, q4, q5, q6, by rw [q7, hnt], frm_up hW q8⟩
  refine ⟨fun F h y h1 hx ι w a S => ?_, fun F h v h1 hx ι w a S => ?_⟩ <;> rw [hc] <;> refine wp_loop_rounds n (rounds_mono (fun e a' w' hne hq => ?_) n a w (key hx ι w a S))
  · grind
  grind
theorem loopRP_ok {G : Nat → TsDen (tys ls) → M (TsDen (tys rs) ⊕ Value)} {T : Nat → Tabs (TsDen (tys rs) ⊕ Value)} (hc : codeAt body p = .loop c) (h0 : ∀ x, G 0 x = M.fail)
    (hs : ∀ n x, den P body (T n) (nt, some ws) (finLrP ls rs (G n)) N false [.code (0 :: p)] (putE ls (pkTs (tys ls) x)) = G (n + 1) x)
    (hp : ∀ m, (T m).pan = inrP)
    (n : Nat) (hT : ∀ m, m < n → TabsOK P body (T m) (nt, some ws) (finLrP ls rs (G m))) {W : Wr} (hW : subW W nt ws = true) :
    LEntOK P body W ⟨p, ls, actLrP ls rs ws (G n)⟩ := by
  intro E x hg
  have hnt : W.1 = nt := by unfold subW at hW; simp_all
  have key : ∀ {F : Fz} {h : AHeap} {r h1}, G n x h = some (r, h1) → ∀ ι w a, Start P F ι W E h a w →
      Code.rounds P c (fun e a' w' => (∃ y, r = .inl y ∧ LPost P F ι W a.tmps .ret (outL ls rs ws x y) h1 e a' w') ∨ (∃ v, r = .inr v ∧ LPan P F ι W a.tmps v h1 e a' w')) n a w := by
    intro F h r h1 hx ι w a S
    refine rounds_mono (fun e a' w' hne hq => ?_) n a w (loop_key hc h0 hs (fun _ _ => rfl) n hT x F h (r, h1) hx ι w a ⟨S.rel, getE_rel hg S.env, S.defers, by rw [S.size, hnt]⟩)
    obtain ⟨m, hq⟩ := hq
    rcases rounds_p (W := W) (hp m) hne hq with ⟨ae, hae, heq, ι', E', h', hle, hfin, R', HE', hd, hs', hfr⟩ | ⟨v, ι', v', q1, q2, q3, q4, q5, q6, q7, q8⟩
    · cases ae with
      | normal => exact absurd rfl hae
      | exit id' => simp [finLrP, M.fail] at hfin
      | ret =>
        obtain ⟨y', hg', e1⟩ := getU (f := fun x => (Sum.inl x : TsDen (tys rs) ⊕ Value)) (show nextL rs (fun x => M.pure (Sum.inl x : TsDen (tys rs) ⊕ Value)) E' h' = some (r, h1) from hfin)
        cases e1
        exact .inl ⟨y', rfl, heq, loop_out hW hg S hg' hle R' HE' hd hs' hfr⟩
    · exact .inr ⟨v, q1, ι', v', q2, q3, q4, q5, q6, by rw [q7, hnt], frm_up hW q8⟩
  refine ⟨fun F h y h1 hx ι w a S => ?_, fun F h v h1 hx ι w a S => ?_⟩ <;> rw [hc] <;> refine wp_loop_rounds n (rounds_mono (fun e a' w' hne hq => ?_) n a w (key hx ι w a S))
  · grind
  grind
theorem loop2P_ok {G : Nat → TsDen (tys ls) → M ((TsDen (tys ms) ⊕ TsDen (tys rs)) ⊕ Value)} {T : Nat → Tabs ((TsDen (tys ms) ⊕ TsDen (tys rs)) ⊕ Value)} (hc : codeAt body p = .loop c) (h0 : ∀ x, G 0 x = M.fail)
    (hs : ∀ n x, den P body (T n) (nt, some ws) (finL2P ls ms rs id e2 (G n)) N false [.code (0 :: p)] (putE ls (pkTs (tys ls) x)) = G (n + 1) x)
    (hp : ∀ m, (T m).pan = inrP)
    (n : Nat) (hT : ∀ m, m < n → TabsOK P body (T m) (nt, some ws) (finL2P ls ms rs id e2 (G m))) {W : Wr} (hW : subW W nt ws = true) :
    LEntOK P body W ⟨p, ls, actL2P ls ms rs ws id e2 (G n)⟩ := by
  intro E x hg
  have hnt : W.1 = nt := by unfold subW at hW; simp_all
  have key : ∀ {F : Fz} {h : AHeap} {r h1}, G n x h = some (r, h1) → ∀ ι w a, Start P F ι W E h a w →
      Code.rounds P c (fun e a' w' => (∃ y, r = .inl (.inl y) ∧ LPost P F ι W a.tmps (.exit id) (outL ls ms ws x y) h1 e a' w') ∨ (∃ y, r = .inl (.inr y) ∧ LPost P F ι W a.tmps e2 (outL ls rs ws x y) h1 e a' w') ∨ (∃ v, r = .inr v ∧ LPan P F ι W a.tmps v h1 e a' w')) n a w := by
    intro F h r h1 hx ι w a S
    refine rounds_mono (fun e a' w' hne hq => ?_) n a w (loop_key hc h0 hs (fun _ _ => rfl) n hT x F h (r, h1) hx ι w a ⟨S.rel, getE_rel hg S.env, S.defers, by rw [S.size, hnt]⟩)
    obtain ⟨m, hq⟩ := hq
    rcases rounds_p (W := W) (hp m) hne hq with ⟨ae, hae, heq, ι', E', h', hle, hfin, R', HE', hd, hs', hfr⟩ | ⟨v, ι', v', q1, q2, q3, q4, q5, q6, q7, q8⟩
    · have tail : ∀ ae, eqv e ae → (match eqE ae (.exit id) with
          | true => nextL ms (fun x => M.pure (Sum.inl (Sum.inl x) : (TsDen (tys ms) ⊕ TsDen (tys rs)) ⊕ Value)) E'
          | false => (match eqE ae e2 with
            | true => nextL rs (fun x => M.pure (Sum.inl (Sum.inr x) : (TsDen (tys ms) ⊕ TsDen (tys rs)) ⊕ Value)) E'
            | false => M.fail)) h' = some (r, h1) → (∃ y, r = .inl (.inl y) ∧ LPost P F ι W a.tmps (.exit id) (outL ls ms ws x y) h1 e a' w') ∨ (∃ y, r = .inl (.inr y) ∧ LPost P F ι W a.tmps e2 (outL ls rs ws x y) h1 e a' w') ∨ (∃ v, r = .inr v ∧ LPan P F ι W a.tmps v h1 e a' w') := by
        intro ae he2 hf2
        cases h2 : eqE ae (.exit id) <;> rw [h2] at hf2
        · cases h3 : eqE ae e2 <;> rw [h3] at hf2
          · simp [M.fail] at hf2
          · have := eqE_eq h3; subst this
            obtain ⟨y', hg', e1⟩ := getU (f := fun x => (Sum.inl (Sum.inr x) : (TsDen (tys ms) ⊕ TsDen (tys rs)) ⊕ Value)) hf2
            cases e1
            exact .inr (.inl ⟨y', rfl, he2, loop_out hW hg S hg' hle R' HE' hd hs' hfr⟩)
        · have := eqE_eq h2; subst this
          obtain ⟨y', hg', e1⟩ := getU (f := fun x => (Sum.inl (Sum.inl x) : (TsDen (tys ms) ⊕ TsDen (tys rs)) ⊕ Value)) hf2
          cases e1
          exact .inl ⟨y', rfl, he2, loop_out hW hg S hg' hle R' HE' hd hs' hfr⟩
      cases ae with
      | normal => exact absurd rfl hae
      | ret => exact tail .ret heq hfin
      | exit id' => exact tail (.exit id') heq hfin
    · exact .inr (.inr ⟨v, q1, ι', v', q2, q3, q4, q5, q6, by rw [q7, hnt], frm_up hW q8⟩)
  refine ⟨fun F h y h1 hx ι w a S => ?_, fun F h y h1 hx ι w a S => ?_, fun F h v h1 hx ι w a S => ?_⟩ <;> rw [hc] <;> refine wp_loop_rounds n (rounds_mono (fun e a' w' hne hq => ?_) n a w (key hx ι w a S))
  · grind
  · grind
  grind
end
/-! The same, with the tables given one by one. -/
structure TOKP {X : Type} (P : Program) (body : Code) (W : Wr) (cl : List Ent) (dl : List DEnt) (pl : List PEnt) (mo : List FuncId) (ll : List LEnt) (js : List (JEnt (X ⊕ Value))) (dr : Nat → Option (List (Nat × List Nat))) (fin : AExit → Env → M (X ⊕ Value)) : Prop where
  hm : AllMo cl mo
  c : AllOK P cl
  d : AllD P dl
  p : AllP P pl
  x : disj cl pl = true
  l : AllL P body W ll
  j : AllJ P body cl dl mo ll dr W fin 400 pl inrP js
theorem TOKP.ok {X : Type} {body : Code} {W : Wr} {cl : List Ent} {dl : List DEnt} {pl : List PEnt} {mo : List FuncId} {ll : List LEnt} {js : List (JEnt (X ⊕ Value))} {dr : Nat → Option (List (Nat × List Nat))} {fin : AExit → Env → M (X ⊕ Value)} (t : TOKP P body W cl dl pl mo ll js dr fin) :
    TabsOK P body ⟨lookC cl dl mo pl, lookL ll, lookJ js, dr, inrP⟩ W fin := tabs_ok (ps := pl) (pan := inrP) t.hm t.c t.d t.l t.p t.x t.j
theorem AllP.cons {e : PEnt} {r : List PEnt} (h : PFnOK P e) (hr : AllP P r) : AllP P (e :: r) := ⟨h, hr⟩
theorem AllP.nil : AllP P [] := trivial
theorem fnp_zero {e : PEnt} {fn : Func} (hf : P.funcs[e.id]? = some fn) (hb : fn.body.isNone = false) (hn : (fn.name == "runtime.NumGoroutine") = false) (h0 : ∀ x, e.m x = M.fail) : PFnOK P e := by
  intro x
  refine ⟨fun args w => enter_ok hf hb hn args w, ?_, ?_⟩
  · intro F h y h1 hx
    simp [h0, M.fail] at hx
  · intro F h y h1 hx
    simp [h0, M.fail] at hx
section
variable (body : Code) (p : Path) (ls ms rs : List (Nat × Ty)) (id : Nat) (e2 : AExit) (nt : Nat) (ws : List Nat) (mo : List FuncId) (ct : Nat → List Ent) (dt : Nat → List DEnt) (pt : Nat → List PEnt) (lt : Nat → List LEnt) (dr : Nat → Option (List (Nat × List Nat)))
theorem loop1P_t (G : Nat → TsDen (tys ls) → M (TsDen (tys ms) ⊕ Value)) (jt : Nat → List (JEnt (TsDen (tys ms) ⊕ Value))) (hc : codeAt body p = .loop (child (codeAt body p) 0)) (h0 : ∀ x, G 0 x = M.fail)
    (hs : ∀ n x, den P body ⟨lookC (ct n) (dt n) mo (pt n), lookL (lt n), lookJ (jt n), dr, inrP⟩ (nt, some ws) (finL1P ls ms id (G n)) 400 false [.code (0 :: p)] (putE ls (pkTs (tys ls) x)) = G (n + 1) x)
    (n : Nat) (hT : ∀ m, m < n → TOKP P body (nt, some ws) (ct m) (dt m) (pt m) mo (lt m) (jt m) dr (finL1P ls ms id (G m))) {W : Wr} (hW : subW W nt ws = true) : LEntOK P body W ⟨p, ls, actL1P ls ms ws id (G n)⟩ :=
  loop1P_ok (T := fun n => ⟨lookC (ct n) (dt n) mo (pt n), lookL (lt n), lookJ (jt n), dr, inrP⟩) hc h0 hs (fun _ => rfl) n (fun m hm => (hT m hm).ok) hW
theorem loopRP_t (G : Nat → TsDen (tys ls) → M (TsDen (tys rs) ⊕ Value)) (jt : Nat → List (JEnt (TsDen (tys rs) ⊕ Value))) (hc : codeAt body p = .loop (child (codeAt body p) 0)) (h0 : ∀ x, G 0 x = M.fail)
    (hs : ∀ n x, den P body ⟨lookC (ct n) (dt n) mo (pt n), lookL (lt n), lookJ (jt n), dr, inrP⟩ (nt, some ws) (finLrP ls rs (G n)) 400 false [.code (0 :: p)] (putE ls (pkTs (tys ls) x)) = G (n + 1) x)
    (n : Nat) (hT : ∀ m, m < n → TOKP P body (nt, some ws) (ct m) (dt m) (pt m) mo (lt m) (jt m) dr (finLrP ls rs (G m))) {W : Wr} (hW : subW W nt ws = true) : LEntOK P body W ⟨p, ls, actLrP ls rs ws (G n)⟩ :=
  loopRP_ok (T := fun n => ⟨lookC (ct n) (dt n) mo (pt n), lookL (lt n), lookJ (jt n), dr, inrP⟩) hc h0 hs (fun _ => rfl) n (fun m hm => (hT m hm).ok) hW
theorem loop2P_t (G : Nat → TsDen (tys ls) → M ((TsDen (tys ms) ⊕ TsDen (tys rs)) ⊕ Value)) (jt : Nat → List (JEnt ((TsDen (tys ms) ⊕ TsDen (tys rs)) ⊕ Value))) (hc : codeAt body p = .loop (child (codeAt body p) 0)) (h0 : ∀ x, G 0 x = M.fail)
    (hs : ∀ n x, den P body ⟨lookC (ct n) (dt n) mo (pt n), lookL (lt n), lookJ (jt n), dr, inrP⟩ (nt, some ws) (finL2P ls ms rs id e2 (G n)) 400 false [.code (0 :: p)] (putE ls (pkTs (tys ls) x)) = G (n + 1) x)
    (n : Nat) (hT : ∀ m, m < n → TOKP P body (nt, some ws) (ct m) (dt m) (pt m) mo (lt m) (jt m) dr (finL2P ls ms rs id e2 (G m))) {W : Wr} (hW : subW W nt ws = true) : LEntOK P body W ⟨p, ls, actL2P ls ms rs ws id e2 (G n)⟩ :=
  loop2P_ok (T := fun n => ⟨lookC (ct n) (dt n) mo (pt n), lookL (lt n), lookJ (jt n), dr, inrP⟩) hc h0 hs (fun _ => rfl) n (fun m hm => (hT m hm).ok) hW
end
theorem fnp_t (e : PEnt) (fn : Func) (c : Code) (ps : List (Nat × Ty)) (mo : List FuncId) (cl : List Ent) (dl : List DEnt) (pl : List PEnt) (ll : List LEnt) (js : List (JEnt (TsDen e.rs ⊕ Value))) (dr : Nat → Option (List (Nat × List Nat)))
    (hf : P.funcs[e.id]? = some fn) (hb : fn.body = some c) (hn : (fn.name == "runtime.NumGoroutine") = false) (hps : ps.map (·.1) = List.range' 0 e.as.length) (hnt : Nat.ble e.as.length fn.ntmps = true)
    (hT : TOKP P c (fn.ntmps, none) cl dl pl mo ll js dr (finP (finF P fn e.rs)))
    (hg : ∀ x, den P c ⟨lookC cl dl mo pl, lookL ll, lookJ js, dr, inrP⟩ (fn.ntmps, none) (finP (finF P fn e.rs)) 400 false [.code []] (putE ps (pkTs e.as x)) = e.m x) : PFnOK P e :=
  fnp_ok hf hb hn hps hnt hT.ok rfl hg
/-! The same in few words: the tables of a seat's functions grow one by one; what is an equality by computation is tried by itself. -/
/-- A loop of a seat's function: its place, the slots that live at its start and behind it, those that it writes, its rounds. -/
structure L1 where
  p : Path
  ls : List (Nat × Ty)
  ms : List (Nat × Ty)
  ws : List Nat
  id : Nat
  g : Nat → TsDen (tys ls) → M (TsDen (tys ms))
structure Lr where
  p : Path
  ls : List (Nat × Ty)
  rs : List (Nat × Ty)
  ws : List Nat
  g : Nat → TsDen (tys ls) → M (TsDen (tys rs))
structure L2 where
  p : Path
  ls : List (Nat × Ty)
  ms : List (Nat × Ty)
  rs : List (Nat × Ty)
  ws : List Nat
  id : Nat
  e2 : AExit
  g : Nat → TsDen (tys ls) → M (TsDen (tys ms) ⊕ TsDen (tys rs))
def L1.e (s : L1) (n : Nat) : LEnt := ⟨s.p, s.ls, actL1 s.ls s.ms s.ws s.id (s.g n)⟩
def Lr.e (s : Lr) (n : Nat) : LEnt := ⟨s.p, s.ls, actLr s.ls s.rs s.ws (s.g n)⟩
def L2.e (s : L2) (n : Nat) : LEnt := ⟨s.p, s.ls, actL2 s.ls s.ms s.rs s.ws s.id s.e2 (s.g n)⟩
def LOK (P : Program) (fn : Func) (l : LEnt) (ws : List Nat) : Prop := ∀ (W : Wr), subW W fn.ntmps ws = true → LEntOK P (bodyOf fn) W l
theorem AllL.cc {fn : Func} {W : Wr} {e : LEnt} {r : List LEnt} {ws : List Nat} (h : LOK P fn e ws) (hr : AllL P (bodyOf fn) W r) (hw : subW W fn.ntmps ws = true := by kernel_rfl) : AllL P (bodyOf fn) W (e :: r) := ⟨h W hw, hr⟩
theorem AllJ.cc {R : Type} {body : Code} {cl : List Ent} {dl : List DEnt} {ms : List FuncId} {ll : List LEnt} {dr : Nat → Option (List (Nat × List Nat))} {W : Wr} {fin : AExit → Env → M R} {N : Nat} {ps : List PEnt} {pan : Value → M R} {e : JEnt R} {r : List (JEnt R)}
    (hr : AllJ P body cl dl ms ll dr W fin N ps pan r) (h : ∀ x, den P body ⟨lookC cl dl ms ps, lookL ll, lookJ r, dr, pan⟩ W fin N false (.code e.p :: e.k) (putE e.ls (pkTs (tys e.ls) x)) = e.m x := by intro x; kernel_rfl) : AllJ P body cl dl ms ll dr W fin N ps pan (e :: r) := ⟨h, hr⟩
theorem L1.ok (fn : Func) (s : L1) (n : Nat) (ct : Nat → List Ent) (mo : List FuncId := []) (dt : Nat → List DEnt := fun _ => []) (lt : Nat → List LEnt := fun _ => []) (dr : Nat → Option (List (Nat × List Nat)) := fun _ => none) (jt : Nat → List (JEnt (TsDen (tys s.ms))) := fun _ => [])
    (hT : ∀ m, m < n → TOK P (bodyOf fn) (fn.ntmps, some s.ws) (ct m) (dt m) mo (lt m) (jt m) dr (finL1 s.ls s.ms s.id (s.g m)))
    (hc : codeAt (bodyOf fn) s.p = .loop (child (codeAt (bodyOf fn) s.p) 0) := by kernel_rfl) (h0 : ∀ x, s.g 0 x = M.fail := by intro x; kernel_rfl)
    (hs : ∀ n x, den P (bodyOf fn) ⟨lookC (ct n) (dt n) mo, lookL (lt n), lookJ (jt n), dr, fun _ => M.fail⟩ (fn.ntmps, some s.ws) (finL1 s.ls s.ms s.id (s.g n)) 400 false [.code (0 :: s.p)] (putE s.ls (pkTs (tys s.ls) x)) = s.g (n + 1) x := by intro n x; kernel_rfl) :
    LOK P fn (s.e n) s.ws := fun W hW => loop1_t (bodyOf fn) s.p s.ls s.ms s.id fn.ntmps s.ws mo ct dt lt dr s.g jt hc h0 hs n hT hW
theorem Lr.ok (fn : Func) (s : Lr) (n : Nat) (ct : Nat → List Ent) (mo : List FuncId := []) (dt : Nat → List DEnt := fun _ => []) (lt : Nat → List LEnt := fun _ => []) (dr : Nat → Option (List (Nat × List Nat)) := fun _ => none) (jt : Nat → List (JEnt (TsDen (tys s.rs))) := fun _ => [])
    (hT : ∀ m, m < n → TOK P (bodyOf fn) (fn.ntmps, some s.ws) (ct m) (dt m) mo (lt m) (jt m) dr (finLr s.ls s.rs (s.g m)))
    (hc : codeAt (bodyOf fn) s.p = .loop (child (codeAt (bodyOf fn) s.p) 0) := by kernel_rfl) (h0 : ∀ x, s.g 0 x = M.fail := by intro x; kernel_rfl)
    (hs : ∀ n x, den P (bodyOf fn) ⟨lookC (ct n) (dt n) mo, lookL (lt n), lookJ (jt n), dr, fun _ => M.fail⟩ (fn.ntmps, some s.ws) (finLr s.ls s.rs (s.g n)) 400 false [.code (0 :: s.p)] (putE s.ls (pkTs (tys s.ls) x)) = s.g (n + 1) x := by intro n x; kernel_rfl) :
    LOK P fn (s.e n) s.ws := fun W hW => loopr_t (bodyOf fn) s.p s.ls s.rs fn.ntmps s.ws mo ct dt lt dr s.g jt hc h0 hs n hT hW
theorem L2.ok (fn : Func) (s : L2) (n : Nat) (ct : Nat → List Ent) (mo : List FuncId := []) (dt : Nat → List DEnt := fun _ => []) (lt : Nat → List LEnt := fun _ => []) (dr : Nat → Option (List (Nat × List Nat)) := fun _ => none) (jt : Nat → List (JEnt (TsDen (tys s.ms) ⊕ TsDen (tys s.rs))) := fun _ => [])
    (hT : ∀ m, m < n → TOK P (bodyOf fn) (fn.ntmps, some s.ws) (ct m) (dt m) mo (lt m) (jt m) dr (finL2 s.ls s.ms s.rs s.id s.e2 (s.g m)))
    (hc : codeAt (bodyOf fn) s.p = .loop (child (codeAt (bodyOf fn) s.p) 0) := by kernel_rfl) (h0 : ∀ x, s.g 0 x = M.fail := by intro x; kernel_rfl)
    (hs : ∀ n x, den P (bodyOf fn) ⟨lookC (ct n) (dt n) mo, lookL (lt n), lookJ (jt n), dr, fun _ => M.fail⟩ (fn.ntmps, some s.ws) (finL2 s.ls s.ms s.rs s.id s.e2 (s.g n)) 400 false [.code (0 :: s.p)] (putE s.ls (pkTs (tys s.ls) x)) = s.g (n + 1) x := by intro n x; kernel_rfl) :
    LOK P fn (s.e n) s.ws := fun W hW => loop2_t (bodyOf fn) s.p s.ls s.ms s.rs s.id s.e2 fn.ntmps s.ws mo ct dt lt dr s.g jt hc h0 hs n hT hW
/-- The slots of a function's arguments. -/
def psOf : Nat → List Ty → List (Nat × Ty)
  | _, [] => []
  | i, t :: ts => (i, t) :: psOf (i + 1) ts
theorem psOf_fst : ∀ (i : Nat) (ts : List Ty), (psOf i ts).map (·.1) = List.range' i ts.length
  | i, [] => rfl
  | i, t :: ts => by rw [psOf, List.map_cons, List.length_cons, List.range'_succ, psOf_fst (i + 1) ts]
theorem fn_c {e : Ent} (fn : Func) (cl : List Ent) (mo : List FuncId := []) (dl : List DEnt := []) (ll : List LEnt := []) (js : List (JEnt (TsDen e.rs)) := []) (dr : Nat → Option (List (Nat × List Nat)) := fun _ => none)
    (hT : TOK P (bodyOf fn) (fn.ntmps, none) cl dl mo ll js dr (finF P fn e.rs))
    (hf : P.funcs[e.id]? = some fn := by kernel_rfl) (hb : fn.body = some (bodyOf fn) := by kernel_rfl) (hn : (fn.name == "runtime.NumGoroutine") = false := by kernel_rfl) (hnt : Nat.ble e.as.length fn.ntmps = true := by kernel_rfl)
    (hg : ∀ x, den P (bodyOf fn) ⟨lookC cl dl mo, lookL ll, lookJ js, dr, fun _ => M.fail⟩ (fn.ntmps, none) (finF P fn e.rs) 400 false [.code []] (putE (psOf 0 e.as) (pkTs e.as x)) = e.m x := by intro x; kernel_rfl) : FnOK P e :=
  fn_t e fn (bodyOf fn) (psOf 0 e.as) mo cl dl ll js dr hf hb hn (psOf_fst 0 e.as) hnt hT hg
theorem TOK.m1 {R : Type} {body : Code} {W : Wr} {cl : List Ent} {dr : Nat → Option (List (Nat × List Nat))} {fin : AExit → Env → M R} (c : AllOK P cl) : TOK P body W cl [] [] [] ([] : List (JEnt R)) dr fin := ⟨.nil, c, .nil, .nil, .nil⟩
theorem AllMo.nil' {l : List Ent} : AllMo l [] := .nil
end Go.Ago
