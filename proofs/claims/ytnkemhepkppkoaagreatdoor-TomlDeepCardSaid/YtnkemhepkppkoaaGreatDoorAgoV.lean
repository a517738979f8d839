/-
Functions that defer one closure, which recovers: what they denote, and that it is sound. No theorem about the program stands here.
-/
import Derived.Test.YtnkemhepkppkoaaGreatDoorAgoI
import Derived.Recover
set_option linter.all false
namespace Go.Ago
open Go
variable {P : Program} {ι ι' : IMap} {h h' h1 : AHeap} {w w' : World}

def capsE (E : Env) : List Nat → Option (List Value)
  | [] => some []
  | i :: r => match E i, capsE E r with
    | some v, some vs => some (v :: vs)
    | _, _ => none
def onlyE (cs : List Nat) (E : Env) : Env := fun j => match memN cs j with
  | true => E j
  | false => none
def parE : Nat → List Value → Env
  | _, [] => Env.emp
  | i, v :: vs => (parE (i + 1) vs).set i v
/-- The closure's number and text, the slots of what is recovered; the slots that it captures, the closure's slot, the slots written behind the deferral. -/
structure Dfr where
  g : FuncId
  fg : Func
  r1 : Nat
  r2 : Nat
  cs : List Nat
  d : Nat
  ws : List Nat
/-- The closure behind its first two operations. -/
def clM (P : Program) (T : Tabs Unit) (N : Nat) (D : Dfr) (vs : List Value) (v : Value) : M Unit :=
  den P (bodyOf D.fg) T (D.fg.ntmps, none) (fun ae _ => match ae with | .exit _ => M.fail | _ => M.pure ()) N false [.code [1]] (((parE 0 vs).set D.r1 v).set D.r2 v)
def endD (P : Program) (T : Tabs Unit) (N : Nat) (D : Dfr) (fn : Func) (ts : List Ty) (vs : List Value) (v : Value) (E : Env) : M (TsDen ts) :=
  M.bind (clM P T N D vs v) fun _ => finF P fn ts .ret E
def finD (P : Program) (T : Tabs Unit) (N : Nat) (D : Dfr) (fn : Func) (ts : List Ty) (vs : List Value) : AExit → Env → M (TsDen ts) := fun ae E => match ae with
  | .exit _ => M.fail
  | _ => endD P T N D fn ts vs .nilIface E
def tabD (P : Program) (C : Ctab) (dr : Nat → Option (List (Nat × List Nat))) (T : Tabs Unit) (N : Nat) (D : Dfr) (fn : Func) (ts : List Ty) (vs : List Value) (E : Env) : Tabs (TsDen ts) :=
  ⟨C, fun _ _ => .none, fun _ => none, dr, fun v => endD P T N D fn ts vs v (onlyE D.cs E)⟩
def denD (P : Program) (fn : Func) (ts : List Ty) (T1 : Tabs (TsDen ts)) (C2 : Ctab) (dr : Nat → Option (List (Nat × List Nat))) (T : Tabs Unit) (N : Nat) (D : Dfr) : Nat → Path → Env → M (TsDen ts)
  | k + 1, p, E => den P (bodyOf fn) T1 (fn.ntmps, none) (fun ae E' => match ae with
      | .normal => denD P fn ts T1 C2 dr T N D k (1 :: p) E'
      | .ret => finF P fn ts .ret E'
      | .exit _ => M.fail) N false [.code (0 :: p)] E
  | 0, p, E => match capsE E D.cs with
    | some vs => den P (bodyOf fn) (tabD P C2 dr T N D fn ts vs E) (fn.ntmps, some D.ws) (finD P T N D fn ts vs) N false [.code (1 :: p)] (E.set D.d (.func (.func D.g) #[] vs.toArray))
    | none => M.fail

/-! What is asked of the texts. -/
def eqTmps : List Operand → List Nat → Bool
  | [], [] => true
  | .tmp i :: r, j :: s => Nat.beq i j && eqTmps r s
  | _, _ => false
def dfrOK (D : Dfr) : Code → Bool
  | .seq (.region _ ops false) _ => (match ops.toList with
    | [o1, o2] => (match o1.guard, o1.dst, o1.op, o2.guard, o2.dst, o2.op with
      | none, some d, .makeFunc (.func g) fs caps, none, none, .defer c => Nat.beq d D.d && Nat.beq g D.g && fs.toList.isEmpty && eqTmps caps.toList D.cs &&
        (match c.callee with | .value (.tmp d') => Nat.beq d' D.d | _ => false) && c.args.toList.isEmpty
      | _, _, _, _, _, _ => false)
    | _ => false)
  | _ => false
def spineOK (D : Dfr) (c : Code) : Nat → Path → Bool
  | k + 1, p => (match codeAt c p with | .seq _ _ => spineOK D c k (1 :: p) | _ => false)
  | 0, p => dfrOK D (codeAt c p)
def recOK (D : Dfr) : Code → Bool
  | .seq (.region _ ops false) _ => (match ops.toList with
    | [o1, o2] => (match o1.guard, o1.dst, o1.op, o2.guard, o2.dst, o2.op with
      | none, some d, .call c, none, some d', .assign (.tmp e) => Nat.beq d D.r1 && Nat.beq d' D.r2 && Nat.beq e D.r1 && c.args.toList.isEmpty && (match c.callee with | .builtin .recover => true | _ => false)
      | _, _, _, _, _, _ => false)
    | _ => false)
  | _ => false

theorem capsE_rel {E : Env} {t : Array Value} (hE : ERel P ι E t) : ∀ {cs : List Nat} {vs : List Value}, capsE E cs = some vs → LRel P ι vs (cs.map fun i => t.getD i undef)
  | [], vs, hx => by cases hx; exact .nil
  | i :: r, vs, hx => by
    simp only [capsE] at hx
    split at hx
    · rename_i v us hv hu
      cases hx
      obtain ⟨v', e1, e2⟩ := hE i v hv
      refine .cons ?_ (capsE_rel hE hu)
      simp only [Array.getD_eq_getD_getElem?, e1, Option.getD_some]; exact e2
    · cases hx
theorem parE_rel : ∀ (i : Nat) (vs : List Value) (t : Array Value), (∀ k v, vs[k]? = some v → ∃ v', t[i + k]? = some v' ∧ VRel P ι v v') → ERel P ι (parE i vs) t
  | i, [], t, _ => fun j u hu => by cases hu
  | i, v :: vs, t, hr => by
    have ih := parE_rel (i + 1) vs t fun k u hu => by
      have := hr (k + 1) u (by simpa using hu)
      rw [show i + 1 + k = i + (k + 1) by omega]; exact this
    intro j u hu
    simp only [parE, Env.set, cond_beq] at hu
    split at hu
    · rename_i e; subst e; cases hu
      exact hr 0 v rfl
    · exact ih j u hu
theorem bodyPostS_mono {fn : Func} {c₀ : Frame} {cs cs' : List Frame} {R R' : Ending → FrameMode → World → Prop} (hr : ∀ e u w, R e u w → R' e u w) {e : Exit} {a : Go.Act} (hp : bodyPostS P fn c₀ cs R e a cs' w) : bodyPostS P fn c₀ cs R' e a cs' w := by
  unfold bodyPostS at *
  split at hp
  · obtain ⟨q1, u', q2, v, q3, q4⟩ := hp; exact ⟨q1, u', q2, v, q3, hr _ _ _ q4⟩
  · obtain ⟨q1, u', q2, v, q3, q4⟩ := hp; exact ⟨q1, u', q2, v, q3, hr _ _ _ q4⟩
  · obtain ⟨q1, u', q2, q4⟩ := hp; exact ⟨q1, u', q2, hr _ _ _ q4⟩
  · obtain ⟨u', q⟩ := hp; exact ⟨u', hr _ _ _ q⟩
  · exact hp.elim
/-- What recover finds. -/
inductive Found : FrameMode → Value → FrameMode → Prop where
  | none : Found .returning .nilIface .returning
  | one (v : Value) : Found (.panicking (one v)) v (.panicking [{ v, recovered := true }])
theorem Found.at {u u' : FrameMode} {v : Value} (hf : Found u v u') {c : Frame} (hc : c.mode = u) (cs : List Frame) :
    (recoverD (c :: cs) = some (v, { c with mode := u' } :: cs)) ∨ (recoverD (c :: cs) = Option.none ∧ v = .nilIface ∧ u' = u) := by
  cases hf with
  | none => exact .inr ⟨by unfold recoverD; simp [hc], rfl, rfl⟩
  | one v => exact .inl (by unfold recoverD; simp [hc, Go.Ago.one])
theorem cl_sound {T : Tabs Unit} {N : Nat} {D : Dfr} {F : Fz} (HT : TabsOK P (bodyOf D.fg) T (D.fg.ntmps, none) (fun ae _ => match ae with | .exit _ => M.fail | _ => M.pure ())) (hp : T.pan = fun _ => M.fail)
    (hf : P.funcs[D.g]? = some D.fg) (hb : D.fg.body = some (bodyOf D.fg)) (hres : D.fg.results.toList.isEmpty = true) (hrec : recOK D (bodyOf D.fg) = true) (hr1 : Nat.blt D.r1 D.fg.ntmps = true) (hr2 : Nat.blt D.r2 D.fg.ntmps = true)
    {vs : List Value} {v v' : Value} {caps : Array Value} (hn : Nat.ble vs.length D.fg.ntmps = true) (hv : VRel P ι v v') (hl : LRel P ι vs caps.toList) (hx : clM P T N D vs v h = some ((), h1)) (R : Rel P F ι h w) {u u' : FrameMode} (hu : Found u v' u') :
    CallsD P D.g caps u w fun e u2 w2 => ∃ x ι', e = .returned x ∧ u2 = u' ∧ Rel P F ι' h1 w2 ∧ ι.le ι' := by
  refine callsD_of_wpS hf hb fun c₀ cs hc => ?_
  have hlen := hl.1
  have hle := Nat.le_of_ble_eq_true hn
  have b1 := Nat.le_of_ble_eq_true hr1
  have b2 := Nat.le_of_ble_eq_true hr2
  unfold clM at hx
  generalize hbody : bodyOf D.fg = body at *
  unfold recOK at hrec
  split at hrec
  rotate_left
  · cases hrec
  rename_i id ops rest
  split at hrec
  rotate_left
  · cases hrec
  rename_i o1 o2 hops
  split at hrec
  rotate_left
  · cases hrec
  rename_i d c d' e g1 ds1 op1 g2 ds2 op2
  simp only [Bool.and_eq_true] at hrec
  obtain ⟨⟨⟨⟨k1, k2⟩, k3⟩, k4⟩, k5⟩ := hrec
  have k1 := Nat.eq_of_beq_eq_true k1
  have k2 := Nat.eq_of_beq_eq_true k2
  have k3 := Nat.eq_of_beq_eq_true k3
  subst k1; subst k2; subst k3
  obtain rfl : ops = #[o1, o2] := Array.ext' (by simpa using hops)
  have hargs : c.args = #[] := Array.ext' (by simpa using k4)
  have hcal : c.callee = .builtin .recover := by
    split at k5
    · assumption
    · cases k5
  let a0 : Go.Act := { tmps := caps ++ Array.replicate (D.fg.ntmps - caps.size) undef, defers := [] }
  have hsz : a0.tmps.size = D.fg.ntmps := by show (caps ++ _).size = _; simp at hlen ⊢; omega
  have hE0 : ERel P ι (parE 0 vs) a0.tmps := by
    refine parE_rel 0 vs _ fun k v hk => ?_
    obtain ⟨v', q1, q2⟩ := hl.get? hk
    refine ⟨v', ?_, q2⟩
    show (caps ++ _)[0 + k]? = _
    grind
  have hrun : ∀ (a : Go.Act) (w : World), (execOp a.eval o1).run P w = .ok .recover w := by
    intro a w
    unfold execOp; rw [op1]; dsimp only
    simp only [resolve, hcal, pure_bind, invoke, builtin, hargs]
    rfl
  -- behind the two operations
  have main : ∀ (cs' : List Frame), cs' = { c₀ with mode := u' } :: cs → rest.wpS P (bodyPostS P D.fg c₀ cs fun e u2 w2 => ∃ x ι', e = .returned x ∧ u2 = u' ∧ Rel P F ι' h1 w2 ∧ ι.le ι') ((a0.put (some D.r1) v').put (some D.r2) v') cs' w := by
    intro cs' hcs
    subst hcs
    refine wpS_of_wp ?_
    have hE1 : ERel P ι (((parE 0 vs).set D.r1 v).set D.r2 v) ((a0.put (some D.r1) v').put (some D.r2) v').tmps := by
      have q1 : ERel P ι ((parE 0 vs).set D.r1 v) (a0.put (some D.r1) v').tmps := hE0.set (by omega) hv
      exact q1.set (by simp only [Act.put, Array.size_setIfInBounds]; omega) hv
    have S : Start P { F with dfs := [] } ι (D.fg.ntmps, none) (((parE 0 vs).set D.r1 v).set D.r2 v) h ((a0.put (some D.r1) v').put (some D.r2) v') w :=
      ⟨R.df [], hE1, rfl, by simp only [Act.put, Array.size_setIfInBounds]; exact hsz⟩
    have hwp := den_sound HT N false [.code [1]] _ _ ι h ((), h1) _ w S hx
    have hc1 : itemsOf (Code.seq (Code.region id #[o1, o2] false) rest) [PItem.code [1]] = [.code rest] := rfl
    rw [hc1] at hwp
    intro b k cs2
    obtain ⟨ex, a', w2, hq, harr⟩ := hwp b k cs2
    refine ⟨ex, a', w2, ?_, harr⟩
    have hrs : ∀ (a : Go.Act) (w : World), (results D.fg a.tmps).run P w = .ok (.tuple #[]) w := by
      intro a w
      have : D.fg.results = #[] := Array.ext' (by simpa using hres)
      simp [results, this]
    rcases hq with ⟨ae, heq, ι2, E2, h2, q1, q2, q3, q4, q5, q6, q7⟩ | ⟨ι2, x, x', h2, q1, q2, q3, _⟩
    · have hdone : h2 = h1 := by
        cases ae <;> simp [M.pure, M.fail] at q2 <;> exact q2
      subst hdone
      have fin : a'.defers = [] ∧ ∃ u2, ({ c₀ with mode := u' } :: cs : List Frame) = { c₀ with mode := u2 } :: cs ∧ ∃ v, (results D.fg a'.tmps).run P w2 = .ok v w2 ∧ (∃ x ι', (Ending.returned v) = .returned x ∧ u2 = u' ∧ Rel P F ι' h2 w2 ∧ ι.le ι') :=
        ⟨q5, u', rfl, _, hrs a' w2, _, ι2, rfl, rfl, q3.df F.dfs, q1⟩
      cases ae with
      | exit id => simp [M.fail] at q2
      | normal =>
        cases ex with
        | normal => exact fin
        | _ => exact heq.elim
      | ret =>
        cases ex with
        | ret => exact fin
        | _ => exact heq.elim
    · rw [hp] at q3; simp [M.fail] at q3
  apply wpS_seq
  apply wpS_region
  have hl2 : List.range (#[o1, o2] : Array Oper).size = [0, 1] := rfl
  rw [hl2]
  have w1 : ∀ y, Region.wanted o1 y = true := fun y => by simp [Region.wanted, g1]
  have w2 : ∀ y, Region.wanted o2 y = true := fun y => by simp [Region.wanted, g2]
  have e0 : (#[o1, o2] : Array Oper)[0]? = some o1 := rfl
  have e1 : (#[o1, o2] : Array Oper)[1]? = some o2 := rfl
  have step2 : ∀ (cs' : List Frame), cs' = { c₀ with mode := u' } :: cs → wpOpsS P #[o1, o2] (Exit.thenS (rest.wpS P (bodyPostS P D.fg c₀ cs fun e u2 w2 => ∃ x ι', e = .returned x ∧ u2 = u' ∧ Rel P F ι' h1 w2 ∧ ι.le ι')) (bodyPostS P D.fg c₀ cs fun e u2 w2 => ∃ x ι', e = .returned x ∧ u2 = u' ∧ Rel P F ι' h1 w2 ∧ ι.le ι')) [1] (a0.put (some D.r1) v') cs' w := by
    intro cs' hcs
    have hev : (a0.put (some D.r1) v').eval (.tmp D.r1) = v' := by
      simp only [Act.eval, Act.put, Array.getD_eq_getD_getElem?]
      rw [Array.getElem?_setIfInBounds_self_of_lt (by omega)]
      rfl
    have hr2 : (execOp (a0.put (some D.r1) v').eval o2).run P w = .ok (.value v') w := by
      unfold execOp; rw [op2]; dsimp only; rw [hev]; rfl
    simp only [wpOpsS, e1, w2, if_true, hr2]
    rw [Oper.upon_value, ds2]
    exact main cs' hcs
  rw [wpOpsS]
  simp only [e0, w1, if_true, hrun]
  rw [ds1]
  rcases hu.at hc cs with q | ⟨q, rfl, hmode⟩
  · rw [q]; exact step2 _ rfl
  · rw [q]
    refine step2 _ ?_
    subst hmode
    cases c₀; simp at hc; subst hc; rfl
/-- What a function hands back. -/
def RR (P : Program) (ts : List Ty) (F : Fz) (ι : IMap) (r : TsDen ts × AHeap) (en : Ending) (w : World) : Prop := ∃ v' ι', en = .returned v' ∧ VRel P ι' (tupleOf (pkTs ts r.1)) v' ∧ Rel P F ι' r.2 w ∧ ι.le ι'
theorem RR.up {ts : List Ty} {F : Fz} {r : TsDen ts × AHeap} (hle : ι.le ι') {en : Ending} {w : World} (h : RR P ts F ι' r en w) : RR P ts F ι r en w :=
  let ⟨v, ι2, a, b, c, d⟩ := h
  ⟨v, ι2, a, b, c, hle.trans d⟩
theorem Leaves.mono {fn : Func} {tm : Array Value} {R R' : Ending → World → Prop} (hr : ∀ e w, R e w → R' e w) : ∀ (ds : List Deferred) (u : FrameMode) (w : World), Leaves P fn tm R ds u w → Leaves P fn tm R' ds u w
  | [], .returning, w, h => let ⟨v, a, b⟩ := h; ⟨v, a, hr _ _ b⟩
  | [], .panicking _, w, h => hr _ _ h
  | [], .run, w, h => h
  | d :: ds, u, w, h => by
    obtain ⟨h1, fv, cap, f, args, h2, h3, h4⟩ := h
    refine ⟨h1, fv, cap, f, args, h2, h3, h4.mono fun e u' w' hx => ?_⟩
    cases e with
    | returned v => exact Leaves.mono hr ds _ _ hx
    | panicked ch => exact Leaves.mono hr ds _ _ hx
    | outgrown => exact hr _ _ hx
theorem bodyPostD_up {fn : Func} {ts : List Ty} {F : Fz} {r : TsDen ts × AHeap} (hle : ι.le ι') {e : Exit} {a : Go.Act} {w : World} (h : bodyPostD P fn (RR P ts F ι' r) e a w) : bodyPostD P fn (RR P ts F ι r) e a w := by
  unfold bodyPostD at *
  split at h
  · exact Leaves.mono (fun _ _ x => x.up hle) _ _ _ h
  · exact Leaves.mono (fun _ _ x => x.up hle) _ _ _ h
  · exact Leaves.mono (fun _ _ x => x.up hle) _ _ _ h
  · exact h.up hle
  · exact h.elim
theorem eqTmps_eq : ∀ {l : List Operand} {cs : List Nat}, eqTmps l cs = true → l = cs.map .tmp
  | [], [], _ => rfl
  | [], _ :: _, h => by simp [eqTmps] at h
  | x :: r, [], h => by cases x <;> simp [eqTmps] at h
  | x :: r, j :: s, h => by
    cases x with
    | tmp i =>
      simp only [eqTmps, Bool.and_eq_true] at h
      rw [Nat.eq_of_beq_eq_true h.1, eqTmps_eq h.2]; rfl
    | _ => simp [eqTmps] at h
theorem map_eval (a : Go.Act) (cs : List Nat) : (cs.map Operand.tmp).toArray.map a.eval = (cs.map fun i => a.tmps.getD i undef).toArray := by
  apply Array.ext'
  simp only [List.map_toArray, List.map_map]
  rfl
theorem onlyE_rel {cs : List Nat} {E : Env} {t t' : Array Value} (hE : ERel P ι E t) (ht : ∀ i, memN cs i = true → t'[i]? = t[i]?) : ERel P ι (onlyE cs E) t' := fun j u hu => by
  unfold onlyE at hu
  cases hm : memN cs j with
  | false => rw [hm] at hu; cases hu
  | true =>
    rw [hm] at hu
    obtain ⟨v', e1, e2⟩ := hE j u hu
    exact ⟨v', by rw [ht j hm]; exact e1, e2⟩
/-- All that is asked of a function that defers. -/
structure DfrIs (P : Program) (fn : Func) (ts : List Ty) (T1 : Tabs (TsDen ts)) (C2 : Ctab) (T : Tabs Unit) (D : Dfr) : Prop where
  t1 : ∀ fin, TabsOK P (bodyOf fn) T1 (fn.ntmps, none) fin
  p1 : T1.pan = fun _ => M.fail
  c2 : CtabOK P C2
  tc : TabsOK P (bodyOf D.fg) T (D.fg.ntmps, none) (fun ae _ => match ae with | .exit _ => M.fail | _ => M.pure ())
  pc : T.pan = fun _ => M.fail
  fg : P.funcs[D.g]? = some D.fg
  bg : D.fg.body = some (bodyOf D.fg)
  ng : (D.fg.name == "runtime.NumGoroutine") = false
  rg : D.fg.results.toList.isEmpty = true
  rc : recOK D (bodyOf D.fg) = true
  r1 : Nat.blt D.r1 D.fg.ntmps = true
  r2 : Nat.blt D.r2 D.fg.ntmps = true
  nc : Nat.ble D.cs.length D.fg.ntmps = true
  d : Nat.blt D.d fn.ntmps = true
  ws : D.cs.all (fun c => !memN D.ws c) = true
  dcs : ¬ memN D.cs D.d = true
theorem capsE_len : ∀ {cs : List Nat} {E : Env} {vs : List Value}, capsE E cs = some vs → vs.length = cs.length
  | [], E, vs, h => by cases h; rfl
  | i :: r, E, vs, h => by
    simp only [capsE] at h
    split at h
    · rename_i v us _ hu
      cases h
      simp [capsE_len hu]
    · cases h
theorem denD_sound {fn : Func} {ts : List Ty} {T1 : Tabs (TsDen ts)} {C2 : Ctab} {dr : Nat → Option (List (Nat × List Nat))} {T : Tabs Unit} {N : Nat} {D : Dfr} (H : DfrIs P fn ts T1 C2 T D) :
    ∀ (k : Nat) (p : Path) (E : Env) (F : Fz) (ι : IMap) (h : AHeap) (r : TsDen ts × AHeap) (a : Go.Act) (w : World), F.dfs = [] → spineOK D (bodyOf fn) k p = true → Start P F ι (fn.ntmps, none) E h a w →
      denD P fn ts T1 C2 dr T N D k p E h = some r → (codeAt (bodyOf fn) p).wp P (bodyPostD P fn (RR P ts F ι r)) a w
  | k + 1, p, E, F, ι, h, r, a, w, hF, hs, S, hx => by
    simp only [spineOK] at hs
    split at hs
    rotate_left
    · cases hs
    rename_i x y hxy
    have hc0 : codeAt (bodyOf fn) (0 :: p) = x := by show child (codeAt (bodyOf fn) p) 0 = x; rw [hxy]; rfl
    have hc1 : codeAt (bodyOf fn) (1 :: p) = y := by show child (codeAt (bodyOf fn) p) 1 = y; rw [hxy]; rfl
    rw [hxy]
    refine wp_seq ?_
    unfold denD at hx
    have hwp := den_sound (H.t1 _) N false [.code (0 :: p)] E F ι h r a w S hx
    unfold itemsOf at hwp
    simp only [List.map_cons, List.map_nil, hc0] at hwp
    refine wp_mono (c := x) hwp ?_
    rintro e a' w' (⟨ae, heq, ι', E', h', hle, hk, R', HE', hd, hsz, hfr⟩ | ⟨ι2, v, v', h2, q1, q2, q3, _⟩)
    rotate_left
    · rw [H.p1] at q3; simp [M.fail] at q3
    cases ae with
    | exit id => simp [M.fail] at hk
    | normal =>
      cases e with
      | normal =>
        have := denD_sound H k (1 :: p) E' F ι' h' r a' w' hF hs ⟨R', HE', hd, hsz⟩ hk
        rw [hc1] at this
        exact wp_mono this fun e a w => bodyPostD_up hle
      | _ => exact heq.elim
    | ret =>
      cases e with
      | ret =>
        obtain ⟨v, q1, q2, q3⟩ := fin_done (ts := ts) (fn := fn) (y := r.1) (h1 := r.2) R' HE' hk
        show Leaves P fn a'.tmps _ a'.defers .returning w'
        rw [hd, hF]
        exact ⟨v, q1, v, ι', rfl, q2, q3, hle⟩
      | _ => exact heq.elim
  | 0, p, E, F, ι, h, r, a, w, hF, hs, S, hx => by
    simp only [spineOK] at hs
    cases hvs : capsE E D.cs with
    | none => simp only [denD, hvs, M.fail] at hx; cases hx
    | some vs =>
    simp only [denD, hvs] at hx
    have hc1 : codeAt (bodyOf fn) (1 :: p) = child (codeAt (bodyOf fn) p) 1 := rfl
    generalize hcp : codeAt (bodyOf fn) p = cp at hs hc1 ⊢
    unfold dfrOK at hs
    split at hs
    rotate_left
    · cases hs
    rename_i id ops rest
    split at hs
    rotate_left
    · cases hs
    rename_i o1 o2 hops
    split at hs
    rotate_left
    · cases hs
    rename_i d g fs caps c g1 ds1 op1 g2 ds2 op2
    simp only [Bool.and_eq_true] at hs
    obtain ⟨⟨⟨⟨⟨k1, k2⟩, k3⟩, k4⟩, k5⟩, k6⟩ := hs
    have k1 := Nat.eq_of_beq_eq_true k1
    have k2 := Nat.eq_of_beq_eq_true k2
    subst k1; subst k2
    obtain rfl : ops = #[o1, o2] := Array.ext' (by simpa using hops)
    have hcargs : c.args = #[] := Array.ext' (by simpa using k6)
    have hfs : fs = #[] := Array.ext' (by simpa using k3)
    have hcaps : caps = (D.cs.map Operand.tmp).toArray := Array.ext' (by simpa using eqTmps_eq k4)
    have hcal : c.callee = .value (.tmp D.d) := by
      split at k5
      · rename_i d' hcc; rw [hcc, Nat.eq_of_beq_eq_true k5]
      · cases k5
    have hc1 : codeAt (bodyOf fn) (1 :: p) = rest := hc1
    have bd := Nat.le_of_ble_eq_true H.d
    have hsz0 := S.size
    let cv : Array Value := (D.cs.map fun i => a.tmps.getD i undef).toArray
    have hcv : LRel P ι vs cv.toList := by simpa [cv] using capsE_rel S.env hvs
    have hfv : VRel P ι (.func (.func D.g) #[] vs.toArray) (.func (.func D.g) #[] cv) := by
      refine .func _ _ _ _ _ rfl (fun i v v' q1 q2 => by simp at q1) (by simpa using hcv.1) fun i v v' q1 q2 => ?_
      exact hcv.2 i v v' (by simpa using q1) (by simpa using q2)
    let dd : Deferred := { target := .fn (.func D.g) cv, args := #[] }
    let a1 : Go.Act := a.put (some D.d) (.func (.func D.g) #[] cv)
    have hE1 : ERel P ι (E.set D.d (.func (.func D.g) #[] vs.toArray)) a1.tmps := S.env.set (by omega) hfv
    have hsz1 : a1.tmps.size = fn.ntmps := by simp only [a1, Act.put, Array.size_setIfInBounds]; exact hsz0
    -- the rest
    let F2 : Fz := { F with dfs := [dd] }
    let a2 : Go.Act := { a1 with defers := dd :: a.defers }
    have ha2 : a2.defers = [dd] := by show dd :: a.defers = [dd]; rw [S.defers, hF]
    have S2 : Start P F2 ι (fn.ntmps, some D.ws) (E.set D.d (.func (.func D.g) #[] vs.toArray)) h a2 w := ⟨S.rel.df [dd], hE1, ha2, hsz1⟩
    have HT2 : TabsOK P (bodyOf fn) (tabD P C2 dr T N D fn ts vs E) (fn.ntmps, some D.ws) (finD P T N D fn ts vs) := ⟨H.c2, fun _ _ => trivial, fun _ _ _ h => by cases h⟩
    have hinv : ∀ w : World, (invoke dd.target dd.args).run P w = .ok (.enter D.g cv) w := fun w => by
      show (callFunc D.g (#[] ++ cv)).run P w = _
      rw [Array.empty_append]
      exact enter_ok H.fg (by rw [H.bg]; rfl) H.ng cv w
    have hnv : Nat.ble vs.length D.fg.ntmps = true := by rw [capsE_len hvs]; exact H.nc
    have fin : ∀ {ι' : IMap} {h' : AHeap} {E' : Env} {a' : Go.Act} {w' : World} {v v' : Value} {u u' : FrameMode}, ι.le ι' → endD P T N D fn ts vs v E' h' = some r → VRel P ι' v v' → Rel P F2 ι' h' w' → ERel P ι' E' a'.tmps → a'.defers = [dd] → Found u v' u' → settle u' = .returning → u ≠ .run →
        Leaves P fn a'.tmps (RR P ts F ι r) a'.defers u w' := by
      intro ι' h' E' a' w' v v' u u' hle hx hv R' HE' hd hu hset hru
      unfold endD at hx
      simp only [M.bind] at hx
      split at hx
      rotate_left
      · cases hx
      rename_i x h2 hcl
      rw [hd]
      refine ⟨hru, _, _, D.g, cv, rfl, hinv w', ?_⟩
      refine (cl_sound H.tc H.pc H.fg H.bg H.rg H.rc H.r1 H.r2 hnv hv (hcv.mono hle) hcl (R'.df []) hu).mono ?_
      rintro e u2 w2 ⟨y, ι3, rfl, rfl, R3, hle3⟩
      show Leaves P fn a'.tmps _ [] (settle u2) w2
      rw [hset]
      obtain ⟨v, q1, q2, q3⟩ := fin_done (ts := ts) (fn := fn) (y := r.1) (h1 := r.2) (R3.df F.dfs) (HE'.mono hle3) hx
      exact ⟨v, q1, v, ι3, rfl, q2, q3, hle.trans hle3⟩
    have hrest : rest.wp P (bodyPostD P fn (RR P ts F ι r)) a2 w := by
      have hwp := den_sound HT2 N false [.code (1 :: p)] _ F2 ι h r a2 w S2 hx
      unfold itemsOf at hwp
      simp only [List.map_cons, List.map_nil, hc1] at hwp
      refine wp_mono (c := rest) hwp ?_
      rintro e a' w' (⟨ae, heq, ι', E', h', hle, hk, R', HE', hd, hsz, hfr⟩ | ⟨ι', v, v', h2, rfl, hle, hk, hv, R', hd, hsz, hfr⟩)
      · cases ae with
        | exit id => simp [finD, M.fail] at hk
        | normal =>
          cases e with
          | normal => exact fin hle hk (.flat _ rfl) R' HE' hd .none rfl (by simp)
          | _ => exact heq.elim
        | ret =>
          cases e with
          | ret => exact fin hle hk (.flat _ rfl) R' HE' hd .none rfl (by simp)
          | _ => exact heq.elim
      · have hpre : ∀ i, memN D.cs i = true → a'.tmps[i]? = a.tmps[i]? := by
          intro i hi
          have hm : i ∈ D.cs := by
            unfold memN at hi
            obtain ⟨j, q1, q2⟩ := List.any_eq_true.1 hi
            rw [Nat.eq_of_beq_eq_true q2]; exact q1
          have hnw : memN D.ws i = false := by simpa using List.all_eq_true.1 H.ws i hm
          have h1 := hfr.2 D.ws rfl i hnw
          have hid : D.d ≠ i ∨ D.d = i := (Decidable.em _).symm
          rw [h1]
          show (a.tmps.setIfInBounds D.d _)[i]? = _
          rcases hid with hid | hid
          · rw [Array.getElem?_setIfInBounds_ne hid]
          · exact absurd (by rw [hid]; exact hi) (H.dcs)
        exact fin hle hk hv R' (onlyE_rel (S.env.mono hle) hpre) hd (.one v') rfl (by simp)
    refine wp_seq (wp_region ?_)
    have hl2 : List.range (#[o1, o2] : Array Oper).size = [0, 1] := rfl
    rw [hl2]
    have w1 : ∀ y, Region.wanted o1 y = true := fun y => by simp [Region.wanted, g1]
    have w2 : ∀ y, Region.wanted o2 y = true := fun y => by simp [Region.wanted, g2]
    have e0 : (#[o1, o2] : Array Oper)[0]? = some o1 := rfl
    have e1 : (#[o1, o2] : Array Oper)[1]? = some o2 := rfl
    have run1 : (execOp a.eval o1).run P w = .ok (.value (.func (.func D.g) #[] cv)) w := by
      unfold execOp; rw [op1]; dsimp only
      rw [hfs, hcaps, map_eval]
      simp [Instr.makeFunc, cv]
    have hev : a1.eval (.tmp D.d) = .func (.func D.g) #[] cv := by
      simp only [a1, Act.eval, Act.put, Array.getD_eq_getD_getElem?]
      rw [Array.getElem?_setIfInBounds_self_of_lt (by omega)]
      rfl
    have run2 : (execOp a1.eval o2).run P w = .ok (.defer dd) w := by
      unfold execOp; rw [op2]; dsimp only
      simp only [resolve, hcal, hev, hcargs]
      simp [Deferred.ofValue, dd]
    rw [wpOps]
    simp only [e0, w1, if_true]
    refine .inl ?_
    unfold Oper.wp
    rw [run1, Oper.upon_value, ds1, wpOps]
    simp only [e1, w2, if_true]
    refine .inl ?_
    unfold Oper.wp
    rw [run2, Oper.upon_defer, ds2]
    show rest.wp P _ a2 w
    exact hrest
theorem fnd_ok {e : Ent} {fn : Func} {T1 : Tabs (TsDen e.rs)} {C2 : Ctab} {dr : Nat → Option (List (Nat × List Nat))} {T : Tabs Unit} {N k : Nat} {D : Dfr} {ps : List (Nat × Ty)} (H : DfrIs P fn e.rs T1 C2 T D)
    (hf : P.funcs[e.id]? = some fn) (hb : fn.body = some (bodyOf fn)) (hn : (fn.name == "runtime.NumGoroutine") = false) (hps : ps.map (·.1) = List.range' 0 e.as.length) (hnt : Nat.ble e.as.length fn.ntmps = true)
    (hs : spineOK D (bodyOf fn) k [] = true) (hg : ∀ x, denD P fn e.rs T1 C2 dr T N D k [] (putE ps (pkTs e.as x)) = e.m x) : FnOK P e := by
  intro x
  refine CallOK.of (fun args w => enter_ok hf (by rw [hb]; rfl) hn args w) ?_
  intro F h y h1 hx ι w vs' R hl
  refine calls_of_wp_defers hf hb ?_
  have S := fn_start (nt := fn.ntmps) x vs' hps hnt R hl
  rw [← hg x] at hx
  refine wp_mono (denD_sound H k [] _ { F with dfs := [] } ι h (y, h1) _ w rfl hs S hx) fun e a w hp => ?_
  unfold bodyPostD at hp ⊢
  have up : ∀ e w, RR P _ { F with dfs := [] } ι (y, h1) e w → ∃ v' ι', e = .returned v' ∧ VRel P ι' (tupleOf (pkTs _ y)) v' ∧ Rel P F ι' h1 w ∧ ι.le ι' := fun e w ⟨v, ι2, a, b, c, d⟩ => ⟨v, ι2, a, b, c.df F.dfs, d⟩
  split at hp
  · exact Leaves.mono up _ _ _ hp
  · exact Leaves.mono up _ _ _ hp
  · exact Leaves.mono up _ _ _ hp
  · exact up _ _ hp
  · exact hp.elim
end Go.Ago
