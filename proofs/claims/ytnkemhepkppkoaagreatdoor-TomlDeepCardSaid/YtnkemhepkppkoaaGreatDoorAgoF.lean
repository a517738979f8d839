/-
The denotation of code is sound: what it gives, the model's machine does. No theorem about the program stands here.
-/
import Derived.Test.YtnkemhepkppkoaaGreatDoorAgoE
set_option linter.all false
namespace Go.Ago
open Go
variable {P : Program} {W0 : Fz} {ι ι' : IMap} {h h' h1 : AHeap} {w w' : World}

/-! The frame's slots. -/
def Frm (W : Wr) (t t' : Array Value) : Prop := t'.size = t.size ∧ ∀ l, W.2 = some l → ∀ i, l.any (Nat.beq i) = false → t'[i]? = t[i]?
theorem Frm.refl (W : Wr) (t : Array Value) : Frm W t t := ⟨rfl, fun _ _ _ _ => rfl⟩
theorem Frm.trans {W : Wr} {a b c : Array Value} (x : Frm W a b) (y : Frm W b c) : Frm W a c := ⟨y.1.trans x.1, fun l hl i hi => (y.2 l hl i hi).trans (x.2 l hl i hi)⟩
theorem inW_lt {W : Wr} {i : Nat} (hw : inW W (some i) = true) : i < W.1 := by
  simp only [inW, Bool.and_eq_true] at hw
  have := Nat.le_of_ble_eq_true hw.1
  omega
theorem inW_mem {W : Wr} {i : Nat} (hw : inW W (some i) = true) {l : List Nat} (hl : W.2 = some l) : l.any (Nat.beq i) = true := by
  simp only [inW, Bool.and_eq_true, hl] at hw
  exact hw.2
theorem Frm.put {W : Wr} {a : Go.Act} {d : Option Nat} (hw : inW W d = true) (v : Value) : Frm W a.tmps (a.put d v).tmps := by
  cases d with
  | none => exact .refl _ _
  | some i =>
    refine ⟨by simp [Act.put], fun l hl j hj => ?_⟩
    grind [inW_mem, Act.put]
theorem ERel.set {E : Env} {t : Array Value} (hE : ERel P ι E t) {i : Nat} (hi : i < t.size) {v v' : Value} (hv : VRel P ι v v') : ERel P ι (E.set i v) (t.setIfInBounds i v') := by
  intro j u hj
  simp only [Env.set, cond_beq] at hj
  split at hj
  · grind
  · rename_i e
    obtain ⟨u', a, b⟩ := hE j u hj
    grind
theorem ERel.put {W : Wr} {E : Env} {a : Go.Act} (hE : ERel P ι E a.tmps) (hs : a.tmps.size = W.1) {d : Option Nat} (hw : inW W d = true) {v v' : Value} (hv : VRel P ι v v') :
    ERel P ι (E.put d v) (a.put d v').tmps := by
  cases d with
  | none => exact hE
  | some i => exact hE.set (by rw [hs]; exact inW_lt hw) hv
/-- A slot whose Bool is known. -/
theorem ERel.know {E : Env} {t : Array Value} (hE : ERel P ι E t) {i : Nat} {b : Bool} (hi : E i = some (.bool b)) : ERel P ι (E.set i (.bool b)) t := by
  intro j u hj
  simp only [Env.set, cond_beq] at hj
  split at hj
  · rename_i e; subst e; cases hj
    exact hE _ _ hi
  · exact hE j u hj
theorem ERel.learn {E : Env} {a : Go.Act} (hE : ERel P ι E a.tmps) {c : Operand} {b : Bool} (hc : E.ev c = some (.bool b)) : ERel P ι (E.learn c b) a.tmps := by
  cases c with
  | tmp t => exact hE.know hc
  | _ => exact hE

/-! One operation, run by the machine. -/
theorem Act.run_exec {R : Type} {K : Value → M R} : ∀ {A : Act} {h : AHeap} {r : R × AHeap}, A.run K h = some r → ∃ v h1, A.exec h = some (v, h1) ∧ K v h1 = some r
  | .val v, h, r, hx => ⟨v, h, rfl, hx⟩
  | .ask α m k, h, r, hx => by
    simp only [Act.run, M.bind] at hx
    split at hx
    · rename_i x h1 hm
      obtain ⟨v, h2, e1, e2⟩ := Act.run_exec hx
      exact ⟨v, h2, by simp only [Act.exec, hm, e1], e2⟩
    · cases hx
  | .none, h, r, hx => by simp [Act.run, M.fail] at hx

theorem sameAt_spec : ∀ {as : List (Option Addr)}, sameAt h h1 as = true → ∀ a ∈ as, ∀ b, a = some b → SameC h h1 b
  | [], _, a, ha => by cases ha
  | none :: r, hs, a, ha => by
    rcases List.mem_cons.1 ha with rfl | ha
    · intro b hb; cases hb
    · exact sameAt_spec (as := r) hs a ha
  | some c :: r, hs, a, ha => by
    simp only [sameAt] at hs
    split at hs
    · rename_i heq _
      rcases List.mem_cons.1 ha with rfl | ha
      · intro b hb; cases hb; exact heq
      · exact sameAt_spec (as := r) hs a ha
    · cases hs
theorem sameAt_mk : ∀ {as : List (Option Addr)}, (∀ a ∈ as, ∀ b, a = some b → SameC h h1 b) → sameAt h h1 as = true
  | [], _ => rfl
  | none :: r, hs => by simp only [sameAt]; exact sameAt_mk (as := r) fun a ha => hs a (List.mem_cons_of_mem _ ha)
  | some c :: r, hs => by
    have h0 := hs (some c) (List.mem_cons_self ..) c rfl
    simp only [sameAt]
    split
    · exact sameAt_mk (as := r) fun a ha => hs a (List.mem_cons_of_mem _ ha)
    · rename_i hne _; exact absurd h0 hne
theorem chk_spec {α : Type} {as : List (Option Addr)} {m : M α} {r : α × AHeap} (hx : chk as m h = some r) : m h = some r ∧ sameAt h r.2 as = true := by
  grind [chk]
theorem wrapM_spec {α : Type} {as : List (Option Addr)} {m : M α} {r : α × AHeap} (hx : wrapM as m h = some r) : m h = some r ∧ sameAt h r.2 as = true := by
  unfold wrapM at hx
  split at hx
  · exact ⟨hx, rfl⟩
  · exact chk_spec hx
theorem wrapA_spec {as : List (Option Addr)} {A : Act} {r : Value × AHeap} (hx : (wrapA as A).exec h = some r) : A.exec h = some r := by
  cases A with
  | val v => exact hx
  | none => exact hx
  | ask α m k =>
    cases as with
    | nil => exact hx
    | cons a as =>
      simp only [wrapA, Act.exec] at hx ⊢
      split at hx
      · rename_i x h2 hm
        rw [(chk_spec hm).1]; exact hx
      · cases hx

theorem chkK_spec {α : Type} {ks : List Nat} {a : Addr} {m : M α} {r : α × AHeap} (hx : chkK ks a m h = some r) : m h = some r ∧ okK h a ks = true := by
  grind [chkK]
theorem wrapK_spec {ks : List Nat} {a : Addr} {A : Act} {R : Type} {K : Value → M R} {r : R × AHeap} (hx : (wrapK ks a A).run K h = some r) : A.run K h = some r := by
  cases A with
  | val v => exact hx
  | none => exact hx
  | ask α m k =>
    simp only [wrapK, Act.run, M.bind] at hx ⊢
    split at hx
    · rename_i x h2 hm
      rw [(chkK_spec hm).1]; exact hx
    · cases hx
/-- Is this function entered, or does the machine answer in its place? -/
def Enters (P : Program) (f : FuncId) : Prop := ∀ args w, (callFunc f args).run P w = .ok (.enter f args) w
structure CallOK (P : Program) (f : FuncId) (vs : List Value) (ca : CallAct) : Prop where
  enter : Enters P f ∨ ∀ (F : Fz) h x h1, ca.m h = some (x, h1) → ∀ ι w (vs' : Array Value), Rel P F ι h w → LRel P ι vs vs'.toList →
    ∃ v' w' ι', (callFunc f vs').run P w = .ok (.value v') w' ∧ VRel P ι' (ca.pk x) v' ∧ Rel P F ι' h1 w' ∧ ι.le ι'
  calls : Enters P f → ∀ (F : Fz) h x h1, ca.m h = some (x, h1) → ∀ ι w (vs' : Array Value), Rel P F ι h w → LRel P ι vs vs'.toList →
    Calls P f vs' w fun e w' => ∃ v' ι', e = .returned v' ∧ VRel P ι' (ca.pk x) v' ∧ Rel P F ι' h1 w' ∧ ι.le ι'
theorem CallOK.of {P : Program} {f : FuncId} {vs : List Value} {ca : CallAct} (he : Enters P f) (hc : ∀ (F : Fz) h x h1, ca.m h = some (x, h1) → ∀ ι w (vs' : Array Value), Rel P F ι h w → LRel P ι vs vs'.toList →
    Calls P f vs' w fun e w' => ∃ v' ι', e = .returned v' ∧ VRel P ι' (ca.pk x) v' ∧ Rel P F ι' h1 w' ∧ ι.le ι') : CallOK P f vs ca := ⟨.inl he, fun _ => hc⟩

/-- A call of a function value: where it answers, it is a function that is known. -/
def DynOK (P : Program) (x : Value) (vs : List Value) (ca : CallAct) : Prop :=
  ∀ h y h1, ca.m h = some (y, h1) → ∃ g caps ca' y', x = .func (.func g) #[] caps ∧ CallOK P g (vs ++ caps.toList) ca' ∧ ca'.m h = some (y', h1) ∧ ca'.pk y' = ca.pk y
/-- A call that may end in a panic with one value, that nobody has recovered. -/
def one (v : Value) : List PanicEntry := [{ v, recovered := false }]
structure PCallOK (P : Program) (f : FuncId) (vs : List Value) (ca : PAct) : Prop where
  enter : ∀ args w, (callFunc f args).run P w = .ok (.enter f args) w
  ret : ∀ (F : Fz) h x h1, ca.m h = some (.inl x, h1) → ∀ ι w (vs' : Array Value), Rel P F ι h w → LRel P ι vs vs'.toList →
    Calls P f vs' w fun e w' => ∃ v' ι', e = .returned v' ∧ VRel P ι' (ca.pk x) v' ∧ Rel P F ι' h1 w' ∧ ι.le ι'
  pan : ∀ (F : Fz) h v h1, ca.m h = some (.inr v, h1) → ∀ ι w (vs' : Array Value), Rel P F ι h w → LRel P ι vs vs'.toList →
    Calls P f vs' w fun e w' => ∃ v' ι', e = .panicked (one v') ∧ VRel P ι' v v' ∧ Rel P F ι' h1 w' ∧ ι.le ι'
structure CtabOK (P : Program) (C : Ctab) : Prop where
  st : ∀ f vs ca, C.st f vs = some ca → CallOK P f vs ca
  dy : ∀ t x vs ca, C.dy t x vs = some ca → DynOK P x vs ca
  mo : ∀ f vs ca, C.mo f = true → C.st f vs = some ca → MoM ca.m
  sp : ∀ f vs ca, C.sp f vs = some ca → PCallOK P f vs ca
  isP : ∀ f vs ca, C.sp f vs = some ca → C.isP f = true
  dis : ∀ f vs, C.isP f = true → C.st f vs = none

theorem chkB_spec {α : Type} {k : Nat} {m : M α} {h : AHeap} {r : α × AHeap} (hx : chkB k m h = some r) : m h = some r := by
  unfold chkB at hx
  split at hx
  · split at hx
    · rename_i hm _ _ _; cases hx; exact hm
    · cases hx
  · cases hx
theorem mkm_cancel {a b : AHeap} {k : Nat} {kt : TypeId} (e : a.mkm k kt = b.mkm k kt) (ha : a.fresh k) (hb : b.fresh k) : a = b := by
  obtain ⟨mg, g, nx, tp, us, dc⟩ := a
  obtain ⟨mg', g', nx', tp', us', dc'⟩ := b
  simp only [AHeap.mkm, AHeap.mset, AHeap.mk.injEq] at e
  obtain ⟨e1, rfl, rfl, rfl, e5, rfl⟩ := e
  simp only [AHeap.mk.injEq, true_and, and_true]
  refine ⟨funext fun j => ?_, funext fun j => ?_⟩
  · have := congrFun e1 j
    cases hj : Nat.beq j k
    · simpa [hj] using this
    · have hj := Nat.eq_of_beq_eq_true hj
      subst hj
      exact ha.2.2.1.trans hb.2.2.1.symm
  · have := congrFun e5 j
    cases hj : Nat.beq j k
    · simpa [hj] using this
    · have hj := Nat.eq_of_beq_eq_true hj
      subst hj
      exact ha.1.trans hb.1.symm
theorem chkB_mo {α : Type} {k : Nat} {m : M α} (hm : Anti m) : Anti (chkB k m) := by
  intro h j kt x h2 hf hx
  have hb : m (h.mkm j kt) = some (x, h2) ∧ BP k m (h.mkm j kt) x h2 := by
    unfold chkB at hx
    split at hx
    · split at hx
      · rename_i hm _ hb _; cases hx; exact ⟨hm, hb⟩
      · cases hx
    · cases hx
  obtain ⟨hm1, hb⟩ := hb
  obtain ⟨h1, q1, q2, q3⟩ := hm h j kt x h2 hf hm1
  refine ⟨h1, ?_, q2, q3⟩
  have hbp : BP k m h x h1 := by
    intro h0 t cs f1 f2 f3 e
    have hjk : j ≠ k := fun ejk => by
      subst ejk
      have := hf.2.2.2
      rw [e] at this
      simp [AHeap.putB, Nat.beq_refl] at this
    have b1 : Nat.beq k j = false := by cases q : Nat.beq k j <;> grind [Nat.eq_of_beq_eq_true]
    have b2 : Nat.beq j k = false := by cases q : Nat.beq j k <;> grind [Nat.eq_of_beq_eq_true]
    have comm : ∀ (g : AHeap) (nx : Nat), (g.mkm j kt).putB k nx t cs = (g.putB k nx t cs).mkm j kt := by
      intro g nx
      unfold AHeap.putB AHeap.mkm AHeap.mset
      simp only [AHeap.mk.injEq, true_and, and_true]
      funext i
      cases q1 : Nat.beq i j <;> cases q2 : Nat.beq i k <;> simp
    have hf0 : h0.fresh j := by
      obtain ⟨a, b, c, d⟩ := hf
      rw [e] at a b c d
      exact ⟨by simpa [AHeap.putB, b2] using a, b, c, by simpa [AHeap.putB, b2] using d⟩
    obtain ⟨h3', p1, p2, p3, p4, p5⟩ := hb (h0.mkm j kt) t cs (by simp [AHeap.mkm, b1, f1]) f2 f3 (by rw [e]; exact (comm _ _).symm)
    obtain ⟨h3, r1, r2, r3⟩ := hm h0 j kt x h3' hf0 p1
    subst r3
    refine ⟨h3, r1, by simpa [AHeap.mkm, b1] using p2, p3, p4, mkm_cancel (k := j) (kt := kt) ?_ q2 ?_⟩
    · rw [← q3, p5]; exact comm _ _
    · obtain ⟨a, b, c, d⟩ := r2
      exact ⟨by simp [AHeap.putB, b2, a], b, c, by simp [AHeap.putB, b2, d]⟩
  unfold chkB
  rw [q1]
  simp only
  split
  · rfl
  · rename_i hn _; exact absurd hbp hn
theorem CtabOK.chk {C : Ctab} (H : CtabOK P C) (nb : Nat) (ops : Array Oper) (l : List (Nat × List Nat)) : CtabOK P (C.chk P nb ops l) := by
  refine ⟨fun f vs ca h1 => ?_, H.dy, fun f vs ca h1 h2 => ?_, H.sp, H.isP, fun f vs h1 => ?_⟩
  · simp only [Ctab.chk] at h1
    split at h1
    · exact H.st f vs ca h1
    · split at h1
      · rename_i ca' hca
        cases h1
        obtain ⟨q1, q2⟩ := H.st f vs ca' hca
        exact ⟨q1.imp (fun x => x) fun q F h x h1 hx => q F h x h1 (chkB_spec hx), fun he F h x h1 hx => q2 he F h x h1 (chkB_spec hx)⟩
      · cases h1
  · simp only [Ctab.chk] at h1 h2
    split at h2
    · exact H.mo f vs ca h1 h2
    · split at h2
      · rename_i ca' hca
        cases h2
        exact ⟨chkB_mo (H.mo f vs ca' h1 hca).1, fun h x h3 hx => (H.mo f vs ca' h1 hca).2 h x h3 (chkB_spec hx)⟩
      · cases h2
  · simp only [Ctab.chk]
    have h2 : C.st f vs = none := H.dis f vs h1
    split
    · exact h2
    · rw [h2]

/-- The slices that are written out. -/
def LitR (P : Program) (F : Fz) (ι : IMap) (L : LEnv) (t : Array Value) : Prop :=
  ∀ (i : Nat) n cs, L i = some (n, cs) → ∃ b cs' e, t[i]? = some (.slice (some ⟨b, 0, none⟩) n n) ∧ F b = some (.cells cs' e (0, 0)) ∧ LRel P ι cs cs'.toList ∧ (∀ v ∈ cs, scal v = true)
theorem LitR.emp {F : Fz} {t : Array Value} : LitR P F ι LEnv.emp t := fun i n cs hl => by simp [LEnv.emp] at hl
theorem LitR.mono {F F' : Fz} {L : LEnv} {t : Array Value} (hl : LitR P F ι L t) (hF : FLe F F') (hle : ι.le ι') : LitR P F' ι' L t := fun i n cs hi =>
  let ⟨b, cs', e, q1, q2, q3, q4⟩ := hl i n cs hi
  ⟨b, cs', e, q1, hF.1 _ _ q2, q3.mono hle, q4⟩
theorem LitR.del {F : Fz} {L : LEnv} {a : Go.Act} (hl : LitR P F ι L a.tmps) (d : Option Nat) (v : Value) : LitR P F ι (L.del d) (a.put d v).tmps := by
  intro i n cs hi
  cases d with
  | none => exact hl i n cs hi
  | some j =>
    simp only [LEnv.del, cond_beq] at hi
    split at hi
    · cases hi
    · rename_i hne
      obtain ⟨b, cs', e, q1, q2⟩ := hl i n cs hi
      exact ⟨b, cs', e, by simp only [Act.put]; grind, q2⟩

/-- What holds when the next thing K is to be done. -/
def NowL {R : Type} (P : Program) (F : Fz) (ι : IMap) (W : Wr) (t0 : Array Value) (K : Env → LEnv → M R) (r : R × AHeap) (a : Go.Act) (w : World) : Prop :=
  ∃ F' ι' E L h, FLe F F' ∧ ι.le ι' ∧ K E L h = some r ∧ Rel P F' ι' h w ∧ ERel P ι' E a.tmps ∧ LitR P F' ι' L a.tmps ∧ a.defers = F'.dfs ∧ a.tmps.size = W.1 ∧ Frm W t0 a.tmps
def Now {R : Type} (P : Program) (F : Fz) (ι : IMap) (W : Wr) (t0 : Array Value) (K : Env → M R) (r : R × AHeap) (a : Go.Act) (w : World) : Prop :=
  ∃ ι' E h, ι.le ι' ∧ K E h = some r ∧ Rel P F ι' h w ∧ ERel P ι' E a.tmps ∧ a.defers = F.dfs ∧ a.tmps.size = W.1 ∧ Frm W t0 a.tmps

theorem callee_sound {E : Env} {a : Go.Act} (HE : ERel P ι E a.tmps) {c : Call} {f : FuncId} {vs : List Value} (hc : callee E c = some (f, vs)) (t : TypeId) (w : World) :
    ∃ vs' : Array Value, LRel P ι vs vs'.toList ∧ (do let d ← resolve a.eval c t; invoke d.target d.args).run P w = (callFunc f vs').run P w := by
  unfold callee at hc
  split at hc
  · rename_i fo vs0 hcal hvs
    split at hc
    · rename_i g first captured hf
      cases hc
      have hr := ev_sound HE hf
      generalize hq : a.eval fo = q at hr
      cases hr with
      | flat _ hf => simp [flat1] at hf
      | func _ _ fs' _ cs' e1 e2 e3 e4 =>
        have r0 := evs_arr HE hvs
        refine ⟨fs' ++ c.args.map a.eval ++ cs', ?_, ?_⟩
        · simp only [Array.toList_append]
          exact (LRel.append ⟨by simpa using e1, fun i u u' x y => e2 i u u' (by simpa using x) (by simpa using y)⟩ r0).append ⟨by simpa using e3, fun i u u' x y => e4 i u u' (by simpa using x) (by simpa using y)⟩
        · simp [resolve, hcal, hq, Deferred.ofValue, invoke]
    · cases hc
  · cases hc
theorem calleeD_sound {E : Env} {a : Go.Act} (HE : ERel P ι E a.tmps) {C : Ctab} {c : Call} {t : Nat} {g : FuncId} {caps : Array Value} {vs : List Value} (hd : dySlot C c = some t)
    (hc : calleeD E t c = some (.func (.func g) #[] caps, vs)) (ty : TypeId) (w : World) :
    ∃ vs' : Array Value, LRel P ι (vs ++ caps.toList) vs'.toList ∧ (do let d ← resolve a.eval c ty; invoke d.target d.args).run P w = (callFunc g vs').run P w := by
  unfold calleeD at hc
  split at hc
  · rename_i x vs0 hx hvs
    cases hc
    have hcal : c.callee = .value (.tmp t) := by
      grind [dySlot]
    have hr := ev_sound (x := .tmp t) HE hx
    generalize hq : a.eval (.tmp t) = q at hr
    cases hr with
    | flat _ hf => simp [flat1] at hf
    | func _ _ fs' _ cs' e1 e2 e3 e4 =>
      have r0 := evs_arr HE hvs
      have hfs : fs' = #[] := Array.eq_empty_of_size_eq_zero (by simpa using e1.symm)
      subst hfs
      refine ⟨c.args.map a.eval ++ cs', ?_, ?_⟩
      · simp only [Array.toList_append]
        exact r0.append ⟨by simpa using e3, fun i u u' x y => e4 i u u' (by simpa using x) (by simpa using y)⟩
      · simp [resolve, hcal, hq, Deferred.ofValue, invoke]
  · cases hc
theorem appLit_sound {F : Fz} (R : Rel P F ι h w) {strict : Bool} {E : Env} {L : LEnv} {a : Go.Act} (HE : ERel P ι E a.tmps) (HL : LitR P F ι L a.tmps) {o : Oper} {c : Call} (ho : o.op = .call c) {n : Nat} {cs : List Value}
    (hl : litArg L c = some (n, cs)) {v : Value} (hx : (appLit P strict E c n cs).exec h = some (v, h1)) : OSim P F ι w (execOp a.eval o) v h1 := by
  unfold litArg at hl
  split at hl
  · rename_i s0 t0 hcal hargs
    obtain ⟨b, cs', e0, q1, q2, q3, q4⟩ := HL _ _ _ hl
    unfold appLit at hx
    split at hx
    · rename_i t t' s x hts hargs'
      rw [hargs] at hargs'
      simp at hargs'
      obtain ⟨rfl, rfl⟩ := hargs'
      split at hx
      · rename_i sa sn sc e e' hs ht ht'
        split at hx
        · rename_i z zz hsz hzz
          split at hx
          · rename_i hb
            have hb := Nat.le_of_ble_eq_true hb
            obtain ⟨i, hi, rfl⟩ := info_of_size hsz
            rw [hi] at hb
            simp only [Act.exec] at hx
            split at hx
            · rename_i r h3 hap; cases hx
              have hlen := app_len hap
              have hblk := R.old _ _ q2
              have S : Src P ι h w i.size n (.slice (some ⟨b, 0, none⟩) n n) cs cs'.toList := by
                refine ⟨fun w' => by simp [Builtin.lenOf], fun w' he => ?_, q3, q4⟩
                have hl' : cs'.toList.length = n * i.size := by rw [← q3.1, hlen]
                have := loadCells_heap (P := P) (w := w) (a' := ⟨b, 0, none⟩) (cs' := cs'.toList) hl' (fun j v' hj => by
                  rw [add_eq rfl]; simp [World.cell?, hblk]; simpa using hj) he
                simpa [Builtin.firstCells] using this
              have hsv := ev_sound HE hs
              have htv : a.eval (.tmp t0) = .slice (some ⟨b, 0, none⟩) n n := by simp [Act.eval, Array.getD_eq_getD_getElem?, q1]
              have hga : c.args.map a.eval = #[a.eval s0, .slice (some ⟨b, 0, none⟩) n n] := by
                apply Array.ext'; simp [hargs, htv]
              have hgt : c.argTypes = #[t, t'] := Array.ext' (by simpa using hts)
              have := app_sound (s := ⟨sa, sn, sc⟩) (ty := o.type) R ht (.inl ⟨_, ht'⟩) hi hzz hb hsv S hap
              grind [execOp, resolve, invoke, builtin, this.o]
            · cases hx
          · simp [Act.exec] at hx
        · simp [Act.exec] at hx
      · simp [Act.exec] at hx
    · simp [Act.exec] at hx
  · cases hl

theorem litOf_sound {F : Fz} (R : Rel P F ι h w) {ops : Array Oper} {E : Env} {a : Go.Act} (HE : ERel P ι E a.tmps) {o : Oper} {n : Nat} {cs : List Value} (hl : litOf P ops E o = some (n, cs)) :
    ∃ e r', LRel P ι cs r' ∧ (∀ v ∈ cs, scal v = true) ∧ (execOp a.eval o).run P w = .ok (.value (.slice (some ⟨w.heap.size, 0, none⟩) n n)) { w with heap := w.heap.push (.cells r'.toArray e) } ∧
      F w.heap.size = none ∧ Rel P (addF F w.heap.size (.cells r'.toArray e)) ι h { w with heap := w.heap.push (.cells r'.toArray e) } := by
  unfold litOf at hl
  split at hl
  · rename_i t len parts d ho hd
    split at hl
    · split at hl
      · rename_i vs hvs
        split at hl
        · rename_i cs0 hcs
          cases hl
          have hp : PRel P ι vs (parts.map fun (i, x) => (i, a.eval x)).toList := by simpa using partsOf_sound HE hvs
          obtain ⟨q1, e, r', q2, q3⟩ := litCells_sound hp hcs
          refine ⟨e, r', q2, q1, ?_, ?_, ?_⟩
          · simp only [execOp, ho]
            rw [Sem.run_bind, q3]; rfl
          · cases hq : F w.heap.size with
            | none => rfl
            | some ob => have := (Array.getElem?_eq_some_iff.1 (R.old _ ob hq)).1; omega
          · refine (R.garbage _).freezeF (by simp) (fun n l hl => ?_) fun m r hm => ?_
            · have := hold R n l hl
              omega
            · obtain ⟨_, es, c, q⟩ := R.mp.loc m r hm
              grind
        · cases hl
      · cases hl
    · cases hl
  · cases hl
theorem denOp_sound {R : Type} {C : Ctab} (HT : CtabOK P C) {F : Fz} {W : Wr} {nm : Option Nat} {cks : List (Option Addr)} {ks : List Nat} {ops : Array Oper} {E : Env} {L : LEnv} {o : Oper} {K : Env → LEnv → M R} {r : R × AHeap}
    (R0 : Rel P F ι h w) {a : Go.Act} {t0 : Array Value} (HE : ERel P ι E a.tmps) (HL : LitR P F ι L a.tmps) (hd : a.defers = F.dfs) (hs : a.tmps.size = W.1) (hfr : Frm W t0 a.tmps)
    (hx : denOp P C W nm cks ks ops E L o K h = some r) {next : Go.Act → World → Prop} {Q : Exit → Go.Act → World → Prop} (hnext : ∀ a w, NowL P F ι W t0 K r a w → next a w) : o.wp P a w next Q := by
  generalize hm : denOp P C W nm cks ks ops E L o K = m at hx
  unfold denOp at hm
  split at hm
  · subst hm; simp [M.fail] at hx
  · rename_i hw
    have hdef : ∀ v, (a.put o.dst v).defers = F.dfs := fun v => by cases o.dst <;> exact hd
    have hsz : ∀ v, (a.put o.dst v).tmps.size = W.1 := fun v => by rw [(Frm.put (W := W) hw v).1, hs]
    have fin : ∀ (A : Act) (E' : Env), ERel P ι E' a.tmps → (∀ v h1, A.exec h = some (v, h1) → OSim P F ι w (execOp a.eval o) v h1) →
        (wrapA cks A).run (fun v => K (E'.put o.dst v) (L.del o.dst)) h = some r → o.wp P a w next Q := by
      intro A E' HE' hA hx
      obtain ⟨v, h1, e1, e2⟩ := Act.run_exec hx
      obtain ⟨v', w', ι', hr, hv, R1, hle⟩ := hA v h1 (wrapA_spec e1)
      have hnow : NowL P F ι W t0 K r (a.put o.dst v') w' :=
        ⟨F, ι', _, _, h1, .refl _, hle, e2, R1, (HE'.mono hle).put hs hw hv, (HL.mono (.refl _) hle).del _ _, hdef _, hsz _, hfr.trans (.put hw v')⟩
      unfold Oper.wp
      rcases hr with hr | ⟨hr, rfl⟩
      · rw [hr]; exact hnext _ _ hnow
      · rw [hr]; exact hnext _ _ hnow
    split at hm
    · -- pick
      rename_i c x y ho
      split at hm
      · rename_i t hc
        have hb := (ev_sound HE hc).bool
        have fin2 : ∀ v z, ERel P ι (E.learn c t) a.tmps → (E.learn c t).ev z = some v → K ((E.learn c t).put o.dst v) (L.del o.dst) h = some r → (a.eval (if t = true then x else y) = a.eval z) → o.wp P a w next Q := by
          intro v z HE' hz hk hez
          have hv := ev_sound HE' hz
          unfold Oper.wp
          have hrun : (execOp a.eval o).run P w = .ok (.value (a.eval z)) w := by
            unfold execOp; rw [ho]; dsimp only; rw [hb]
            cases t <;> simp_all [asBool]
          rw [hrun]
          exact hnext _ _ ⟨F, ι, _, _, h, .refl _, .refl _, hk, R0, HE'.put hs hw hv, HL.del _ _, hdef _, hsz _, hfr.trans (.put hw _)⟩
        unfold iteB at hm
        split at hm
        · rename_i ht; subst ht
          split at hm
          · rename_i v hv; subst hm; exact fin2 v x (HE.learn hc) hv hx rfl
          · subst hm; simp [M.fail] at hx
        · rename_i ht
          have ht : t = false := by cases t <;> simp_all
          subst ht
          split at hm
          · rename_i v hv; subst hm; exact fin2 v y (HE.learn hc) hv hx rfl
          · subst hm; simp [M.fail] at hx
      · subst hm; simp [M.fail] at hx
    · -- calls
      rename_i c ho
      split at hm
      · split at hm
        · rename_i n cs hla
          subst hm
          rw [byB_eq] at hx
          exact fin _ E HE (fun v h1 hx => appLit_sound R0 HE HL ho hla (by rw [capW_exec hx] at hx; exact hx)) hx
        · split at hm
          · subst hm; simp [M.fail] at hx
          · subst hm; exact fin _ E HE (fun v h1 hx => aop_sound R0 HE (by rw [capW_exec hx] at hx; exact hx)) hx
      · have call : ∀ (ca ca' : CallAct) (f : FuncId) (vs : List Value) (vs' : Array Value) (x : ca.α) (x' : ca'.α) (h2 : AHeap), CallOK P f vs ca' → LRel P ι vs vs'.toList →
            (do let d ← resolve a.eval c o.type; invoke d.target d.args).run P w = (callFunc f vs').run P w → ca'.m h = some (x', h2) → ca'.pk x' = ca.pk x →
            K (E.put o.dst (ca.pk x)) (L.del o.dst) h2 = some r → o.wp P a w next Q := by
          intro ca ca' f vs vs' x x' h2 hok r1 r2 hm hpk hx
          obtain ⟨hen, hcalls⟩ := hok
          rcases hen with hen | hval
          rotate_left
          · obtain ⟨v', w', ι', hrun, hv, R1, hle⟩ := hval F h x' h2 hm ι w vs' R0 r1
            unfold Oper.wp
            have hrun : (execOp a.eval o).run P w = .ok (.value v') w' := by
              grind [execOp]
            rw [hrun]
            rw [hpk] at hv
            exact hnext _ _ ⟨F, ι', _, _, h2, .refl _, hle, hx, R1, (HE.mono hle).put hs hw hv, (HL.mono (.refl _) hle).del _ _, hdef _, hsz _, hfr.trans (.put hw v')⟩
          have hcalls := hcalls hen
          unfold Oper.wp
          have hrun : (execOp a.eval o).run P w = .ok (.enter f vs') w := by
            unfold execOp; rw [ho]; dsimp only
            rw [r2, hen]
          rw [hrun]
          refine (hcalls F h x' h2 hm ι w vs' R0 r1).mono ?_
          rintro e w'' ⟨v', ι', rfl, hv, R1, hle⟩
          rw [hpk] at hv
          exact hnext _ _ ⟨F, ι', _, _, h2, .refl _, hle, hx, R1, (HE.mono hle).put hs hw hv, (HL.mono (.refl _) hle).del _ _, hdef _, hsz _, hfr.trans (.put hw v')⟩
        split at hm
        · rename_i t hds
          split at hm
          · rename_i xv vs hcd
            split at hm
            · rename_i ca hca
              subst hm
              simp only [M.bind] at hx
              split at hx
              · rename_i x h2 hm
                obtain ⟨g, caps, ca', y', rfl, q2, q3, q4⟩ := HT.dy _ _ _ _ hca h x h2 (wrapM_spec hm).1
                obtain ⟨vs', r1, r2⟩ := calleeD_sound HE hds hcd o.type w
                exact call ca ca' _ _ vs' x y' h2 q2 r1 r2 q3 q4 hx
              · cases hx
            · subst hm; simp [M.fail] at hx
          · subst hm; simp [M.fail] at hx
        · split at hm
          · rename_i f vs hcal
            split at hm
            · rename_i ca hca
              subst hm
              simp only [M.bind] at hx
              split at hx
              · rename_i x h2 hm
                obtain ⟨vs', r1, r2⟩ := callee_sound HE hcal o.type w
                exact call ca ca _ _ vs' x x h2 (HT.st f vs ca hca) r1 r2 (wrapM_spec hm).1 rfl hx
              · cases hx
            · subst hm; simp [M.fail] at hx
          · subst hm; simp [M.fail] at hx
    · -- stores
      split at hm
      · subst hm; exact fin _ E HE (fun v h1 hx => aop_sound R0 HE hx) hx
      · split at hm
        · subst hm; grind [aop_sound, wrapK_spec]
        · subst hm; simp [M.fail] at hx
    · -- slices that are written out
      rename_i t len parts ho
      split at hm
      · rename_i x hlo
        obtain ⟨n, cs⟩ := x
        subst hm
        obtain ⟨e, r', q1, q2, q3, q4, q5⟩ := litOf_sound R0 HE hlo
        have hdst : ∃ d, o.dst = some d := by
          grind [litOf]
        obtain ⟨d, hd'⟩ := hdst
        unfold Oper.wp
        rw [q3]
        refine hnext _ _ ⟨_, ι, _, _, h, FLe.add q4, .refl _, hx, q5, ?_, ?_, hdef _, hsz _, hfr.trans (.put hw _)⟩
        · rw [hd']
          intro j u hj
          simp only [Env.del, cond_beq] at hj
          split at hj
          · cases hj
          · rename_i hne
            obtain ⟨u', x1, x2⟩ := HE j u hj
            exact ⟨u', by simp only [Act.put]; grind, x2⟩
        · rw [hd']
          intro j m cs2 hj
          simp only [LEnv.put, cond_beq] at hj
          split at hj
          · rename_i hne; subst hne; cases hj
            have hlt : j < a.tmps.size := by rw [hs]; rw [hd'] at hw; exact inW_lt hw
            refine ⟨w.heap.size, r'.toArray, e, by simp [Act.put, hlt], by simp [addF], by simpa using q1, q2⟩
          · rename_i hne
            obtain ⟨b, cs', e', x1, x2, x3, x4⟩ := HL j m cs2 hj
            exact ⟨b, cs', e', by simp only [Act.put]; grind, (FLe.add q4).1 _ _ x2, x3, x4⟩
      · subst hm; exact fin _ E HE (fun v h1 hx => aop_sound R0 HE hx) hx
    · subst hm; exact fin _ E HE (fun v h1 hx => aop_sound R0 HE hx) hx

/-- A region's operations in some order. -/
theorem denOps_sound {R : Type} {C : Ctab} (HT : CtabOK P C) {F : Fz} {W : Wr} {nb : Option Nat} {ops : Array Oper} {K : Env → M R} {r : R × AHeap} {t0 : Array Value} (hlib : LibOf F) {Q : Exit → Go.Act → World → Prop} (hQ : ∀ a w, Now P F ι W t0 K r a w → Q .normal a w) :
    ∀ (l : List (Nat × List Nat)) (E : Env) (L : LEnv) (A : AEnv) (F0 : Fz) (ι0 : IMap) (h : AHeap) (a : Go.Act) (w : World),
      Rel P F0 ι0 h w → ERel P ι0 E a.tmps → LitR P F0 ι0 L a.tmps → a.defers = F0.dfs → a.tmps.size = W.1 → Frm W t0 a.tmps → ι.le ι0 → FLe F F0 → denOps P C W nb ops l E L A K h = some r →
      wpOps P ops Q (l.map (·.1)) a w
  | [], E, L, A, F0, ι0, h, a, w, R0, HE, HL, hd, hs, hfr, hle, hF, hx => hQ _ _ ⟨ι0, E, h, hle, hx, R0.shrink hF hlib, HE, hd.trans hF.2.2.2, hs, hfr⟩
  | (i, cs) :: rest, E, L, A, F0, ι0, h, a, w, R0, HE, HL, hd, hs, hfr, hle, hF, hx => by
    have ih := denOps_sound HT (F := F) (W := W) (nb := nb) (ops := ops) (K := K) (r := r) (t0 := t0) hlib hQ rest
    generalize hm : denOps P C W nb ops ((i, cs) :: rest) E L A K = m at hx
    unfold denOps at hm
    split at hm
    · subst hm; simp [M.fail] at hx
    · rename_i o ho
      have run : ∀ E', ERel P ι0 E' a.tmps → Region.wanted o (yielded ops a.tmps) = true →
          denOp P C W (nb.map (· + i)) (cs.map A) (ksOf P ops nb cs) ops E' L o (fun E' L' => denOps P C W nb ops rest E' L' (fun j => cond (Nat.beq j i) (readAt E o) (A j)) K) h = some r →
          wpOps P ops Q ((i :: rest.map (·.1))) a w := by
        intro E' HE' hwant hx
        simp only [wpOps, ho]
        rw [if_pos hwant]
        refine .inl (denOp_sound (ι := ι0) (t0 := t0) HT R0 HE' HL hd hs hfr hx ?_)
        rintro a2 w2 ⟨F2, ι2, E2, L2, h2, hF2, hle2, hk, R2, HE2, HL2, hd2, hs2, hfr2⟩
        exact ih E2 L2 _ F2 ι2 h2 a2 w2 R2 HE2 HL2 hd2 hs2 hfr2 (hle.trans hle2) (hF.trans hF2) hk
      have skip : ∀ E', ERel P ι0 E' a.tmps → Region.wanted o (yielded ops a.tmps) = false → inW W o.dst = true →
          denOps P C W nb ops rest (E'.put o.dst undef) (L.del o.dst) A K h = some r →
          wpOps P ops Q ((i :: rest.map (·.1))) a w := by
        intro E' HE' hwant hw hx
        simp only [wpOps, ho]
        rw [if_neg (by rw [hwant]; simp)]
        refine ih _ _ A F0 ι0 h _ w R0 (HE'.put hs hw (.tuple _ _ rfl (by simp))) (HL.del _ _) ?_ ?_ (hfr.trans (.put hw _)) hle hF hx
        · cases o.dst <;> exact hd
        · rw [(Frm.put (W := W) hw _).1, hs]
      split at hm
      · rename_i hg
        subst hm
        exact run E HE (by simp [Region.wanted, hg]) hx
      · rename_i j want hg
        split at hm
        · rename_i t ht
          split at hm
          · rename_i b hb
            obtain ⟨v', hv1, hv2⟩ := HE t _ hb
            obtain rfl := hv2.bool
            have hy : yielded ops a.tmps j = some b := by simp [yielded, ht, hv1]
            have hwant : Region.wanted o (yielded ops a.tmps) = (b == want) := by simp [Region.wanted, hg, hy]
            cases want with
            | true =>
              simp only at hm
              unfold iteB at hm
              split at hm
              · rename_i e; subst e; subst hm
                exact run _ (HE.know hb) (by rw [hwant]; rfl) hx
              · rename_i e
                have : b = false := by cases b <;> simp_all
                subst this
                split at hm
                · rename_i hw; subst hm; exact skip _ (HE.know hb) (by rw [hwant]; rfl) hw hx
                · subst hm; simp [M.fail] at hx
            | false =>
              simp only at hm
              unfold iteB at hm
              split at hm
              · rename_i e; subst e
                split at hm
                · rename_i hw; subst hm; exact skip _ (HE.know hb) (by rw [hwant]; rfl) hw hx
                · subst hm; simp [M.fail] at hx
              · rename_i e
                have : b = false := by cases b <;> simp_all
                subst this; subst hm
                exact run _ (HE.know hb) (by rw [hwant]; rfl) hx
          · rename_i vs hb
            obtain ⟨v', hv1, hv2⟩ := HE t _ hb
            have hy : yielded ops a.tmps j = none := by
              cases hv2 with
              | flat _ hf => simp [flat1] at hf
              | tuple => simp [yielded, ht, hv1]
            split at hm
            · rename_i hw; subst hm
              exact skip E HE (by simp [Region.wanted, hg, hy]) hw hx
            · subst hm; simp [M.fail] at hx
          · subst hm; simp [M.fail] at hx
        · subst hm; simp [M.fail] at hx

/-! A region in its written order, whose calls may end in a panic. -/
/-- What holds where a panic leaves a region. -/
def PanL {R : Type} (P : Program) (F : Fz) (ι : IMap) (W : Wr) (t0 : Array Value) (pan : Value → M R) (r : R × AHeap) (e : Exit) (a : Go.Act) (w : World) : Prop :=
  ∃ F' ι' v v' h, e = .panic (one v') ∧ FLe F F' ∧ ι.le ι' ∧ pan v h = some r ∧ VRel P ι' v v' ∧ Rel P F' ι' h w ∧ a.defers = F'.dfs ∧ a.tmps.size = W.1 ∧ Frm W t0 a.tmps
theorem panArg_run {a : Go.Act} {o : Oper} {x : Operand} (hp : panArg o = some x) {t : TypeId} {v : Value} (hx : a.eval x = .iface t v) (w : World) : (execOp a.eval o).run P w = .halt (.panic (.iface t v)) w := by
  unfold panArg at hp
  split at hp
  · rename_i y ho
    cases hp
    unfold execOp; rw [ho]; dsimp only; rw [hx]; rfl
  · rename_i c ho
    split at hp
    · rename_i y hc ha
      cases hp
      have hm : c.args.map a.eval = #[.iface t v] := by apply Array.ext'; simp [ha, hx]
      unfold execOp; rw [ho]; dsimp only
      simp only [resolve, hc, pure_bind, invoke, builtin, hm]
      rfl
    · cases hp
  · cases hp
theorem denOpP_sound {R : Type} {C : Ctab} (HT : CtabOK P C) {F : Fz} {W : Wr} {nm : Option Nat} {ops : Array Oper} {E : Env} {L : LEnv} {o : Oper} {pan : Value → M R} {K : Env → LEnv → M R} {r : R × AHeap}
    (R0 : Rel P F ι h w) {a : Go.Act} {t0 : Array Value} (HE : ERel P ι E a.tmps) (HL : LitR P F ι L a.tmps) (hd : a.defers = F.dfs) (hs : a.tmps.size = W.1) (hfr : Frm W t0 a.tmps)
    (hx : denOpP P C W nm ops E L o pan K h = some r) {next : Go.Act → World → Prop} {Q : Exit → Go.Act → World → Prop} (hnext : ∀ a w, NowL P F ι W t0 K r a w → next a w)
    (hpan : ∀ e a w, PanL P F ι W t0 pan r e a w → Q e a w) : o.wp P a w next Q := by
  generalize hm : denOpP P C W nm ops E L o pan K = m at hx
  unfold denOpP at hm
  split at hm
  · rename_i x hp
    split at hm
    · rename_i t v hv
      subst hm
      have hr := ev_sound HE hv
      generalize hq : a.eval x = q at hr
      have : ∃ v', q = .iface t v' := by cases hr <;> exact ⟨_, rfl⟩
      obtain ⟨v', rfl⟩ := this
      unfold Oper.wp
      rw [panArg_run hp hq]
      exact hpan _ _ _ ⟨F, ι, _, _, h, rfl, .refl _, .refl _, hx, hr, R0, hd, hs, hfr⟩
    · subst hm; simp [M.fail] at hx
  · split at hm
    · rename_i ca hca
      split at hm
      · rename_i hw
        subst hm
        have hdef : ∀ v, (a.put o.dst v).defers = F.dfs := fun v => by cases o.dst <;> exact hd
        have hsz : ∀ v, (a.put o.dst v).tmps.size = W.1 := fun v => by rw [(Frm.put (W := W) hw v).1, hs]
        unfold panCall at hca
        split at hca
        rotate_left
        · cases hca
        split at hca
        · rename_i c ho
          split at hca
          · rename_i f vs hcal
            obtain ⟨hen, hret, hpn⟩ := HT.sp f vs ca hca
            obtain ⟨vs', r1, r2⟩ := callee_sound HE hcal o.type w
            have hrun : (execOp a.eval o).run P w = .ok (.enter f vs') w := by
              grind [execOp]
            unfold Oper.wp
            rw [hrun]
            simp only [M.bind] at hx
            split at hx
            · rename_i x h2 hm
              cases x with
              | inl y =>
                refine (hret F h y h2 hm ι w vs' R0 r1).mono ?_
                rintro e w'' ⟨v', ι', rfl, hv, R1, hle⟩
                exact hnext _ _ ⟨F, ι', _, _, h2, .refl _, hle, hx, R1, (HE.mono hle).put hs hw hv, (HL.mono (.refl _) hle).del _ _, hdef _, hsz _, hfr.trans (.put hw v')⟩
              | inr v =>
                refine (hpn F h v h2 hm ι w vs' R0 r1).mono ?_
                rintro e w'' ⟨v', ι', rfl, hv, R1, hle⟩
                exact hpan _ _ _ ⟨F, ι', v, v', h2, rfl, .refl _, hle, hx, hv, R1, hd, hs, hfr⟩
            · cases hx
          · cases hca
        · cases hca
      · subst hm; simp [M.fail] at hx
    · subst hm; exact denOp_sound HT R0 HE HL hd hs hfr hx hnext
def PanP {R : Type} (P : Program) (F : Fz) (ι : IMap) (W : Wr) (t0 : Array Value) (pan : Value → M R) (r : R × AHeap) (e : Exit) (a : Go.Act) (w : World) : Prop :=
  ∃ ι' v v' h, e = .panic (one v') ∧ ι.le ι' ∧ pan v h = some r ∧ VRel P ι' v v' ∧ Rel P F ι' h w ∧ a.defers = F.dfs ∧ a.tmps.size = W.1 ∧ Frm W t0 a.tmps
theorem PanP.trans {R : Type} {F : Fz} {W : Wr} {t0 t1 : Array Value} {pan : Value → M R} {r : R × AHeap} (hle : ι.le ι') (hf : Frm W t0 t1) {e : Exit} {a : Go.Act} {w : World}
    (hp : PanP P F ι' W t1 pan r e a w) : PanP P F ι W t0 pan r e a w := by
  obtain ⟨ι2, v, v', h, q1, q2, q3, q4, q5, q6, q7, q8⟩ := hp
  exact ⟨ι2, v, v', h, q1, hle.trans q2, q3, q4, q5, q6, q7, hf.trans q8⟩
/-- A region's operations in their written order. -/
theorem denOpsP_sound {R : Type} {C : Ctab} (HT : CtabOK P C) {F : Fz} {W : Wr} {nb : Option Nat} {ops : Array Oper} {pan : Value → M R} {K : Env → M R} {r : R × AHeap} {t0 : Array Value} (hlib : LibOf F) :
    ∀ (l : List Nat) (E : Env) (L : LEnv) (F0 : Fz) (ι0 : IMap) (h : AHeap) (a : Go.Act) (w : World),
      Rel P F0 ι0 h w → ERel P ι0 E a.tmps → LitR P F0 ι0 L a.tmps → a.defers = F0.dfs → a.tmps.size = W.1 → Frm W t0 a.tmps → ι.le ι0 → FLe F F0 → denOpsP P C W nb ops pan l E L K h = some r →
      wpOps P ops (fun e a w => (e = .normal ∧ Now P F ι W t0 K r a w) ∨ PanP P F ι W t0 pan r e a w) l a w
  | [], E, L, F0, ι0, h, a, w, R0, HE, HL, hd, hs, hfr, hle, hF, hx => .inl ⟨rfl, ι0, E, h, hle, hx, R0.shrink hF hlib, HE, hd.trans hF.2.2.2, hs, hfr⟩
  | i :: rest, E, L, F0, ι0, h, a, w, R0, HE, HL, hd, hs, hfr, hle, hF, hx => by
    have ih := denOpsP_sound HT (F := F) (W := W) (nb := nb) (ops := ops) (pan := pan) (K := K) (r := r) (t0 := t0) hlib rest
    generalize hm : denOpsP P C W nb ops pan (i :: rest) E L K = m at hx
    unfold denOpsP at hm
    split at hm
    · subst hm; simp [M.fail] at hx
    · rename_i o ho
      have run : ∀ E', ERel P ι0 E' a.tmps → Region.wanted o (yielded ops a.tmps) = true →
          denOpP P C W (nb.map (· + i)) ops E' L o pan (fun E' L' => denOpsP P C W nb ops pan rest E' L' K) h = some r →
          wpOps P ops (fun e a w => (e = .normal ∧ Now P F ι W t0 K r a w) ∨ PanP P F ι W t0 pan r e a w) (i :: rest) a w := by
        intro E' HE' hwant hx
        simp only [wpOps, ho]
        rw [if_pos hwant]
        refine .inl (denOpP_sound (ι := ι0) (t0 := t0) HT R0 HE' HL hd hs hfr hx ?_ ?_)
        · rintro a2 w2 ⟨F2, ι2, E2, L2, h2, hF2, hle2, hk, R2, HE2, HL2, hd2, hs2, hfr2⟩
          exact ih E2 L2 F2 ι2 h2 a2 w2 R2 HE2 HL2 hd2 hs2 hfr2 (hle.trans hle2) (hF.trans hF2) hk
        · rintro e a2 w2 ⟨F2, ι2, v, v', h2, rfl, hF2, hle2, hk, hv, R2, hd2, hs2, hfr2⟩
          exact .inr ⟨ι2, v, v', h2, rfl, hle.trans hle2, hk, hv, R2.shrink (hF.trans hF2) hlib, hd2.trans (hF.trans hF2).2.2.2, hs2, hfr2⟩
      have skip : ∀ E', ERel P ι0 E' a.tmps → Region.wanted o (yielded ops a.tmps) = false → inW W o.dst = true →
          denOpsP P C W nb ops pan rest (E'.put o.dst undef) (L.del o.dst) K h = some r →
          wpOps P ops (fun e a w => (e = .normal ∧ Now P F ι W t0 K r a w) ∨ PanP P F ι W t0 pan r e a w) (i :: rest) a w := by
        intro E' HE' hwant hw hx
        simp only [wpOps, ho]
        rw [if_neg (by rw [hwant]; simp)]
        refine ih _ _ F0 ι0 h _ w R0 (HE'.put hs hw (.tuple _ _ rfl (by simp))) (HL.del _ _) ?_ ?_ (hfr.trans (.put hw _)) hle hF hx
        · cases o.dst <;> exact hd
        · rw [(Frm.put (W := W) hw _).1, hs]
      split at hm
      · rename_i hg
        subst hm
        exact run E HE (by simp [Region.wanted, hg]) hx
      · rename_i j want hg
        split at hm
        · rename_i t ht
          split at hm
          · rename_i b hb
            obtain ⟨v', hv1, hv2⟩ := HE t _ hb
            obtain rfl := hv2.bool
            have hy : yielded ops a.tmps j = some b := by simp [yielded, ht, hv1]
            have hwant : Region.wanted o (yielded ops a.tmps) = (b == want) := by simp [Region.wanted, hg, hy]
            cases want with
            | true =>
              simp only at hm
              unfold iteB at hm
              split at hm
              · rename_i e; subst e; subst hm
                exact run _ (HE.know hb) (by rw [hwant]; rfl) hx
              · rename_i e
                have : b = false := by cases b <;> simp_all
                subst this
                split at hm
                · rename_i hw; subst hm; exact skip _ (HE.know hb) (by rw [hwant]; rfl) hw hx
                · subst hm; simp [M.fail] at hx
            | false =>
              simp only at hm
              unfold iteB at hm
              split at hm
              · rename_i e; subst e
                split at hm
                · rename_i hw; subst hm; exact skip _ (HE.know hb) (by rw [hwant]; rfl) hw hx
                · subst hm; simp [M.fail] at hx
              · rename_i e
                have : b = false := by cases b <;> simp_all
                subst this; subst hm
                exact run _ (HE.know hb) (by rw [hwant]; rfl) hx
          · rename_i vs hb
            obtain ⟨v', hv1, hv2⟩ := HE t _ hb
            have hy : yielded ops a.tmps j = none := by
              cases hv2 with
              | flat _ hf => simp [flat1] at hf
              | tuple => simp [yielded, ht, hv1]
            split at hm
            · rename_i hw; subst hm
              exact skip E HE (by simp [Region.wanted, hg, hy]) hw hx
            · subst hm; simp [M.fail] at hx
          · subst hm; simp [M.fail] at hx
        · subst hm; simp [M.fail] at hx
end Go.Ago
