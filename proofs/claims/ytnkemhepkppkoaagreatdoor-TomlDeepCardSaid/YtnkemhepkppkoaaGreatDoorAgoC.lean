/-
The operations of the abstract semantics are sound: what they give is what the model's operation gives, up to the relation. No theorem about the program stands here.
-/
import Derived.Test.YtnkemhepkppkoaaGreatDoorAgoB
import Derived.Lib.Builder
import Derived.Lib.UnsafeStr
import Derived.Laws.Append
import Derived.Laws.StructEq
import Derived.Laws.AppendOwn
set_option linter.all false
namespace Go.Ago
open Go
variable {P : Program} {W0 : Fz} {ι ι' : IMap} {h h' h1 : AHeap} {w w' : World}

/-! Values by their form. -/
theorem VRel.int {k : IntKind} {n : Int} {v' : Value} (hr : VRel P ι (.int k n) v') : v' = .int k n := by cases hr; rfl
theorem VRel.bool {b : Bool} {v' : Value} (hr : VRel P ι (.bool b) v') : v' = .bool b := by cases hr; rfl
theorem VRel.str {s : ByteArray} {v' : Value} (hr : VRel P ι (.string s) v') : v' = .string s := by cases hr; rfl
theorem VRel.float {k : FloatKind} {n : Nat} {v' : Value} (hr : VRel P ι (.float k n) v') : v' = .float k n := by cases hr; rfl
theorem VRel.nilIface {v' : Value} (hr : VRel P ι .nilIface v') : v' = .nilIface := by cases hr; rfl
theorem VRel.ptrS {a : Addr} {v' : Value} (hr : VRel P ι (.pointer (some a)) v') : ∃ a', v' = .pointer (some a') ∧ ARel ι a a' := by
  cases hr with
  | flat _ hf => simp [flat1] at hf
  | ptr _ a' ha => exact ⟨a', rfl, ha⟩
theorem VRel.ptrO {p : Option Addr} {v' : Value} (hr : VRel P ι (.pointer p) v') : ∃ p', v' = .pointer p' ∧ p'.isNone = p.isNone ∧ ∀ a, p = some a → ∃ a', p' = some a' ∧ ARel ι a a' := by
  cases hr with
  | flat _ hf => cases p with
    | none => exact ⟨none, rfl, rfl, by simp⟩
    | some a => simp [flat1] at hf
  | ptr a a' ha => grind
theorem VRel.slO {a : Option Addr} {n c : Nat} {v' : Value} (hr : VRel P ι (.slice a n c) v') : ∃ a' c', v' = .slice a' n c' ∧ a'.isNone = a.isNone := by
  cases hr with
  | flat _ hf => grind
  | slice a a' n c c' => exact ⟨_, _, rfl, rfl⟩
  | sliceE a a' c => exact ⟨_, _, rfl, rfl⟩

/-- An operation on both sides. -/
def VSim (P : Program) (W0 : Fz) (ι : IMap) (w : World) (s : Sem Value) (v : Value) (h1 : AHeap) : Prop :=
  ∃ v' w' ι', s.run P w = .ok v' w' ∧ VRel P ι' v v' ∧ Rel P W0 ι' h1 w' ∧ ι.le ι'
def OSim (P : Program) (W0 : Fz) (ι : IMap) (w : World) (s : Sem Next) (v : Value) (h1 : AHeap) : Prop :=
  ∃ v' w' ι', (s.run P w = .ok (.value v') w' ∨ (s.run P w = .ok .skip w' ∧ v' = undef)) ∧ VRel P ι' v v' ∧ Rel P W0 ι' h1 w' ∧ ι.le ι'
theorem VSim.o {s : Sem Value} {v : Value} (hs : VSim P W0 ι w s v h1) : OSim P W0 ι w (do pure (.value (← s))) v h1 := by
  obtain ⟨v', w', ι', hr, a, b, c⟩ := hs
  exact ⟨v', w', ι', .inl (by simp [hr]), a, b, c⟩
theorem VSim.pure {v v' : Value} (hv : VRel P ι v v') (R : Rel P W0 ι h w) : VSim P W0 ι w (Pure.pure v') v h := ⟨v', w, ι, rfl, hv, R, .refl _⟩
theorem OSim.pure {v v' : Value} (hv : VRel P ι v v') (R : Rel P W0 ι h w) : OSim P W0 ι w (Pure.pure (.value v')) v h := ⟨v', w, ι, .inl rfl, hv, R, .refl _⟩

theorem ev_sound {E : Env} {a : Go.Act} (HE : ERel P ι E a.tmps) {x : Operand} {v : Value} (hv : E.ev x = some v) : VRel P ι v (a.eval x) := by
  cases x with
  | tmp t =>
    obtain ⟨v', h1, h2⟩ := HE t v hv
    simp [Act.eval, Array.getD_eq_getD_getElem?, h1]; exact h2
  | const u =>
    simp only [Env.ev] at hv
    split at hv
    · rename_i hf; cases hv; exact .of_flat hf
    · cases hv
  | global g => simp [Env.ev] at hv
  | func f => simp [Env.ev] at hv; subst hv; exact .func _ _ _ _ _ rfl (by simp) rfl (by simp)
theorem evs_sound {E : Env} {a : Go.Act} (HE : ERel P ι E a.tmps) : ∀ {xs : List Operand} {vs : List Value}, E.evs xs = some vs → LRel P ι vs (xs.map a.eval)
  | [], vs, hv => by simp [Env.evs] at hv; subst hv; exact .nil
  | x :: xs, vs, hv => by
    simp only [Env.evs] at hv
    split at hv
    · rename_i v vs' h1 h2
      cases hv
      exact LRel.cons (ev_sound HE h1) (evs_sound HE h2)
    · cases hv

theorem szT_of {t : TypeId} {n : Nat} (hs : sizeOfT P t = some n) : ∀ w, (sizeOf t).run P w = .ok n w := by
  intro w
  unfold sizeOfT at hs
  split at hs
  · rename_i i hi; cases hs
    simp [sizeOf, typeInfo, hi]
  · cases hs
theorem szT_eq {t : TypeId} {n : Nat} (hs : sizeOfT P t = some n) : szT P t = n := by
  unfold sizeOfT at hs; unfold szT
  split at hs <;> simp_all
theorem run_und {t : TypeId} {d : TypeDesc} (hd : P.underlying t = some d) (w : World) : (underlying t).run P w = .ok d w := run_underlying hd w
theorem run_isAgg' {t : TypeId} {d : TypeDesc} (hd : P.underlying t = some d) (w : World) : (isAgg t).run P w = .ok (isAggD d) w := by
  cases d <;> simp [isAgg, run_und hd, isAggD]
theorem zeroOf_spec {t : TypeId} {z : Value} (hz : zeroOf P t = some z) : z.cells.toList.all flat1 = true ∧ (∀ w, (zeroValue t).run P w = .ok z w) ∧ sizeOfT P t = some z.cells.size ∧ ∃ i, P.info? t = some i ∧ i.zero = some z ∧ i.size = z.cells.size := by
  unfold zeroOf at hz
  split at hz
  · rename_i i hi
    split at hz
    · rename_i v hv
      split at hz
      · rename_i hc
        cases hz
        simp only [Bool.and_eq_true] at hc
        have hc := And.intro hc.1 (Nat.eq_of_beq_eq_true hc.2)
        exact ⟨hc.1, fun w => by simp [zeroValue, typeInfo, hi, hv], by simp [sizeOfT, hi, hc.2], i, hi, hv, hc.2.symm⟩
      · cases hz
    · cases hz
  · cases hz
theorem scal_of_flat1 {v : Value} (hv : flat1 v = true) : scal v = true := by cases v <;> simp_all [flat1, scal]

/-! New blocks. -/
theorem newB_sound (R : Rel P W0 ι h w) {nm : Option Nat} {e : TypeId} {cs cs' : List Value} {b : Nat} (hn : newB nm e cs h = some (b, h1)) (hl : LRel P ι cs cs') :
    VSim P W0 ι w (do pure (.pointer (some (← newRow e cs'.toArray)))) (.pointer (some ⟨b, 0, none⟩)) h1 := by
  have fin : ∀ (k next' : Nat), h.used k = false → k < next' ∧ h.next ≤ next' → cs.all scal = true →
      VSim P W0 ι w (do pure (.pointer (some (← newRow e cs'.toArray)))) (.pointer (some ⟨k, 0, none⟩)) (h.putB k next' e cs) := by
    intro k next' h1 h2 hsc
    obtain ⟨ι', hle, hnew, R'⟩ := R.put k next' h1 h2 e cs cs' [] (0, 0) (by intro o _; simp) hl (List.all_eq_true.1 hsc)
    rw [List.append_nil] at R'
    exact ⟨.pointer (some ⟨w.heap.size, 0, none⟩), _, ι', by simp [newRow], .ptr _ _ ⟨rfl, rfl, _, hnew, rfl, rfl⟩, R', hle⟩
  unfold newB at hn
  split at hn
  · rename_i hsc
    cases nm with
    | none => cases hn; exact fin _ _ R.unused ⟨by omega, by omega⟩ hsc
    | some k =>
      grind
  · cases hn
theorem alloc_sound (R : Rel P W0 ι h w) {t : TypeId} {z : Value} (hz : zeroOf P t = some z) {nm : Option Nat} {b : Nat} (hn : newB nm t z.cells.toList h = some (b, h1)) :
    VSim P W0 ι w (Instr.alloc t true (.tuple #[])) (.pointer (some ⟨b, 0, none⟩)) h1 := by
  obtain ⟨hf, hz1, _⟩ := zeroOf_spec hz
  obtain ⟨v', w', ι', hr, x⟩ := newB_sound R hn (LRel.flat (P := P) (ι := ι) hf)
  refine ⟨v', w', ι', ?_, x⟩
  simp at hr
  simp [Instr.alloc, hz1, newVar, hr]
theorem box_sound (R : Rel P W0 ι h w) {t : TypeId} {v v' : Value} (hv : VRel P ι v v') {nm : Option Nat} {b : Nat} (hn : newB nm t v.cells.toList h = some (b, h1)) :
    VSim P W0 ι w (Instr.box t v') (.pointer (some ⟨b, 0, none⟩)) h1 := by
  obtain ⟨u', w', ι', hr, x⟩ := newB_sound R hn hv.cells
  refine ⟨u', w', ι', ?_, x⟩
  simp at hr
  simp [Instr.box, newVar, hr]

/-! Loads. -/
theorem unL_spec : ∀ {l : Leaf} {v : Value} {x : l.den}, unL l v = some x → v = pkL l x
  | .int k, v, x, hx => by
    cases k <;> cases v <;> simp [unL] at hx <;> (rename_i k' n; cases k' <;> simp [unL] at hx) <;> (subst hx; rfl)
  | .bool, v, x, hx => by cases v <;> simp [unL] at hx; subst hx; rfl
  | .str, v, x, hx => by cases v <;> simp [unL] at hx; subst hx; rfl
  | .ptr, v, x, hx => by cases v <;> simp [unL] at hx; subst hx; rfl
  | .adr, v, x, hx => by
    cases v with
    | pointer p => cases p <;> simp [unL] at hx; subst hx; rfl
    | _ => simp [unL] at hx
  | .sl, v, x, hx => by cases v <;> simp [unL] at hx; subst hx; rfl
  | .mp, v, x, hx => by cases v <;> simp [unL] at hx; subst hx; rfl
  | .raw, v, x, hx => by simp only [unL] at hx; cases hx; rfl
  | .f64, v, x, hx => by
    cases v <;> simp [unL] at hx
    rename_i k n; cases k <;> simp at hx
    subst hx; rfl
theorem ldL_spec {l : Leaf} {a : Addr} {x : l.den} (hx : ldL l a h = some (x, h1)) : h1 = h ∧ h.cell a = some (pkL l x) := by
  unfold ldL at hx
  split at hx
  · rename_i v hv
    split at hx
    · rename_i y hy
      cases hx
      exact ⟨rfl, by rw [hv, unL_spec hy]⟩
    · cases hx
  · cases hx
theorem ldAll_sound (R : Rel P W0 ι h w) {a a' : Addr} (ha : ARel ι a a') : ∀ (ls : List Leaf) (i : Nat) (acc acc' : List Value) (v : Value),
    (ldAll a ls i acc).exec h = some (v, h1) → LRel P ι acc.reverse acc' →
    h1 = h ∧ ∃ vs : List Value, (loadCellsFrom a' i ls.length acc'.toArray).run P w = .ok vs.toArray w ∧ VRel P ι v (.agg vs.toArray)
  | [], i, acc, acc', v, hx, hl => by
    simp [ldAll, Act.exec] at hx
    obtain ⟨rfl, rfl⟩ := hx
    refine ⟨rfl, acc', by simp [loadCellsFrom], .agg _ _ (by simpa using hl.1) fun j u u' p q => hl.2 j u u' (by simpa using p) (by simpa using q)⟩
  | l :: ls, i, acc, acc', v, hx, hl => by
    simp only [ldAll, Act.exec] at hx
    split at hx
    · rename_i x h2 hq
      obtain ⟨e0, hc⟩ := ldL_spec hq
      rw [e0] at hx
      obtain ⟨u', hu, _, hr⟩ := R.cell (ARel.plus ha i) hc
      obtain ⟨e1, vs, e2, e3⟩ := ldAll_sound R ha ls (i + 1) (pkL l x :: acc) (acc' ++ [u']) v hx (by simpa using hl.append (LRel.cons hr .nil))
      exact ⟨e1, vs, by simpa [loadCellsFrom, hu] using e2, e3⟩
    · cases hx
theorem unLs_spec : ∀ {ls : List Leaf} {vs : List Value} {x : LsDen ls}, unLs ls vs = some x → vs = pkLs ls x
  | [], [], _, _ => rfl
  | [], _ :: _, _, hx => by cases hx
  | [l], [], _, hx => by cases hx
  | [l], [v], x, hx => by rw [pkLs, ← unL_spec (l := l) (x := x) hx]
  | [l], _ :: _ :: _, _, hx => by cases hx
  | l :: l' :: ls, [], _, hx => by cases hx
  | l :: l' :: ls, v :: vs, x, hx => by
    simp only [unLs] at hx
    split at hx
    · rename_i a b ha hb
      cases hx
      rw [pkLs, ← unL_spec ha, ← unLs_spec hb]
    · cases hx
theorem ldAll_of {a : Addr} : ∀ (ls : List Leaf) (vs : List Value) (x : LsDen ls) (i : Nat) (acc : List Value), unLs ls vs = some x → (∀ j v, vs[j]? = some v → h.cell (a.plus (i + j)) = some v) →
    (ldAll a ls i acc).exec h = some (.agg (acc.reverse ++ vs).toArray, h)
  | [], [], x, i, acc, hx, hc => by simp [ldAll, Act.exec]
  | [], _ :: _, _, _, _, hx, _ => by cases hx
  | [l], [], _, _, _, hx, _ => by cases hx
  | [l], [v], x, i, acc, hx, hc => by
    have h0 := hc 0 v rfl
    have hx : unL l v = some x := hx
    simp only [ldAll, Act.exec, ldL, show a.plus i = a.plus (i + 0) from rfl, h0, hx]
    rw [← unL_spec hx]; simp
  | [l], _ :: _ :: _, _, _, _, hx, _ => by cases hx
  | l :: l' :: ls, [], _, _, _, hx, _ => by cases hx
  | l :: l' :: ls, v :: vs, x, i, acc, hx, hc => by
    simp only [unLs] at hx
    split at hx
    · rename_i y z hy hz
      cases hx
      have h0 := hc 0 v rfl
      have ih := ldAll_of (l' :: ls) vs z (i + 1) (pkL l y :: acc) hz fun j u hu => by
        have := hc (j + 1) u (by simpa using hu)
        rwa [show i + (j + 1) = i + 1 + j by omega] at this
      rw [ldAll]
      simp only [Act.exec, ldL, show a.plus i = a.plus (i + 0) from rfl, h0, hy]
      rw [ih, ← unL_spec hy]; simp
    · cases hx
theorem ldLs_all {a : Addr} {ls : List Leaf} {x : LsDen ls} (hx : ldLs ls a h = some (x, h1)) : h1 = h ∧ (ldAll a ls 0 []).exec h = some (.agg (pkLs ls x).toArray, h) := by
  unfold ldLs at hx
  split at hx
  · rename_i vs hv
    split at hx
    · rename_i y hy
      cases hx
      refine ⟨rfl, ?_⟩
      rw [← unLs_spec hy]
      have := ldAll_of (a := a) (h := h) ls vs _ 0 [] hy fun j v hj => by
        grind [cellsAt, AHeap.cell, Addr.plus]
      simpa using this
    · cases hx
  · cases hx
theorem ldT_sound (R : Rel P W0 ι h w) {t : TypeId} {a a' : Addr} (ha : ARel ι a a') {v : Value} (hx : (ldT P t a).exec h = some (v, h1)) :
    h1 = h ∧ ∃ v', (loadVar t a').run P w = .ok v' w ∧ VRel P ι v v' := by
  unfold ldT at hx
  split at hx
  · rename_i d n hd hn
    split at hx
    · rename_i hag
      split at hx
      · rename_i ls hls
        split at hx
        · rename_i hlen
          have hlen := Nat.eq_of_beq_eq_true hlen
          simp only [Act.exec] at hx
          split at hx
          · rename_i y h2 hq
            cases hx
            obtain ⟨e0, hx⟩ := ldLs_all hq
            subst e0
            obtain ⟨_, vs, e2, e3⟩ := ldAll_sound R ha ls 0 [] [] _ hx .nil
            refine ⟨rfl, _, ?_, e3⟩
            simp [loadVar, run_isAgg' hd, hag, szT_of hn, ← hlen, loadCells, e2]
          · cases hx
        · simp [Act.exec] at hx
      · simp [Act.exec] at hx
    · rename_i hag
      split at hx
      · rename_i l hl
        simp only [Act.exec] at hx
        split at hx
        · rename_i x h2 hq
          cases hx
          obtain ⟨rfl, hc⟩ := ldL_spec hq
          obtain ⟨u', hu, _, hr⟩ := R.cell ha hc
          exact ⟨rfl, u', by simp [loadVar, run_isAgg' hd, hag, hu], hr⟩
        · cases hx
      · simp [Act.exec] at hx
  · simp [Act.exec] at hx

/-! Stores. -/
theorem run_storeCells_fz (P : Program) (g o : Nat) (t : TypeId) (fz : Nat × Nat) : ∀ (vs : List Value) (i : Nat) (cur : Array Value) (w : World), w.heap[g]? = some (.cells cur t fz) → o + i + vs.length ≤ cur.size →
    (∀ j, j < cur.size → (decide (fz.1 ≤ j) && decide (j < fz.2)) = false) → (∀ v ∈ vs, v.oneCell' = true) →
    (storeCells ⟨g, o, none⟩ vs i).run P w = .ok () (w.setRow g (cur.toList.take (o + i) ++ vs ++ cur.toList.drop (o + i + vs.length)).toArray)
  | [], i, cur, w, hg, _, _, _ => by
    simp only [storeCells, List.append_nil, List.length_nil, Nat.add_zero, List.take_append_drop, Array.toArray_toList]
    rw [setRow_self w g cur t fz hg]
    rfl
  | v :: rest, i, cur, w, hg, hl, hfr, h1 => by
    have hi : o + i < cur.size := by simp at hl; omega
    have hadd : (⟨g, o, none⟩ : Addr).add i = ⟨g, o + i, none⟩ := by unfold Addr.add; split <;> simp_all
    have hcell : w.cell? ⟨g, o + i, none⟩ = some cur[o + i] := by simp [World.cell?, hg, hi]
    have hfro : w.frozen? ⟨g, o + i, none⟩ = false := by simp only [World.frozen?, hg]; exact hfr _ hi
    have hst : (store ((⟨g, o, none⟩ : Addr).add i) v).run P w = .ok () (w.setRow g (cur.setIfInBounds (o + i) v)) := by
      grind [run_store, setCell_eq_setRow]
    have ih := run_storeCells_fz P g o t fz rest (i + 1) (cur.setIfInBounds (o + i) v) (w.setRow g (cur.setIfInBounds (o + i) v)) (setRow_heap w g cur _ t _ hg) (by simp at hl ⊢; omega)
      (by simpa using hfr) (fun x hx => h1 x (by simp [hx]))
    simp only [storeCells, Sem.run_bind, hst, Result.andThen_ok, ih, setRow_setRow]
    congr 3
    have e := list_seg_step cur.toList (o + i) v rest (by simp at hl ⊢; omega)
    simpa [Array.toList_setIfInBounds, Nat.add_assoc] using e
theorem stN_sound (R : Rel P W0 ι h w) {a a' : Addr} (ha : ARel ι a a') {vs vs' : List Value} (hl : LRel P ι vs vs') {x : Unit} (hx : stN a vs h = some (x, h1)) :
    ∃ w', (storeCells a' vs').run P w = .ok () w' ∧ Rel P W0 ι h1 w' := by
  unfold stN at hx
  split at hx
  · rename_i c g base e hb
    split at hx
    · rename_i hc
      cases hx
      obtain ⟨hg, hfit, hsc⟩ := hc
      obtain ⟨h1, h2, l, hl1, hl2, hl3⟩ := ha
      obtain ⟨l0, e1, e2, e3, e4, e5⟩ := R.live _ c g base e hb
      rw [hl1] at e1; cases e1
      obtain ⟨cc, fz, hh, q1, q2⟩ := R.loc _ l hl1
      have hro : l.ro = false := by grind
      have hU := R.upd hb hg hl1 hh hfit hl (List.all_eq_true.1 hsc)
      have hone : ∀ v ∈ vs', v.oneCell' = true := by
        intro v' hv'
        obtain ⟨i, hi⟩ := List.mem_iff_getElem?.1 hv'
        have hlt : i < vs.length := by have := (List.getElem?_eq_some_iff.1 hi).1; have := hl.1; omega
        exact (hl.2 i vs[i] v' (by simp [hlt]) hi).oneCell (List.all_eq_true.1 hsc _ (List.getElem_mem hlt))
      have hst := run_storeCells_fz P l.blk a'.off l.elem fz vs' 0 cc w hh (by have := hl.1; omega) ((q2 hro).2 ⟨_, l, c, g, base, e, hl1, rfl, hb⟩) hone
      refine ⟨_, ?_, hU⟩
      have : a' = ⟨l.blk, a'.off, none⟩ := by cases a'; simp_all
      rw [this, hst]
      simp [splice, hl3]
    · cases hx
  · cases hx
theorem store_sound (R : Rel P W0 ι h w) {t : TypeId} {a a' : Addr} (ha : ARel ι a a') {v v' : Value} (hv : VRel P ι v v') {n : Nat} (hn : sizeOfT P t = some n) (hs : v.cells.size = n)
    {x : Unit} (hx : stN a v.cells.toList h = some (x, h1)) : ∃ w', (storeVar t a' v').run P w = .ok () w' ∧ Rel P W0 ι h1 w' := by
  obtain ⟨w', hr, R'⟩ := stN_sound R ha hv.cells hx
  refine ⟨w', ?_, R'⟩
  have hc := hv.cells.1
  simp at hc
  simp [storeVar, szT_of hn, ← hs, hc, hr]

/-! Arithmetic. -/
theorem eqK_eq {k k' : IntKind} (hk : eqK k k' = true) : k = k' := by cases k <;> cases k' <;> simp_all [eqK, kcode]
theorem ckM_spec {b : Bool} {x : Unit} (hx : ckM b h = some (x, h1)) : b = true ∧ h1 = h := by
  unfold ckM at hx; cases b <;> simp at hx; exact ⟨rfl, hx.symm⟩
theorem VSim.ret {s : Sem Value} {v v' : Value} (hs : s.run P w = .ok v' w) (hv : VRel P ι v v') (R : Rel P W0 ι h w) : VSim P W0 ι w s v h := ⟨v', w, ι, hs, hv, R, .refl _⟩
theorem VRel.ofFloat {k : FloatKind} {n : Nat} : VRel P ι (.float k n) (.float k n) := .flat _ rfl
theorem VRel.ofInt {k : IntKind} {n : Int} : VRel P ι (.int k n) (.int k n) := .flat _ rfl
theorem VRel.ofBool {b : Bool} : VRel P ι (.bool b) (.bool b) := .flat _ rfl
theorem VRel.ofStr {s : ByteArray} : VRel P ι (.string s) (.string s) := .flat _ rfl

theorem abin_int (R : Rel P W0 ι h w) (op : BinOp) (t : TypeId) (k k' : IntKind) (a b : Int) (v : Value)
    (hx : (abinI op k a k' b).exec h = some (v, h1)) : VSim P W0 ι w (binOp op t (.int k a) (.int k' b)) v h1 := by
  unfold abinI at hx
  split at hx
  · simp only [Act.exec] at hx
    split at hx
    · rename_i u h2 hc; obtain ⟨hb, rfl⟩ := ckM_spec hc; cases hx
      simp at hb
      exact .ret (by simp [binOp, Op.shift, show ¬ b < 0 by omega]) .ofInt R
    · cases hx
  · simp only [Act.exec] at hx
    split at hx
    · rename_i u h2 hc; obtain ⟨hb, rfl⟩ := ckM_spec hc; cases hx
      simp at hb
      exact .ret (by simp [binOp, Op.shift, show ¬ b < 0 by omega]) .ofInt R
    · cases hx
  · split at hx
    · simp [Act.exec] at hx
    · rename_i hk; obtain rfl := eqK_eq hk
      split at hx
      · cases hx; exact .ret (by simp [binOp, Op.intArith]) .ofInt R
      · cases hx; exact .ret (by simp [binOp, Op.intArith]) .ofInt R
      · cases hx; exact .ret (by simp [binOp, Op.intArith]) .ofInt R
      · simp only [Act.exec] at hx
        split at hx
        · rename_i u h2 hc; obtain ⟨hb, rfl⟩ := ckM_spec hc; cases hx
          simp at hb
          exact .ret (by simp [binOp, Op.intDiv, hb]) .ofInt R
        · cases hx
      · simp only [Act.exec] at hx
        split at hx
        · rename_i u h2 hc; obtain ⟨hb, rfl⟩ := ckM_spec hc; cases hx
          simp at hb
          exact .ret (by simp [binOp, Op.intDiv, hb]) .ofInt R
        · cases hx
      · cases hx; exact .ret (by unfold binOp; simp only [ne_eq, not_true_eq_false, if_false]; rfl) .ofInt R
      · cases hx; exact .ret (by unfold binOp; simp only [ne_eq, not_true_eq_false, if_false]; rfl) .ofInt R
      · cases hx; exact .ret (by unfold binOp; simp only [ne_eq, not_true_eq_false, if_false]; rfl) .ofInt R
      · cases hx; exact .ret (by unfold binOp; simp only [ne_eq, not_true_eq_false, if_false]; rfl) .ofInt R
      · cases hx; exact .ret (by simp [binOp, Op.intCmp]; rfl) .ofBool R
      · cases hx; exact .ret (by simp [binOp, Op.intCmp]; rfl) .ofBool R
      · cases hx; exact .ret (by simp [binOp, Op.intCmp]) .ofBool R
      · cases hx; exact .ret (by simp [binOp, Op.intCmp]) .ofBool R
      · cases hx; exact .ret (by simp [binOp, Op.intCmp]) .ofBool R
      · cases hx; exact .ret (by simp [binOp, Op.intCmp]) .ofBool R
      · simp [Act.exec] at hx
theorem fltM_spec {o : Option Nat} {r : Nat} (hx : fltM o h = some (r, h1)) : o = some r ∧ h1 = h := by
  unfold fltM at hx
  grind
theorem abin_flt (R : Rel P W0 ι h w) (op : BinOp) (t : TypeId) (a b : Nat) (v : Value)
    (hx : (abinF op a b).exec h = some (v, h1)) : VSim P W0 ι w (binOp op t (.float .f64 a) (.float .f64 b)) v h1 := by
  unfold abinF at hx
  split at hx
  · simp only [Act.exec] at hx
    split at hx
    · rename_i r h2 hc; obtain ⟨e1, rfl⟩ := fltM_spec hc; cases hx
      exact .ret (by simp [binOp, Op.floatArith, e1]) .ofFloat R
    · cases hx
  · simp only [Act.exec] at hx
    split at hx
    · rename_i r h2 hc; obtain ⟨e1, rfl⟩ := fltM_spec hc; cases hx
      exact .ret (by simp [binOp, Op.floatArith, e1]) .ofFloat R
    · cases hx
  · simp only [Act.exec] at hx
    split at hx
    · rename_i r h2 hc; obtain ⟨e1, rfl⟩ := fltM_spec hc; cases hx
      exact .ret (by simp [binOp, Op.floatArith, e1]) .ofFloat R
    · cases hx
  · simp only [Act.exec] at hx
    split at hx
    · rename_i r h2 hc; obtain ⟨e1, rfl⟩ := fltM_spec hc; cases hx
      exact .ret (by simp [binOp, Op.floatArith, e1]) .ofFloat R
    · cases hx
  · cases hx; exact .ret (by simp [binOp, Op.floatCmp, fEq]) .ofBool R
  · cases hx; exact .ret (by simp [binOp, Op.floatCmp, fEq, bne]) .ofBool R
  · cases hx; exact .ret (by simp [binOp, Op.floatCmp, fLt]) .ofBool R
  · cases hx; exact .ret (by simp [binOp, Op.floatCmp, fLt, fEq]) .ofBool R
  · cases hx; exact .ret (by simp [binOp, Op.floatCmp, fGt]) .ofBool R
  · cases hx; exact .ret (by simp [binOp, Op.floatCmp, fGt, fEq]) .ofBool R
  · simp [Act.exec] at hx
theorem abin_str (R : Rel P W0 ι h w) (op : BinOp) (t : TypeId) (a b : ByteArray) (v : Value)
    (hx : (abinS op a b).exec h = some (v, h1)) : VSim P W0 ι w (binOp op t (.string a) (.string b)) v h1 := by
  unfold abinS at hx
  split at hx
  · simp only [Act.exec] at hx
    split at hx
    · rename_i u h2 hc
      unfold catS at hc
      split at hc
      · cases hc; cases hx
        rename_i hsz
        unfold bigN at hsz
        refine .ret ?_ .ofStr R
        simp only [binOp, Op.stringOp, IntKind.max_i64]
        rw [if_neg (by omega)]; rfl
      · cases hc
    · cases hx
  · cases hx; exact .ret (by simp [binOp, Op.stringOp, eqS_def]) .ofBool R
  · cases hx; exact .ret (by simp [binOp, Op.stringOp, eqS_def]) .ofBool R
  · cases hx; exact .ret (by simp [binOp, Op.stringOp, ltS]) .ofBool R
  · cases hx; exact .ret (by simp [binOp, Op.stringOp, eqS_def, ltS]) .ofBool R
  · cases hx; exact .ret (by simp [binOp, Op.stringOp, eqS_def, ltS]) .ofBool R
  · cases hx; exact .ret (by simp [binOp, Op.stringOp, ltS]) .ofBool R
  · simp [Act.exec] at hx
theorem abinE_sound (R : Rel P W0 ι h w) {op : BinOp} {t : TypeId} {u1 u2 v : Value} {b : Bool} (h1' : ∀ w, (Op.equal t u1 u2).run P w = .ok b w)
    (he : binOp .eql t u1 u2 = (do pure (.bool (← Op.equal t u1 u2)))) (hn : binOp .neq t u1 u2 = (do pure (.bool (!(← Op.equal t u1 u2)))))
    (hx : (abinE op b).exec h = some (v, h1)) : VSim P W0 ι w (binOp op t u1 u2) v h1 := by
  unfold abinE at hx
  split at hx
  · cases hx; rw [he]; exact .ret (by simp [h1']) .ofBool R
  · cases hx; rw [hn]; exact .ret (by simp [h1']) .ofBool R
  · simp [Act.exec] at hx
theorem eqE_nn' (d : Nat) {t : TypeId} {ms : Array (String × TypeId)} (hd : P.underlying t = some (.interface ms)) (w : World) : (Op.equalIn (d + 1) t .nilIface .nilIface).run P w = .ok true w := by
  simp [Op.equalIn, run_und hd]
theorem eqE_in' (d : Nat) {t : TypeId} {ms : Array (String × TypeId)} (hd : P.underlying t = some (.interface ms)) (e : TypeId) (v : Value) (w : World) : (Op.equalIn (d + 1) t (.iface e v) .nilIface).run P w = .ok false w := by
  simp [Op.equalIn, run_und hd]
theorem eqE_bool' (d : Nat) {t : TypeId} (hd : P.underlying t = some .bool) (a b : Bool) (w : World) : (Op.equalIn (d + 1) t (.bool a) (.bool b)).run P w = .ok (a == b) w := by
  simp [Op.equalIn, run_und hd]
theorem eqE_sl' (d : Nat) {t e : TypeId} (hd : P.underlying t = some (.slice e)) (a : Option Addr) (n c n' c' : Nat) (w : World) : (Op.equalIn (d + 1) t (.slice a n c) (.slice none n' c')).run P w = .ok a.isNone w := by
  cases a <;> simp [Op.equalIn, run_und hd]
theorem eqE_ptr' (d : Nat) {t e : TypeId} (hd : P.underlying t = some (.pointer e)) (a : Option Addr) (w : World) : (Op.equalIn (d + 1) t (.pointer a) (.pointer none)).run P w = .ok a.isNone w := by
  cases a <;> simp [Op.equalIn, run_und hd]
theorem eqE_map' (d : Nat) {t k e : TypeId} (hd : P.underlying t = some (.map k e)) (a : Option Nat) (w : World) : (Op.equalIn (d + 1) t (.map a) (.map none)).run P w = .ok a.isNone w := by
  cases a <;> simp [Op.equalIn, run_und hd]
theorem eqE_nn {t : TypeId} {ms : Array (String × TypeId)} (hd : P.underlying t = some (.interface ms)) (w : World) : (Op.equal t .nilIface .nilIface).run P w = .ok true w := eqE_nn' 9999 hd w
theorem eqE_in {t : TypeId} {ms : Array (String × TypeId)} (hd : P.underlying t = some (.interface ms)) (d : TypeId) (v : Value) (w : World) : (Op.equal t (.iface d v) .nilIface).run P w = .ok false w := eqE_in' 9999 hd d v w
theorem eqE_bool {t : TypeId} (hd : P.underlying t = some .bool) (a b : Bool) (w : World) : (Op.equal t (.bool a) (.bool b)).run P w = .ok (a == b) w := eqE_bool' 9999 hd a b w
theorem eqE_sl {t e : TypeId} (hd : P.underlying t = some (.slice e)) (a : Option Addr) (n c n' c' : Nat) (w : World) : (Op.equal t (.slice a n c) (.slice none n' c')).run P w = .ok a.isNone w := eqE_sl' 9999 hd a n c n' c' w
theorem eqE_ptr {t e : TypeId} (hd : P.underlying t = some (.pointer e)) (a : Option Addr) (w : World) : (Op.equal t (.pointer a) (.pointer none)).run P w = .ok a.isNone w := eqE_ptr' 9999 hd a w
theorem eqE_map {t k e : TypeId} (hd : P.underlying t = some (.map k e)) (a : Option Nat) (w : World) : (Op.equal t (.map a) (.map none)).run P w = .ok a.isNone w := eqE_map' 9999 hd a w
theorem eqE_ptrs {t e : TypeId} {i : TypeInfo} (hd : P.underlying t = some (.pointer e)) (hi : P.info? e = some i) (a : Addr) (w : World) : (Op.equal t (.pointer (some a)) (.pointer (some a))).run P w = .ok true w := by
  have h : ∀ d : Nat, (Op.equalIn (d + 1) t (.pointer (some a)) (.pointer (some a))).run P w = .ok true w := fun d => by
    simp [Op.equalIn, run_underlying hd, sizeOf, typeInfo, hi, run_sameAddr_same]
  exact h 9999
theorem info_sz {e : TypeId} {n : Nat} (hs : sizeOfT P e = some n) : ∃ i, P.info? e = some i ∧ i.size = n := by
  unfold sizeOfT at hs
  grind
theorem ARel.same {a b a' b' : Addr} (ha : ARel ι a a') (hb : ARel ι b b') (he : (Nat.beq a.block b.block && Nat.beq a.off b.off) = true) : a' = b' := by
  obtain ⟨_, h2, l, h3, h4, h5⟩ := ha
  obtain ⟨_, k2, m, k3, k4, k5⟩ := hb
  rw [Bool.and_eq_true] at he
  rw [Nat.eq_of_beq_eq_true he.1, k3] at h3
  cases h3
  have := Nat.eq_of_beq_eq_true he.2
  cases a'; cases b'
  simp_all
theorem abinNil_sound (R : Rel P W0 ι h w) {op : BinOp} {t : TypeId} {x : Operand} {c : Value} {u1 u1' v : Value} (r1 : VRel P ι u1 u1') (hx : (abinNil P op t u1).exec h = some (v, h1)) :
    VSim P W0 ι w (do eqGuard op t x (.const c) u1' .nilIface; binOp op t u1' .nilIface) v h1 := by
  unfold abinNil at hx
  split at hx
  · rename_i hd
    simp only [Act.exec] at hx
    split at hx
    · rename_i b h2 hc
      cases hx
      unfold isNilI at hc
      split at hc
      · cases hc
        obtain rfl := r1.nilIface
        rw [eqGuard_nil_constR]
        exact abinE_sound (op := .eql) (b := true) R (eqE_nn hd) rfl rfl rfl
      · cases hc
        cases r1 with
        | flat _ hf => simp [flat1] at hf
        | iface t' v1 v1' hv => rw [eqGuard_at_iface]; exact abinE_sound (op := .eql) (b := false) R (eqE_in hd _ _) rfl rfl rfl
      · cases hc
    · cases hx
  · rename_i hd
    simp only [Act.exec] at hx
    split at hx
    · rename_i b h2 hc
      cases hx
      unfold isNilI at hc
      split at hc
      · cases hc
        obtain rfl := r1.nilIface
        rw [eqGuard_nil_constR]
        exact abinE_sound (op := .neq) (b := true) R (eqE_nn hd) rfl rfl rfl
      · cases hc
        cases r1 with
        | flat _ hf => simp [flat1] at hf
        | iface t' v1 v1' hv => rw [eqGuard_at_iface]; exact abinE_sound (op := .neq) (b := false) R (eqE_in hd _ _) rfl rfl rfl
      · cases hc
    · cases hx
  · simp [Act.exec] at hx
theorem VRel.flatEq {v v' : Value} (hr : VRel P ι v v') (hf : flat1 v = true) : v' = v := by
  cases hr with
  | flat => rfl
  | agg cs cs' hs hv => exact absurd hf (by simp [flat1])
  | _ => simp [flat1] at hf
theorem eq1_flat {t : TypeId} {x y : Value} {b : Bool} (h : eq1 P t x y = some b) : flat1 x = true ∧ flat1 y = true ∧ ∃ d, P.underlying t = some d ∧ isAggD d = false := by
  unfold eq1 at h
  split at h
  · split at h
    · rename_i hd; exact ⟨rfl, rfl, _, hd, rfl⟩
    · cases h
  · split at h
    · rename_i hd; exact ⟨rfl, rfl, _, hd, rfl⟩
    · cases h
  · split at h
    · rename_i hd; exact ⟨rfl, rfl, _, hd, rfl⟩
    · cases h
  · cases h
theorem eq1_run {t : TypeId} {x y : Value} {b : Bool} (h : eq1 P t x y = some b) (d : Nat) (w : World) : (Op.equalIn (d + 1) t x y).run P w = .ok b w := by
  unfold eq1 at h
  split at h
  · grind [eqK_eq, run_equalIn_int]
  · grind [run_equalIn_bool]
  · split at h
    · rename_i hd; cases h; rw [run_equalIn_string w d t _ _ hd, eqS_def]
    · cases h
  · cases h
theorem part_run {t : TypeId} {d : TypeDesc} (hd : P.underlying t = some d) (hs : isAggD d = false) {cs : Array Value} {o : Nat} {v : Value} (h : cs[o]? = some v) (w : World) : (part t cs o).run P w = .ok v w := by
  simp [part, run_isAgg' hd, hs, h]
theorem eqFs_run {xs ys : Array Value} : ∀ (fs : List Field) (o : Nat) (b : Bool) (d : Nat) (w : World), eqFs P fs o (xs.toList.drop o) (ys.toList.drop o) = some b → (Op.eqFields (d + 1) xs ys fs).run P w = .ok b w
  | [], o, b, d, w, h => by
    unfold eqFs at h
    split at h
    · cases h; simp [Op.eqFields]
    · cases h
  | f :: fs, o, b, d, w, h => by
    unfold eqFs at h
    split at h
    · rename_i x xs' y ys' hx hy
      split at h
      · rename_i hn ho
        split at h
        · rename_i a ha
          split at h
          · rename_i b' hb
            cases h
            have ho := Nat.eq_of_beq_eq_true ho
            have hn : f.name ≠ "_" := by intro e; rw [e] at hn; exact absurd hn (by decide)
            obtain ⟨_, _, dd, hd, hg⟩ := eq1_flat ha
            have hx0 : xs[o]? = some x := by
              rw [← Array.getElem?_toList, ← Nat.add_zero o, ← List.getElem?_drop, hx]; rfl
            have hy0 : ys[o]? = some y := by
              rw [← Array.getElem?_toList, ← Nat.add_zero o, ← List.getElem?_drop, hy]; rfl
            have hxt : xs.toList.drop (o + 1) = xs' := by rw [← List.drop_drop, hx]; rfl
            have hyt : ys.toList.drop (o + 1) = ys' := by rw [← List.drop_drop, hy]; rfl
            have ih := eqFs_run (xs := xs) (ys := ys) fs (o + 1) b' d w (by rw [hxt, hyt]; exact hb)
            unfold Op.eqFields
            rw [if_pos hn, ho]
            simp only [Sem.run_bind, part_run hd hg hx0, part_run hd hg hy0, Result.andThen_ok, eq1_run ha d w]
            cases a
            · simp
            · simp [ih]
          · cases h
        · cases h
      · cases h
    · cases h
theorem eqFs_flat : ∀ (fs : List Field) (o : Nat) (xs ys : List Value) (b : Bool), eqFs P fs o xs ys = some b → (∀ v ∈ xs, flat1 v = true) ∧ (∀ v ∈ ys, flat1 v = true)
  | [], o, xs, ys, b, h => by
    grind [eqFs, absurd]
  | f :: fs, o, xs, ys, b, h => by
    unfold eqFs at h
    split at h
    · split at h
      · split at h
        · rename_i a ha
          split at h
          · rename_i b' hb
            obtain ⟨h1, h2, _⟩ := eq1_flat ha
            obtain ⟨h3, h4⟩ := eqFs_flat fs _ _ _ _ hb
            grind
          · cases h
        · cases h
      · cases h
    · cases h
theorem VRel.aggEq {cs : Array Value} {v' : Value} (hr : VRel P ι (.agg cs) v') (hf : ∀ v ∈ cs.toList, flat1 v = true) : v' = .agg cs := by
  cases hr with
  | flat => rfl
  | agg _ cs' hs hv =>
    congr 1
    apply Array.ext_getElem?
    intro i
    cases h1 : cs[i]? with
    | none =>
      rw [Array.getElem?_eq_none_iff] at h1 ⊢
      omega
    | some v =>
      have hi : i < cs'.size := by rw [← hs]; exact (Array.getElem?_eq_some_iff.1 h1).1
      have h2 : cs'[i]? = some cs'[i] := Array.getElem?_eq_getElem hi
      rw [h2]
      have := (hv i v _ h1 h2).flatEq (hf v (by rw [Array.mem_toList_iff]; exact Array.mem_of_getElem? h1))
      rw [this]
theorem eqP_spec {a b : Option Addr} {r : Bool} (hx : eqP a b h = some (r, h1)) : h1 = h ∧ r = true ∧ ∃ x y, a = some x ∧ b = some y ∧ (Nat.beq x.block y.block && Nat.beq x.off y.off) = true := by
  unfold eqP at hx
  grind
theorem abinP_sound (R : Rel P W0 ι h w) {op : BinOp} {t e : TypeId} {x y : Operand} {a b : Option Addr} {u1' u2' v : Value} (r1 : VRel P ι (.pointer a) u1') (r2 : VRel P ι (.pointer b) u2') (hd : P.underlying t = some (.pointer e)) {n : Nat} (hs : sizeOfT P e = some n)
    (hx : (Act.ask Bool (eqP a b) fun r => abinE op r).exec h = some (v, h1)) : VSim P W0 ι w (do eqGuard op t x y u1' u2'; binOp op t u1' u2') v h1 := by
  simp only [Act.exec] at hx
  split at hx
  · rename_i r h2 hr
    obtain ⟨rfl, rfl, a, b, rfl, rfl, he⟩ := eqP_spec hr
    obtain ⟨a', rfl, ha⟩ := r1.ptrS
    obtain ⟨b', rfl, hb⟩ := r2.ptrS
    rw [eqGuard_at_pointer]
    obtain ⟨i, hi, _⟩ := info_sz hs
    rw [ARel.same ha hb he]
    exact abinE_sound R (eqE_ptrs hd hi _) rfl rfl hx
  · cases hx
theorem abin_sound (R : Rel P W0 ι h w) {op : BinOp} {t : TypeId} {x y : Operand} {u1 u2 u1' u2' v : Value} (r1 : VRel P ι u1 u1') (r2 : VRel P ι u2 u2')
    (hy : u2 = .nilIface → ∃ c, y = .const c) (hx : (abin P op t u1 u2).exec h = some (v, h1)) : VSim P W0 ι w (do eqGuard op t x y u1' u2'; binOp op t u1' u2') v h1 := by
  unfold abin at hx
  split at hx
  · obtain ⟨c, rfl⟩ := hy rfl
    obtain rfl := r2.nilIface
    exact abinNil_sound R r1 hx
  · unfold abin2 at hx
    split at hx
    · obtain rfl := r1.int; grind [r2.int, eqGuard_at_int, abin_int]
    · obtain rfl := r1.str; grind [r2.str, eqGuard_at_string, abin_str]
    · obtain rfl := r1.float; grind [r2.float, eqGuard_at_float, abin_flt]
    · obtain rfl := r1.bool; obtain rfl := r2.bool
      rw [eqGuard_at_bool]
      split at hx
      · rename_i hd
        exact abinE_sound R (eqE_bool hd _ _) rfl rfl hx
      · simp [Act.exec] at hx
    · obtain ⟨a', c', rfl, hn⟩ := r1.slO
      obtain ⟨a2', c2', rfl, hn2⟩ := r2.slO
      have : a2' = none := by cases a2' <;> simp_all
      subst this
      rw [eqGuard_at_slice]
      split at hx
      · rename_i hd
        rw [← hn] at hx
        exact abinE_sound R (eqE_sl hd _ _ _ _ _) rfl rfl hx
      · simp [Act.exec] at hx
    · obtain ⟨p', rfl, hn, _⟩ := r1.ptrO
      obtain ⟨p2', rfl, hn2, _⟩ := r2.ptrO
      have : p2' = none := by cases p2' <;> simp_all
      subst this
      rw [eqGuard_at_pointer]
      split at hx
      · rename_i hd
        rw [← hn] at hx
        exact abinE_sound R (eqE_ptr hd _) rfl rfl hx
      · simp [Act.exec] at hx
    · rename_i r _
      cases r1 with
      | flat _ hf =>
        cases r with
        | some r => simp [flat1] at hf
        | none =>
          cases r2
          rw [eqGuard_at_map]
          split at hx
          · rename_i hd
            exact abinE_sound R (eqE_map hd _) rfl rfl hx
          · simp [Act.exec] at hx
      | map m r hr =>
        cases r2
        rw [eqGuard_at_map]
        split at hx
        · rename_i hd
          exact abinE_sound R (eqE_map hd (some r)) rfl rfl hx
        · simp [Act.exec] at hx
    · split at hx
      · rename_i fs hd hp hm
        split at hx
        · rename_i b hb
          obtain ⟨f1, f2⟩ := eqFs_flat _ _ _ _ _ hb
          obtain rfl := r1.aggEq f1
          obtain rfl := r2.aggEq f2
          have hfo : P.fieldsOf t = fs := by unfold Program.fieldsOf; rw [hd]
          have he : ∀ w, (Op.equalIn 10000 t (.agg _) (.agg _)).run P w = .ok b w := fun w => by
            rw [run_equalIn_struct w 9999 t _ _ (by rw [hfo]; exact hd) hp, hfo]
            exact eqFs_run fs.toList 0 b 9998 w hb
          unfold abinE at hx
          split at hx
          · cases hx
            exact .ret (by rw [Sem.run_bind, run_eqGuard_agg w _ _ _ _ _ _ hm, Result.andThen_ok, run_eql_struct, he]; rfl) .ofBool R
          · cases hx
            exact .ret (by rw [Sem.run_bind, run_eqGuard_agg w _ _ _ _ _ _ hm, Result.andThen_ok, run_neq_struct, he]; rfl) .ofBool R
          · simp [Act.exec] at hx
        · simp [Act.exec] at hx
      · simp [Act.exec] at hx
    · simp [Act.exec] at hx

/-! The other operations. -/
theorem aun_sound (R : Rel P W0 ι h w) {op : UnOp} {x x' v : Value} (hr : VRel P ι x x') (hx : (aun op x).exec h = some (v, h1)) : VSim P W0 ι w (Op.unary op x') v h1 := by
  unfold aun at hx
  split at hx
  · cases hx; obtain rfl := hr.int; exact .ret (by simp [Op.unary, Op.intArith]) .ofInt R
  · cases hx; obtain rfl := hr.bool; exact .ret (by simp [Op.unary]) .ofBool R
  · cases hx; obtain rfl := hr.float; exact .ret (by simp [Op.unary, fNeg]) .ofFloat R
  · simp [Act.exec] at hx
theorem LRel.ofInts (k : IntKind) (l : List Int) : LRel P ι (l.map (.int k)) (l.map (.int k)) := LRel.flat (by simp [flat1])
theorem cellsOfBytes_flat (s : ByteArray) : (cellsOfBytes s).all flat1 = true := by
  rw [List.all_eq_true]; intro v hv; simp [cellsOfBytes] at hv; obtain ⟨b, _, rfl⟩ := hv; rfl
theorem push_freeze (w : World) (cs : Array Value) (e : TypeId) :
    World.freeze { w with heap := w.heap.push (.cells cs e (0, 0)) } { block := w.heap.size, off := cs.size } 1 = { w with heap := w.heap.push (.cells cs e (cs.size, cs.size + 1)) } := by
  unfold World.freeze
  rw [if_neg (by decide)]
  congr 1
  grind
theorem bytesNew_sound (R : Rel P W0 ι h w) {e : TypeId} (he : sizeOfT P e = some 1) {s : ByteArray} {r : Sl} (hx : bytesNew e s h = some (r, h1)) :
    VSim P W0 ι w (Conv.stringToBytes e s) (.slice r.a r.len r.cap) h1 := by
  unfold bytesNew at hx
  split at hx
  · cases hx
    rename_i hsz
    have hge : s.size ≤ (Question.appendCap s.size 0 e).cut (w.tape w.drawn (.appendCap s.size 0 e)) := by simp [Question.cut]
    generalize hcap : (Question.appendCap s.size 0 e).cut (w.tape w.drawn (.appendCap s.size 0 e)) = cap at hge
    have R1 : Rel P W0 ι h { w with drawn := w.drawn + 1 } := R.of_heap rfl ⟨rfl, rfl⟩
    have hlen : (cellsOfBytes s).length = s.size := by simp [cellsOfBytes]
    obtain ⟨ι', hle, hnew, R'⟩ := R1.new e (cellsOfBytes s) (cellsOfBytes s) (List.replicate (cap - s.size) (Value.int .u8 0)) (cap, cap + 1)
      (by intro o ho; rw [hlen] at ho; simp at ho ⊢; omega) (LRel.flat (cellsOfBytes_flat s)) (fun v hv => scal_of_flat1 (List.all_eq_true.1 (cellsOfBytes_flat s) v hv))
    refine ⟨.slice (some ⟨w.heap.size, 0, none⟩) s.size cap, _, ι', ?_, ?_, R', hle⟩
    · have hsz2 : ((cellsOfBytes s ++ List.replicate (cap - s.size) (Value.int .u8 0)).toArray).size = cap := by simp [hlen]; omega
      have hfr := push_freeze { w with drawn := w.drawn + 1 } (cellsOfBytes s ++ List.replicate (cap - s.size) (Value.int .u8 0)).toArray e
      rw [hsz2] at hfr
      have hel : (s.data.map fun b => Value.int .u8 b.toNat) ++ Array.replicate (cap - s.size) (Value.int .u8 0) = (cellsOfBytes s ++ List.replicate (cap - s.size) (Value.int .u8 0)).toArray := by
        apply Array.ext'; simp [cellsOfBytes]
      simp only [Conv.stringToBytes, Sem.run_bind, run_choose, Question.forced, Bool.false_eq_true, if_false, Result.andThen_ok, hcap, hel, newRow, run_newObj, Sem.run_pure, markStringish, run_shape]
      simp [World.shape?, hsz2, hfr]
    · exact .slice _ _ _ _ _ _ rfl rfl hnew rfl rfl hge (.inl rfl) (fun _ _ => by simp [szT_eq he, hlen]; omega)
  · cases hx
theorem cellsAt_sound (R : Rel P W0 ι h w) {a a' : Addr} (ha : ARel ι a a') {n : Nat} {cs : List Value} (hc : cellsAt h (some a) n = some cs) :
    ∃ cs', LRel P ι cs cs' ∧ cs.length = n ∧ (∀ v ∈ cs, scal v = true) ∧ (loadCells a' n).run P w = .ok cs'.toArray w ∧ (∀ i v', cs'[i]? = some v' → w.cell? (a'.add i) = some v') := by
  unfold cellsAt at hc
  split at hc
  · rename_i heq; cases heq
  · rename_i b heq; cases heq
    split at hc
    · rename_i c g base e hb
      split at hc
      · rename_i hfit
        cases hc
        obtain ⟨l, e1, e2, e3, e4, e5⟩ := R.live _ c g base e hb
        obtain ⟨h1, h2, l', hl1, hl2, hl3⟩ := ha
        rw [e1] at hl1; cases hl1
        have hlen : ((c.drop a.off).take n).length = n := by simp; omega
        have key : ∀ i, i < n → ∃ v', w.cell? (a'.add i) = some v' ∧ ∀ v, c[a.off + i]? = some v → scal v = true ∧ VRel P ι v v' := by
          intro i hi
          have hlt : a.off + i < c.length := by omega
          obtain ⟨v', hv', x⟩ := e5 (a.off + i) c[a.off + i] (by simp [hlt])
          grind [List.getElem?_eq_getElem, add_eq, Nat.add_assoc]
        have hch : ∃ f : Nat → Value, ∀ i, i < n → w.cell? (a'.add i) = some (f i) ∧ ∀ v, c[a.off + i]? = some v → scal v = true ∧ VRel P ι v (f i) := by
          refine ⟨fun i => (w.cell? (a'.add i)).getD undef, fun i hi => ?_⟩
          grind
        obtain ⟨f, hf⟩ := hch
        refine ⟨(List.range n).map f, ⟨by simp; omega, fun i v v' hv hv' => ?_⟩, hlen, fun v hv => ?_, run_loadCells w a' n f (fun j hj => (hf j hj).1), fun i v' hv' => ?_⟩
        · grind
        · grind [List.mem_iff_getElem?]
        grind
      · cases hc
    · cases hc

/-! Append. -/
theorem rdS_spec {s : Sl} {sz : Nat} {cs : List Value} (hx : rdS s sz h = some (cs, h1)) : h1 = h ∧ cellsAt h s.a (s.len * sz) = some cs := by
  unfold rdS at hx
  grind
/-- What append reads of its second argument. -/
structure Src (P : Program) (ι : IMap) (h : AHeap) (w : World) (size n : Nat) (x' : Value) (new new' : List Value) : Prop where
  len : ∀ w', (Builtin.lenOf x').run P w' = .ok n w'
  cells : ∀ w', w'.heap = w.heap → (Builtin.firstCells size n x').run P w' = .ok new'.toArray w'
  rel : LRel P ι new new'
  sc : ∀ v ∈ new, scal v = true
theorem cell_heap (he : w'.heap = w.heap) (a : Addr) : w'.cell? a = w.cell? a := by simp [World.cell?, he]
theorem loadCells_heap {a' : Addr} {n : Nat} {cs' : List Value} (hl : cs'.length = n) (hc : ∀ (i : Nat) v', cs'[i]? = some v' → w.cell? (a'.add i) = some v') (he : w'.heap = w.heap) :
    (loadCells a' n).run P w' = .ok cs'.toArray w' := by
  grind [run_loadCells_list, cell_heap]
theorem Src.ofSl (R : Rel P W0 ι h w) {a : Option Addr} {n c : Nat} {x' : Value} (hr : VRel P ι (.slice a n c) x') {size : Nat} {cs : List Value}
    (hc : cellsAt h a (n * size) = some cs) : ∃ cs', Src P ι h w size n x' cs cs' := by
  cases hr with
  | flat _ hf =>
    cases a with
    | some a => simp [flat1] at hf
    | none =>
      simp [cellsAt] at hc
      obtain ⟨h0, rfl⟩ := hc
      exact ⟨[], fun w' => by simp [Builtin.lenOf], fun w' _ => by simp [Builtin.firstCells], .nil, by simp⟩
  | slice a a' n c c' l e1 e2 e3 e4 e5 e6 e7 e8 =>
    obtain ⟨cs', q1, q2, q3, q4, q5⟩ := cellsAt_sound R ⟨e1, e2, l, e3, e4, e5⟩ hc
    exact ⟨cs', fun w' => by simp [Builtin.lenOf], fun w' he => by simpa [Builtin.firstCells] using loadCells_heap (by rw [← q1.1, q2]) q5 he, q1, q3⟩
  | sliceE a a' c hce =>
    have : cs = [] := by
      grind [cellsAt]
    subst this
    exact ⟨[], fun w' => by simp [Builtin.lenOf], fun w' _ => by simp [Builtin.firstCells, loadCells, loadCellsFrom], .nil, by simp⟩
theorem Src.ofStr (s : ByteArray) : Src P ι h w 1 s.size (.string s) (cellsOfBytes s) (cellsOfBytes s) :=
  ⟨fun w' => by simp [Builtin.lenOf], fun w' _ => by
    simp only [Builtin.firstCells, Sem.run_pure]
    congr 1
    have : s.extract 0 s.size = s := by
      rw [ByteArray.extract_zero_size]
    rw [this]
    apply Array.ext'; simp [cellsOfBytes], LRel.flat (cellsOfBytes_flat s), fun v hv => scal_of_flat1 (List.all_eq_true.1 (cellsOfBytes_flat s) v hv)⟩

theorem append_room {t xT e ty : TypeId} {i : TypeInfo} (ht : P.underlying t = some (.slice e)) (hxt : (∃ e', P.underlying xT = some (.slice e')) ∨ P.underlying xT = some .string) (hi : P.info? e = some i)
    {n : Nat} {x' : Value} {new new' : List Value} (S : Src P ι h w i.size n x' new new') (base : Option Addr) (sLen sCap : Nat) (hroom : sLen + n ≤ sCap) {w1 : World}
    (hst : (match base with | some a => storeCells (a.add (sLen * i.size)) new' | none => Pure.pure ()).run P w = .ok () w1) :
    (Builtin.append_ #[t, xT] ty #[.slice base sLen sCap, x']).run P w = .ok (.slice base (sLen + n) sCap) w1 := by
  have hc := S.cells w rfl
  cases base with
  | none =>
    simp at hst
    subst hst
    rcases hxt with ⟨e', hd⟩ | hd <;> simp [Builtin.append_, run_und ht, run_und hd, sizeOf, typeInfo, hi, S.len, hroom, hc]
  | some a =>
    simp only at hst
    rcases hxt with ⟨e', hd⟩ | hd <;> simp [Builtin.append_, run_und ht, run_und hd, sizeOf, typeInfo, hi, S.len, hroom, hc, hst]
theorem zeroCells_len (z : Array Value) (n : Nat) : (Builtin.zeroCells z n).size = n * z.size := by simp [Builtin.zeroCells]
theorem append_grow {t xT e ty : TypeId} {i : TypeInfo} {z : Value} (ht : P.underlying t = some (.slice e)) (hxt : (∃ e', P.underlying xT = some (.slice e')) ∨ P.underlying xT = some .string) (hi : P.info? e = some i) (hz : i.zero = some z)
    (hb : i.bytes ≤ 4096) {n : Nat} {x' : Value} {new new' : List Value} (S : Src P ι h w i.size n x' new new') (base : Option Addr) (sLen sCap : Nat) (hroom : sCap < sLen + n) (hbig : sLen + n ≤ bigN)
    {old' : List Value} (hold : ∀ w', w'.heap = w.heap → (Builtin.firstCells i.size sLen (.slice base sLen sCap)).run P w' = .ok old'.toArray w') :
    ∃ cap, sLen + n ≤ cap ∧ (Builtin.append_ #[t, xT] ty #[.slice base sLen sCap, x']).run P w =
      .ok (.slice (some ⟨w.heap.size, 0, none⟩) (sLen + n) cap) { w with drawn := w.drawn + 1, heap := w.heap.push (.cells ((old' ++ new') ++ (Builtin.zeroCells z.cells (cap - (sLen + n))).toList).toArray e) } := by
  have hge : sLen + n ≤ (Question.appendCap (sLen + n) sCap e).cut (w.tape w.drawn (.appendCap (sLen + n) sCap e)) := by simp [Question.cut]
  refine ⟨_, hge, ?_⟩
  have hn : ¬ (sLen + n ≤ sCap) := by omega
  unfold bigN at hbig
  have h63' : ¬ (9223372036854775807 < ((sLen : Int) + (n : Int))) := by omega
  have h48' : ¬ (281474976710656 < Builtin.nextslicecap (sLen + n) sCap * i.bytes) := by
    have := nextslicecap_le hroom
    have h2 : Builtin.nextslicecap (sLen + n) sCap * i.bytes ≤ (2 * (sLen + n)) * 4096 := Nat.mul_le_mul this hb
    omega
  have hf := S.cells { w with drawn := w.drawn + 1 } rfl
  have hfo := hold { w with drawn := w.drawn + 1 } rfl
  simp at hf hfo
  rcases hxt with ⟨e', hd⟩ | hd <;>
    simp [Builtin.append_, run_und ht, run_und hd, sizeOf, typeInfo, zeroValue, hi, hz, S.len, hn, h63', h48', Question.forced, newRow, hf, hfo]
  all_goals
    unfold World.alloc World.drew
    simp only
    congr 3
    apply Array.ext'
    simp [List.append_assoc]

theorem stN_eq {a : Addr} {c vs : List Value} {g base : Nat} {e : TypeId} (hb : h.get a.block = some (.cells c g base e)) (hg : g ≠ 0) (hfit : a.off + vs.length ≤ c.length) (hsc : vs.all scal = true) :
    stN a vs h = some ((), h.upd a.block (splice c a.off vs) g base e) := by
  unfold stN; rw [hb]; exact if_pos ⟨hg, hfit, hsc⟩
theorem app_inplace (R : Rel P W0 ι h w) {a a' : Addr} {l : Loc} (e1 : a.spot = none) (e2 : a'.spot = none) (e3 : ι a.block = some l) (e4 : a'.block = l.blk) (e5 : a'.off = l.off + a.off)
    {c : List Value} {g base : Nat} (hblk : h.get a.block = some (.cells c g base l.elem)) (hg : g ≠ 0) {k : Nat} {old new new' : List Value} (hold : cellsAt h (some a) k = some old)
    (hrel : LRel P ι new new') (hsc : ∀ v ∈ new, scal v = true) (hroom : a'.off + k + new.length ≤ l.size)
    (get' : Nat → Option ABlk) (tip' : Nat → Nat) (hsub : ∀ j blk, get' j = some blk → h.get j = some blk)
    (htip : ∀ b c g' base' e', get' b = some (.cells c g' base' e') → g' ≠ 0 → base' + c.length ≤ tip' g') (htipn : base + a.off + (old ++ new).length ≤ tip' g)
    (hend : ∀ b c' base' e', get' b = some (.cells c' g base' e') → base' + c'.length ≤ base + a.off + k) :
    ∃ w' ι', (storeCells (a'.add k) new').run P w = .ok () w' ∧ ι.le ι' ∧ ι' h.next = some ⟨l.blk, l.off + a.off, l.size, l.elem, false⟩ ∧
      Rel P W0 ι' (h.ext h.next (h.next + 1) get' (.cells (old ++ new) g (base + a.off) l.elem) tip') w' := by
  obtain ⟨l0, f1, f2, f3, f4, f5⟩ := R.live _ c g base l.elem hblk
  rw [e3] at f1; cases f1
  obtain ⟨cc, fz, hh, q1, q2⟩ := R.loc _ l e3
  have hro : l.ro = false := by grind
  have hone : ∀ v ∈ new', v.oneCell' = true := by
    intro v' hv'
    obtain ⟨i, hi⟩ := List.mem_iff_getElem?.1 hv'
    have hlt : i < new.length := by have := (List.getElem?_eq_some_iff.1 hi).1; have := hrel.1; omega
    exact (hrel.2 i new[i] v' (by simp [hlt]) hi).oneCell (hsc _ (List.getElem_mem hlt))
  have hlen := hrel.1
  have hst := run_storeCells_fz P l.blk (a'.off + k) l.elem fz new' 0 cc w hh (by omega) ((q2 hro).2 ⟨_, l, c, g, base, l.elem, e3, rfl, hblk⟩) hone
  have hadd : a'.add k = ⟨l.blk, a'.off + k, none⟩ := by rw [add_eq e2, e4]
  have hsp : cc.toList.take (a'.off + k + 0) ++ new' ++ cc.toList.drop (a'.off + k + 0 + new'.length) = splice cc.toList (l.off + a.off + k) new' := by
    simp [splice, e5]
  rw [← hadd, hsp] at hst
  have hfit : l.off + a.off + k + new'.length ≤ cc.toList.length := by simp; omega
  -- the old blocks stay as they are
  have hstay : ∀ b c1 g1 base1 e1' l1, get' b = some (.cells c1 g1 base1 e1') → ι b = some l1 → l1.blk = l.blk → g1 = g ∧ l.off + base1 = l1.off + base ∧ l1.off + c1.length ≤ l.off + a.off + k := by
    intro b c1 g1 base1 e1' l1 hb hl1 hbl
    obtain ⟨p1, p2⟩ := R.grp a.block b l l1 c g base l.elem c1 g1 base1 e1' e3 hl1 hro hblk (hsub _ _ hb) hbl.symm
    grind
  have R1 : Rel P W0 ι { h with get := get' } (w.setRow l.blk (splice cc.toList (l.off + a.off + k) new').toArray) := by
    refine R.write get' l.blk l.size l.elem cc _ fz (q2 hro).1 hh (by simp [splice_length _ _ _ hfit]) (fun b hb => ?_) (fun b c1 g1 base1 e1' hb => ?_)
    · cases hq : get' b with
      | none => rfl
      | some blk => have := (R.dom b hb).1; rw [hsub _ _ hq] at this; cases this
    · refine ⟨g1, c1, hsub _ _ hb, rfl, rfl, fun _ _ _ => rfl, fun l1 hl1 hbl i v hv => ?_⟩
      obtain ⟨_, _, p3⟩ := hstay b c1 g1 base1 e1' l1 hb hl1 hbl
      obtain ⟨l2, g1', g2', g3', g4', g5'⟩ := R.live b c1 g1 base1 e1' (hsub _ _ hb)
      rw [hl1] at g1'; cases g1'
      obtain ⟨v', x, y⟩ := g5' i v hv
      have hi := (List.getElem?_eq_some_iff.1 hv).1
      refine ⟨v', ?_, y⟩
      simp only [List.getElem?_toArray, splice_get _ _ _ _ hfit]
      rw [if_pos (by omega)]
      simp only [World.cell?, hbl, hh] at x
      simpa using x
  have hget := setRow_get l.blk (splice cc.toList (l.off + a.off + k) new').toArray cc l.elem fz hh
  have hlold : old.length = k ∧ (∀ (i : Nat) v, old[i]? = some v → i < k ∧ c[a.off + i]? = some v) := by
    simp only [cellsAt, hblk] at hold
    split at hold
    · cases hold
      refine ⟨by simp; omega, fun i v hv => ?_⟩
      rw [List.getElem?_take] at hv
      split at hv
      · rename_i hi; rw [List.getElem?_drop] at hv; exact ⟨hi, hv⟩
      · cases hv
    · cases hold
  have hcells : ∀ (i : Nat) v, (old ++ new)[i]? = some v → ∃ v', World.cell? (w.setRow l.blk (splice cc.toList (l.off + a.off + k) new').toArray) ⟨l.blk, l.off + a.off + i, none⟩ = some v' ∧ scal v = true ∧ VRel P ι v v' := by
    intro i v hv
    have hok := hlold.1
    have hb0 : (w.setRow l.blk (splice cc.toList (l.off + a.off + k) new').toArray).heap[l.blk]? = some (.cells (splice cc.toList (l.off + a.off + k) new').toArray l.elem fz) := by rw [hget, if_pos rfl]
    have hcl : World.cell? (w.setRow l.blk (splice cc.toList (l.off + a.off + k) new').toArray) ⟨l.blk, l.off + a.off + i, none⟩ = (splice cc.toList (l.off + a.off + k) new')[l.off + a.off + i]? := by
      simp [World.cell?, hb0]
    rw [hcl, splice_get _ _ _ _ hfit]
    rw [List.getElem?_append] at hv
    split at hv
    · rename_i hi
      obtain ⟨p1, p2⟩ := hlold.2 i v hv
      obtain ⟨v', x, y⟩ := f5 _ v p2
      refine ⟨v', ?_, y⟩
      rw [if_pos (by omega)]
      simp only [World.cell?, hh] at x
      simpa [Nat.add_assoc] using x
    · rename_i hi
      obtain ⟨v', x, y⟩ := hrel.get hv
      have hi2 := (List.getElem?_eq_some_iff.1 x).1
      refine ⟨v', ?_, hsc v (List.mem_of_getElem? hv), y⟩
      rw [if_neg (by omega), if_pos (by omega)]
      rw [← x]; congr 1; omega
  obtain ⟨ι', hle, hnew, R2⟩ := R1.addView ⟨l.blk, l.off + a.off, l.size, l.elem, false⟩ rfl (q2 hro).1 (cc := (splice cc.toList (l.off + a.off + k) new').toArray) (fz := fz)
    (by rw [hget, if_pos rfl]) (by simp [splice_length _ _ _ hfit, q1]) (fun o ho => (q2 hro).2 ⟨_, l, c, g, base, l.elem, e3, rfl, hblk⟩ o (by simpa [splice_length _ _ _ hfit] using ho)) g (base + a.off) (old ++ new) tip'
    hcells (by simp [hlold.1]; omega) (fun b l1 c1 g1 base1 e1' hl1 hb hbl => (by
      obtain ⟨p1, p2, _⟩ := hstay b c1 g1 base1 e1' l1 hb hl1 hbl
      exact ⟨p1, by simp only; omega⟩)) hg (R.tip _ c g base l.elem hblk hg).2 htip htipn
  exact ⟨_, ι', hst, hle, hnew, R2⟩
theorem app_app0 {strict : Bool} {s : Sl} {sz : Nat} {e : TypeId} {n : Nat} {new : List Value} {r : Sl × AHeap} (hx : app strict s sz e n new h = some r) : app0 strict s sz e n new h = some r := by
  unfold app at hx
  split at hx
  · cases hx
  · exact hx
theorem app_sound (R : Rel P W0 ι h w) {t xT e ty : TypeId} {i : TypeInfo} {z : Value} (ht : P.underlying t = some (.slice e))
    (hxt : (∃ e', P.underlying xT = some (.slice e')) ∨ P.underlying xT = some .string) (hi : P.info? e = some i) (hz : zeroOf P e = some z) (hb : i.bytes ≤ 4096)
    {s : Sl} {s' x' : Value} (hr : VRel P ι (.slice s.a s.len s.cap) s') {n : Nat} {new new' : List Value} (S : Src P ι h w i.size n x' new new')
    {strict : Bool} {r : Sl} (hx : app strict s i.size e n new h = some (r, h1)) :
    VSim P W0 ι w (Builtin.append_ #[t, xT] ty #[s', x']) (.slice r.a r.len r.cap) h1 := by
  obtain ⟨hzf, hz1, hz2, i2, hi2, hz3, hz4⟩ := zeroOf_spec hz
  rw [hi] at hi2; cases hi2
  obtain ⟨sa, sn, sc⟩ := s
  replace hx := app_app0 hx
  simp only [app0] at hx
  simp only at hr
  have hsz : szT P e = i.size := by rw [szT_eq hz2, hz4]
  split at hx
  · -- nothing is appended
    rename_i hn0; subst hn0
    cases sa with
    | none =>
      simp only at hx
      split at hx
      · rename_i hc; cases hx
        obtain ⟨c1, c2, c3⟩ := hc
        subst c1; subst c2
        cases hr
        exact .ret (append_room ht hxt hi S none 0 0 (by omega) (by simp)) (.flat _ rfl) R
      · cases hx
    | some a =>
      simp only at hx
      split at hx
      · rename_i hc; cases hx
        subst hc
        have hn' : new' = [] := List.eq_nil_of_length_eq_zero S.rel.1.symm
        subst hn'
        have hr0 := hr
        cases hr with
        | flat _ hf => simp [flat1] at hf
        | slice _ a' _ _ c' l e1 e2 e3 e4 e5 e6 e7 e8 =>
          exact .ret (append_room ht hxt hi S (some a') _ c' (by omega) (by simp [storeCells])) hr0 R
        | sliceE _ a' _ hce =>
          exact .ret (append_room ht hxt hi S (some a') _ 0 (by omega) (by simp [storeCells])) hr0 R
      · cases hx
  · rename_i hn0
    split at hx
    · cases hx
    · rename_i hlim
      have hlim : sn + n ≤ bigN ∧ new.length = n * i.size := Classical.byContradiction fun x => hlim x
      obtain ⟨hbig, hnl⟩ := hlim
      cases sa with
      | none =>
        simp only at hx
        split at hx
        · rename_i hc; cases hx
          obtain ⟨c1, c2⟩ := hc
          subst c1; subst c2
          cases hr
          obtain ⟨cap, hcap, hrun⟩ := append_grow (ty := ty) ht hxt hi hz3 hb S none 0 0 (by omega) (by omega) (old' := []) (fun w' _ => by simp [Builtin.firstCells])
          have R1 : Rel P W0 ι h { w with drawn := w.drawn + 1 } := R.of_heap rfl ⟨rfl, rfl⟩
          obtain ⟨ι', hle, hnew, R'⟩ := R1.new e new new' (Builtin.zeroCells z.cells (cap - (0 + n))).toList (0, 0) (by intro o _; simp) S.rel S.sc
          rw [Nat.zero_add] at hcap hrun hnew R'
          refine ⟨_, _, ι', hrun, ?_, ?_, hle⟩
          · refine .slice _ _ _ _ _ _ rfl rfl hnew rfl rfl hcap (.inl rfl) (fun _ _ => ?_)
            simp only [hsz, ← S.rel.1, hnl, Array.length_toList, zeroCells_len, Nat.zero_add, ← hz4]
            rw [← Nat.add_mul]
            exact Nat.mul_le_mul_right _ (by omega)
          · simpa using R'
        · cases hx
      | some a =>
        simp only at hx
        split at hx
        · rename_i old c g base e1 hold hblk
          -- a new array
          have hgrow : ∀ (sCap : Nat) (a' : Addr) (old' : List Value) (get' : Nat → Option ABlk) (tip' : Nat → Nat) (g2 base2 : Nat),
              (∀ w', w'.heap = w.heap → (Builtin.firstCells i.size sn (.slice (some a') sn sCap)).run P w' = .ok old'.toArray w') →
              LRel P ι old old' → (∀ v ∈ old, scal v = true) → old.length = sn * i.size → sCap < sn + n →
              (∀ j blk, get' j = some blk → h.get j = some blk) → g2 ≠ 0 → (g2 = h.next + 1 ∨ h.used (g2 - 1) = true) →
              (∀ b c g' base' e', get' b = some (.cells c g' base' e') → g' ≠ 0 → base' + c.length ≤ tip' g') → base2 + (old ++ new).length ≤ tip' g2 →
              VSim P W0 ι w (Builtin.append_ #[t, xT] ty #[.slice (some a') sn sCap, x']) (.slice (some ⟨h.next, 0, none⟩) (sn + n) 0) (h.ext h.next (h.next + 1) get' (.cells (old ++ new) g2 base2 e) tip') := by
            intro sCap a' old' get' tip' g2 base2 q1 q2 q3 q4 q5 q6 q7 q8 q9 q10
            obtain ⟨cap, hcap, hrun⟩ := append_grow (ty := ty) ht hxt hi hz3 hb S (some a') sn sCap q5 hbig q1
            have R1 : Rel P W0 ι h { w with drawn := w.drawn + 1 } := R.of_heap rfl ⟨rfl, rfl⟩
            obtain ⟨ι', hle, hnew, R'⟩ := R1.newIn h.next (h.next + 1) R.unused ⟨by omega, by omega⟩ get' tip' g2 base2 e (old ++ new) (old' ++ new') (Builtin.zeroCells z.cells (cap - (sn + n))).toList (0, 0) q6 q7 q8 q9 q10
              (by intro o _; simp) (q2.append S.rel) (fun v hv => (List.mem_append.1 hv).elim (q3 v) (S.sc v))
            refine ⟨_, _, ι', hrun, ?_, ?_, hle⟩
            · refine .slice _ _ _ _ _ _ rfl rfl hnew rfl rfl hcap (.inl rfl) (fun _ _ => ?_)
              have e3 : (old' ++ new').length = (sn + n) * i.size := by rw [List.length_append, ← q2.1, ← S.rel.1, q4, hnl, Nat.add_mul]
              simp only [hsz, e3, Array.length_toList, zeroCells_len, Nat.zero_add, ← hz4]
              rw [← Nat.add_mul]
              exact Nat.mul_le_mul_right _ (by omega)
            · simpa using R'
          -- what the old array holds, on the model's side
          have hsrc : ∀ (a' : Addr) (sCap : Nat), (ARel ι a a' ∨ sn = 0) → ∃ old', (∀ w', w'.heap = w.heap → (Builtin.firstCells i.size sn (.slice (some a') sn sCap)).run P w' = .ok old'.toArray w') ∧
              LRel P ι old old' ∧ (∀ v ∈ old, scal v = true) ∧ old.length = sn * i.size := by
            intro a' sCap hor
            rcases hor with ha | h0
            · obtain ⟨cs', q1, q2, q3, q4, q5⟩ := cellsAt_sound R ha hold
              exact ⟨cs', fun w' he => by simpa [Builtin.firstCells] using loadCells_heap (by rw [← q1.1, q2]) q5 he, q1, q3, q2⟩
            · subst h0
              have : old = [] := by
                grind [cellsAt]
              subst this
              exact ⟨[], fun w' _ => by simp [Builtin.firstCells, loadCells, loadCellsFrom], .nil, by simp, by simp⟩
          have holdlen : old.length = sn * i.size := by
            grind [cellsAt]
          split at hx
          · -- known room
            rename_i hroom
            split at hx
            · rename_i hc; cases hx
              obtain ⟨hg, hfit, _⟩ := hc
              cases hr with
              | flat _ hf => simp [flat1] at hf
              | sliceE _ a' _ hce => omega
              | slice _ a' _ _ c' l f1 f2 f3 f4 f5 f6 f7 f8 =>
                have hst : stN (a.plus (sn * i.size)) new h = some ((), h.upd a.block (splice c (a.off + sn * i.size) new) g base e1) := by
                  exact stN_eq (a := a.plus (sn * i.size)) hblk hg (by simp only [Addr.plus]; omega) (List.all_eq_true.2 S.sc)
                obtain ⟨w', hs, R'⟩ := stN_sound R (ARel.plus ⟨f1, f2, l, f3, f4, f5⟩ _) S.rel hst
                refine ⟨_, w', ι, append_room ht hxt hi S (some a') sn c' (by omega) hs, ?_, R', .refl _⟩
                show VRel P ι (.slice (some a) (sn + n) sc) _
                exact .slice _ _ _ _ _ l f1 f2 f3 f4 f5 (by omega) f7 f8
            · cases hx
          · rename_i hroom
            split at hx
            · -- known to be full
              rename_i hcap; cases hx
              have htip : ∀ g, (h.new e (old ++ new)).tip g = if g = h.next + 1 then (old ++ new).length else h.tip g := fun g => cond_beq _ _ _ _
              have fin : ∀ (a' : Addr) (c' : Nat), (ARel ι a a' ∨ sn = 0) → c' < sn + n → VSim P W0 ι w (Builtin.append_ #[t, xT] ty #[.slice (some a') sn c', x']) (.slice (some ⟨h.next, 0, none⟩) (sn + n) 0) (h.new e (old ++ new)) := by
                intro a' c' ha hlt
                obtain ⟨old', p1, p2, p3, p4⟩ := hsrc a' c' ha
                have he : h.new e (old ++ new) = h.ext h.next (h.next + 1) h.get (.cells (old ++ new) (h.next + 1) 0 e) (h.new e (old ++ new)).tip := by simp [AHeap.new, AHeap.putB, AHeap.ext]
                rw [he]
                exact hgrow c' a' old' h.get (h.new e (old ++ new)).tip (h.next + 1) 0 p1 p2 p3 p4 hlt (fun _ _ x => x) (by omega) (.inl rfl)
                  (fun b c g' base' e' hb hg' => by
                    obtain ⟨h1, h2⟩ := R.tip b c g' base' e' hb hg'
                    rw [htip, if_neg (fun x => by subst x; simp at h2; rw [R.unused] at h2; cases h2)]; exact h1) (by rw [htip]; simp)
              cases hr with
              | flat _ hf => simp [flat1] at hf
              | sliceE _ a' _ hce => exact fin a' 0 (.inr rfl) (by omega)
              | slice _ a' _ _ c' l f1 f2 f3 f4 f5 f6 f7 f8 => exact fin a' c' (.inl ⟨f1, f2, l, f3, f4, f5⟩) (by omega)
            · rename_i hcap
              have hcap : sc = 0 := Classical.byContradiction fun x => hcap x
              subst hcap
              split at hx
              · rename_i hc
                obtain ⟨hg, he1⟩ := hc
                subst he1
                -- both forms of the abstract heap
                have both : ∀ (get' : Nat → Option ABlk) (tip' : Nat → Nat), (∀ j blk, get' j = some blk → h.get j = some blk) →
                    (∀ b c g' base' e', get' b = some (.cells c g' base' e') → g' ≠ 0 → base' + c.length ≤ tip' g') → base + a.off + (old ++ new).length ≤ tip' g →
                    (∀ b c' base' e', get' b = some (.cells c' g base' e') → base' + c'.length ≤ base + a.off + sn * i.size) →
                    VSim P W0 ι w (Builtin.append_ #[t, xT] ty #[s', x']) (.slice (some ⟨h.next, 0, none⟩) (sn + n) 0) (h.ext h.next (h.next + 1) get' (.cells (old ++ new) g (base + a.off) e1) tip') := by
                  intro get' tip' q1 q2 q3 q4
                  have hgn := (R.tip _ c g base e1 hblk hg).2
                  have grow : ∀ (a' : Addr) (c' : Nat), (ARel ι a a' ∨ sn = 0) → c' < sn + n → VSim P W0 ι w (Builtin.append_ #[t, xT] ty #[.slice (some a') sn c', x']) (.slice (some ⟨h.next, 0, none⟩) (sn + n) 0) (h.ext h.next (h.next + 1) get' (.cells (old ++ new) g (base + a.off) e1) tip') := by
                    intro a' c' ha hlt
                    obtain ⟨old', p1, p2, p3, p4⟩ := hsrc a' c' ha
                    grind
                  cases hr with
                  | flat _ hf => simp [flat1] at hf
                  | sliceE _ a' _ hce => exact grow a' 0 (.inr rfl) (by omega)
                  | slice _ a' _ _ c' l f1 f2 f3 f4 f5 f6 f7 f8 =>
                    by_cases hfit : sn + n ≤ c'
                    · obtain ⟨l0, g1, g2, g3, _, _⟩ := R.live _ c g base e1 hblk
                      rw [f3] at g1; cases g1
                      have hro : l.ro = false := by grind
                      have hwf := f8 hro (by omega)
                      subst g2
                      have hroom2 : a'.off + sn * i.size + new.length ≤ l.size := by
                        have : (sn + n) * i.size ≤ c' * i.size := Nat.mul_le_mul_right _ hfit
                        grind
                      obtain ⟨w', ι', hs, hle, hnew, R'⟩ := app_inplace R f1 f2 f3 f4 f5 hblk hg hold S.rel S.sc hroom2 get' tip' q1 q2 q3 q4
                      refine ⟨_, w', ι', append_room ht hxt hi S (some a') sn c' hfit hs, ?_, R', hle⟩
                      exact .slice _ _ _ _ _ _ rfl f2 hnew f4 (by simp only; omega) hfit (.inl rfl) (fun _ _ => hwf)
                    · exact grow a' c' (.inl ⟨f1, f2, l, f3, f4, f5⟩) (by omega)
                split at hx
                · rename_i htip; cases hx
                  have hid : ∀ {blk : ABlk}, (fun j => cond (Nat.beq j h.next) (some blk) (idO (h.get j))) = fun j => cond (Nat.beq j h.next) (some blk) (h.get j) := by simp
                  rw [hid]
                  refine both h.get _ (fun _ _ x => x) (fun b c1 g' base' e' hb hg' => ?_) ?_ (fun b c1 base' e' hb => ?_)
                  · rw [cond_beq]
                    have := (R.tip b c1 g' base' e' hb hg').1
                    grind
                  · rw [cond_beq, if_pos rfl]; simp [holdlen]; omega
                  · have := (R.tip b c1 g base' e' hb hg).1; omega
                · rename_i htip
                  split at hx
                  · cases hx
                    have hk : ∀ j blk, (match h.get j with
                        | some (.cells c' g' base' elem') => cond (Nat.beq g' g && Nat.blt (base + a.off + sn * i.size) (base' + c'.length)) none (some (.cells c' g' base' elem'))
                        | o => o) = some blk → h.get j = some blk ∧ (∀ c' base' e', blk = .cells c' g base' e' → base' + c'.length ≤ base + a.off + sn * i.size) := by
                      intro j blk hj
                      cases hq : h.get j with
                      | none => rw [hq] at hj; cases hj
                      | some bl =>
                        rw [hq] at hj
                        cases bl with
                        | map es => grind
                        | iter s p => grind
                        | cells c' g' base' e' =>
                          simp only at hj
                          cases hb2 : (Nat.beq g' g && Nat.blt (base + a.off + sn * i.size) (base' + c'.length)) with
                          | true => rw [hb2] at hj; cases hj
                          | false =>
                            rw [hb2] at hj; cases hj
                            refine ⟨rfl, fun c2 base2 e2 heq => ?_⟩
                            cases heq
                            refine Classical.byContradiction fun hlt => ?_
                            have hbl : Nat.blt (base + a.off + sn * i.size) (base' + c'.length) = true := Nat.ble_eq_true_of_le (by omega)
                            grind [Nat.beq_refl]
                    refine both _ _ (fun j blk hj => (hk j blk hj).1) (fun b c1 g' base' e' hb hg' => ?_) ?_ (fun b c1 base' e' hb => (hk b _ hb).2 _ _ _ rfl)
                    · rw [cond_beq]
                      obtain ⟨p1, p2⟩ := hk b _ hb
                      have := (R.tip b c1 g' base' e' p1 hg').1
                      split
                      · rename_i hgg; subst hgg; have := p2 _ _ _ rfl; omega
                      · exact this
                    · rw [cond_beq, if_pos rfl]; simp [holdlen]; omega
                  · cases hx
              · cases hx
        · cases hx
end Go.Ago
