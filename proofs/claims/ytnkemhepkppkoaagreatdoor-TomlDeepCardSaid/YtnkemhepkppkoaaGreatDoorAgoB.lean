/-
The relation between the abstract heap and the model's world, and what keeps it: loads, new blocks, stores. No theorem about the program stands here.
-/
import Derived.Test.YtnkemhepkppkoaaGreatDoorAgoA
import Derived.Test.YtnkemhepkppkoaaGreatDoorFact
import Derived.Laws.Tables
import Derived.Laws.CopyRow
set_option linter.all false
namespace Go.Ago
open Go

/-- The world's part that stays: blocks, what is outside, what was written out. -/
structure Fz where
  get : Nat → Option Obj
  os : Os
  out : Array (Nat × ByteArray)
  dfs : List Deferred
instance : CoeFun Fz (fun _ => Nat → Option Obj) := ⟨Fz.get⟩
/-- Where an abstract block lies: the model's block, the offset, that block's size and element type; may it be read alone? -/
structure Loc where
  blk : Nat
  off : Nat
  size : Nat
  elem : TypeId
  ro : Bool
/-- Where the abstract blocks lie, and the maps. -/
structure IMap where
  f : Nat → Option Loc
  mp : Nat → Option Nat
instance : CoeFun IMap (fun _ => Nat → Option Loc) := ⟨IMap.f⟩
def IMap.emp : IMap := ⟨fun _ => none, fun _ => none⟩
def IMap.le (ι ι' : IMap) : Prop := (∀ b l, ι b = some l → ι' b = some l) ∧ ∀ m r, ι.mp m = some r → ι'.mp m = some r
theorem IMap.le.refl (ι : IMap) : ι.le ι := ⟨fun _ _ h => h, fun _ _ h => h⟩
theorem IMap.le.trans {a b c : IMap} (h : a.le b) (h' : b.le c) : a.le c := ⟨fun x l e => h'.1 x l (h.1 x l e), fun x l e => h'.2 x l (h.2 x l e)⟩

def szT (P : Program) (t : TypeId) : Nat := match P.info? t with
  | some i => i.size
  | none => 0
def ARel (ι : IMap) (a a' : Addr) : Prop := a.spot = none ∧ a'.spot = none ∧ ∃ l, ι a.block = some l ∧ a'.block = l.blk ∧ a'.off = l.off + a.off
inductive VRel (P : Program) (ι : IMap) : Value → Value → Prop where
  | flat (v : Value) : flat1 v = true → VRel P ι v v
  | ptr (a a' : Addr) : ARel ι a a' → VRel P ι (.pointer (some a)) (.pointer (some a'))
  | slice (a a' : Addr) (n c c' : Nat) (l : Loc) : a.spot = none → a'.spot = none → ι a.block = some l → a'.block = l.blk → a'.off = l.off + a.off →
      n ≤ c' → (c = 0 ∨ c = c' + 1) → (l.ro = false → c = 0 → a'.off + c' * szT P l.elem ≤ l.size) → VRel P ι (.slice (some a) n c) (.slice (some a') n c')
  | sliceE (a a' : Addr) (c : Nat) : (c = 0 ∨ c = 1) → VRel P ι (.slice (some a) 0 c) (.slice (some a') 0 0)
  | map (m r : Nat) : ι.mp m = some r → VRel P ι (.map (some m)) (.map (some r))
  | iface (t : TypeId) (v v' : Value) : VRel P ι v v' → VRel P ι (.iface t v) (.iface t v')
  | agg (cs cs' : Array Value) : cs.size = cs'.size → (∀ (i : Nat) v v', cs[i]? = some v → cs'[i]? = some v' → VRel P ι v v') → VRel P ι (.agg cs) (.agg cs')
  | tuple (cs cs' : Array Value) : cs.size = cs'.size → (∀ (i : Nat) v v', cs[i]? = some v → cs'[i]? = some v' → VRel P ι v v') → VRel P ι (.tuple cs) (.tuple cs')
  | func (fn : Fn) (fs fs' cs cs' : Array Value) : fs.size = fs'.size → (∀ (i : Nat) v v', fs[i]? = some v → fs'[i]? = some v' → VRel P ι v v') →
      cs.size = cs'.size → (∀ (i : Nat) v v', cs[i]? = some v → cs'[i]? = some v' → VRel P ι v v') → VRel P ι (.func fn fs cs) (.func fn fs' cs')

variable {P : Program} {W0 : Fz} {ι ι' : IMap} {h h' : AHeap} {w w' : World}

theorem ARel.mono {a a' : Addr} (hr : ARel ι a a') (hle : ι.le ι') : ARel ι' a a' := by
  obtain ⟨h1, h2, l, h3, h4, h5⟩ := hr
  exact ⟨h1, h2, l, hle.1 _ _ h3, h4, h5⟩
theorem VRel.mono {v v' : Value} (hr : VRel P ι v v') (hle : ι.le ι') : VRel P ι' v v' := by
  induction hr with
  | flat v hv => exact .flat v hv
  | ptr a a' ha => exact .ptr a a' (ha.mono hle)
  | slice a a' n c c' l h1 h2 h3 h4 h5 h6 h7 h8 => exact .slice a a' n c c' l h1 h2 (hle.1 _ _ h3) h4 h5 h6 h7 h8
  | sliceE a a' c hc => exact .sliceE a a' c hc
  | map m r hr => exact .map m r (hle.2 _ _ hr)
  | iface t v v' _ ih => exact .iface t v v' ih
  | agg cs cs' hs _ ih => exact .agg cs cs' hs ih
  | tuple cs cs' hs _ ih => exact .tuple cs cs' hs ih
  | func fn fs fs' cs cs' hs _ hs' _ ih ih' => exact .func fn fs fs' cs cs' hs ih hs' ih'

/-- Lists of cells. -/
def LRel (P : Program) (ι : IMap) (l l' : List Value) : Prop := l.length = l'.length ∧ ∀ (i : Nat) v v', l[i]? = some v → l'[i]? = some v' → VRel P ι v v'
theorem LRel.mono {l l' : List Value} (hr : LRel P ι l l') (hle : ι.le ι') : LRel P ι' l l' := ⟨hr.1, fun i v v' a b => (hr.2 i v v' a b).mono hle⟩
theorem LRel.get {l l' : List Value} (hr : LRel P ι l l') {i : Nat} {v : Value} (hi : l[i]? = some v) : ∃ v', l'[i]? = some v' ∧ VRel P ι v v' := by
  have hlt : i < l'.length := by
    have := (List.getElem?_eq_some_iff.1 hi).1
    have := hr.1
    omega
  exact ⟨l'[i], by simp [hlt], hr.2 i v _ hi (by simp [hlt])⟩
theorem LRel.nil : LRel P ι [] [] := ⟨rfl, by simp⟩
theorem LRel.cons {v v' : Value} {l l' : List Value} (hv : VRel P ι v v') (hl : LRel P ι l l') : LRel P ι (v :: l) (v' :: l') := by
  refine ⟨by simp [hl.1], fun i u u' a b => ?_⟩
  cases i with
  | zero => simp at a b; subst a; subst b; exact hv
  | succ i => simp at a b; exact hl.2 i u u' a b
theorem LRel.cons_inv {v : Value} {l l' : List Value} (hl : LRel P ι (v :: l) l') : ∃ v' m, l' = v' :: m ∧ VRel P ι v v' ∧ LRel P ι l m := by
  cases l' with
  | nil => simp [LRel] at hl
  | cons v' m => exact ⟨v', m, rfl, hl.2 0 v v' rfl rfl, by have := hl.1; simp at this; exact this, fun i u u' a b => hl.2 (i + 1) u u' (by simpa using a) (by simpa using b)⟩
theorem LRel.append {a a' b b' : List Value} (ha : LRel P ι a a') (hb : LRel P ι b b') : LRel P ι (a ++ b) (a' ++ b') := by
  induction a generalizing a' with
  | nil =>
    have : a' = [] := by have := ha.1; simp at this; exact List.eq_nil_of_length_eq_zero this.symm
    subst this; simpa using hb
  | cons v l ih =>
    grind [ha.cons_inv, LRel.cons]
theorem LRel.take {a a' : List Value} (ha : LRel P ι a a') (n : Nat) : LRel P ι (a.take n) (a'.take n) := by
  refine ⟨by simp [ha.1], fun i u u' x y => ?_⟩
  rw [List.getElem?_take] at x y
  split at x <;> simp_all
  exact ha.2 i u u' x y
theorem LRel.drop {a a' : List Value} (ha : LRel P ι a a') (n : Nat) : LRel P ι (a.drop n) (a'.drop n) := by
  refine ⟨by simp [ha.1], fun i u u' x y => ?_⟩
  rw [List.getElem?_drop] at x y
  exact ha.2 _ u u' x y
theorem LRel.splice {c c' vs vs' : List Value} (hc : LRel P ι c c') (hv : LRel P ι vs vs') (o : Nat) : LRel P ι (splice c o vs) (splice c' o vs') := by
  unfold Ago.splice
  rw [← hv.1]
  exact (LRel.append (hc.take o) hv).append (hc.drop _)
theorem LRel.flat {l : List Value} (hl : l.all flat1 = true) : LRel P ι l l := by
  refine ⟨rfl, fun i u u' x y => ?_⟩
  rw [x] at y; cases y
  exact .flat u (List.all_eq_true.1 hl u (List.mem_of_getElem? x))

/-- A value that is kept in one cell is no struct. -/
theorem VRel.oneCell {v v' : Value} (hr : VRel P ι v v') (hv : scal v = true) : v'.oneCell' = true := by
  cases hr with
  | flat v hf => cases v <;> simp_all [flat1, Value.oneCell']
  | agg => simp [scal] at hv
  | tuple => simp [scal] at hv
  | _ => rfl
theorem VRel.of_flat {v : Value} (hv : Ago.flat v = true) : VRel P ι v v := by
  unfold Ago.flat at hv
  split at hv
  · rename_i cs
    exact .agg cs cs rfl fun i u u' x y => by
      rw [x] at y; cases y
      exact .flat u (List.all_eq_true.1 hv u (List.mem_of_getElem? (by simpa using x)))
  · rename_i vs
    have : vs = #[] := by simpa using hv
    subst this
    exact .tuple _ _ rfl (by simp)
  · exact .iface _ _ _ (.flat _ hv)
  · exact .flat _ hv
theorem VRel.cells {v v' : Value} (hr : VRel P ι v v') : LRel P ι v.cells.toList v'.cells.toList := by
  cases hr with
  | flat v hf => cases v <;> first | (simp [flat1] at hf; done) | exact LRel.cons (.flat _ hf) LRel.nil
  | agg cs cs' hs hv => exact ⟨by simpa [Value.cells] using hs, fun i u u' x y => hv i u u' (by simpa [Value.cells] using x) (by simpa [Value.cells] using y)⟩
  | ptr a a' ha => exact LRel.cons (.ptr _ _ ha) LRel.nil
  | slice a a' n c c' l h1 h2 h3 h4 h5 h6 h7 h8 => exact LRel.cons (.slice a a' n c c' l h1 h2 h3 h4 h5 h6 h7 h8) LRel.nil
  | sliceE a a' c hc => exact LRel.cons (.sliceE a a' c hc) LRel.nil
  | map m r hr => exact LRel.cons (.map m r hr) LRel.nil
  | iface t v v' hv => exact LRel.cons (.iface t v v' hv) LRel.nil
  | tuple cs cs' hs hv => exact LRel.cons (.tuple cs cs' hs hv) LRel.nil
  | func fn fs fs' cs cs' a b c d => exact LRel.cons (.func fn fs fs' cs cs' a b c d) LRel.nil

/-- Slots. -/
def ERel (P : Program) (ι : IMap) (E : Env) (tmps : Array Value) : Prop := ∀ i v, E i = some v → ∃ v', tmps[i]? = some v' ∧ VRel P ι v v'
theorem ERel.mono {E : Env} {t : Array Value} (hr : ERel P ι E t) (hle : ι.le ι') : ERel P ι' E t := fun i v hv =>
  let ⟨v', a, b⟩ := hr i v hv
  ⟨v', a, b.mono hle⟩
theorem ERel.emp {t : Array Value} : ERel P ι Env.emp t := fun i v hv => by simp [Env.emp] at hv

/-- The entries of a map on both sides. -/
def MEs (P : Program) (ι : IMap) (t : TypeId) : List AEnt → List MapEntry → Prop
  | [], [] => True
  | e :: r, e' :: r' => e'.key = e.key ∧ keyOk P t e.key = true ∧ VRel P ι e.val e'.val ∧ e'.born = e.born ∧ MEs P ι t r r'
  | _, _ => False
theorem MEs.mono {t : TypeId} (hle : ι.le ι') : ∀ {es : List AEnt} {es' : List MapEntry}, MEs P ι t es es' → MEs P ι' t es es'
  | [], [], _ => trivial
  | [], _ :: _, h => h.elim
  | _ :: _, [], h => h.elim
  | e :: r, e' :: r', h => ⟨h.1, h.2.1, h.2.2.1.mono hle, h.2.2.2.1, MEs.mono hle h.2.2.2.2⟩
structure MRel (P : Program) (W0 : Fz) (ι : IMap) (h : AHeap) (w : World) : Prop where
  dom : ∀ m, h.used m = false → h.mget m = none ∧ ι.mp m = none
  loc : ∀ m r, ι.mp m = some r → W0 r = none ∧ ∃ es c, w.heap[r]? = some (.map es c)
  inj : ∀ m m' r, ι.mp m = some r → ι.mp m' = some r → m = m'
  live : ∀ m x, h.mget m = some x → ∃ r es', ι.mp m = some r ∧ w.heap[r]? = some (.map es' x.clock) ∧ MEs P ι x.kt x.es es'.toList
theorem MRel.keep (M : MRel P W0 ι h w) (hm : h'.mget = h.mget) (hn : ∀ m, h'.used m = false → h.used m = false) (hle : ι.le ι') (hmp : ι'.mp = ι.mp)
    (hw : ∀ (r : Nat) es c, w.heap[r]? = some (.map es c) → w'.heap[r]? = some (.map es c)) : MRel P W0 ι' h' w' := by
  refine ⟨fun m hx => ?_, fun m r hx => ?_, fun m m' r hx hy => ?_, fun m x hx => ?_⟩
  · rw [hm, hmp]; exact M.dom m (hn m hx)
  · rw [hmp] at hx
    obtain ⟨h1, es, c, h2⟩ := M.loc m r hx
    exact ⟨h1, es, c, hw _ _ _ h2⟩
  · rw [hmp] at hx hy; exact M.inj m m' r hx hy
  · rw [hm] at hx
    obtain ⟨r, es', h1, h2, h3⟩ := M.live m x hx
    exact ⟨r, es', by rw [hmp]; exact h1, hw _ _ _ h2, h3.mono hle⟩
theorem map_push {o : Obj} : ∀ (r : Nat) es c, w.heap[r]? = some (.map es c) → (w.heap.push o)[r]? = some (.map es c) := by
  grind

/-- What stays gives what the library's functions ask. -/
def LibOf (F : Fz) : Prop := ∀ w : World, (∀ i o, F i = some o → w.heap[i]? = some o) → LibFact w
/-- Does a block that may be looked at lie there? -/
def Lv (ι : IMap) (h : AHeap) (k : Nat) : Prop := ∃ b l c g base e, ι b = some l ∧ l.blk = k ∧ h.get b = some (.cells c g base e)
theorem Lv.of {k : Nat} (hv : Lv ι h' k) (hs : ∀ b c g base e, h'.get b = some (.cells c g base e) → ∃ c g base e, h.get b = some (.cells c g base e)) : Lv ι h k := by
  obtain ⟨b, l, c, g, base, e, h1, h2, h3⟩ := hv
  obtain ⟨c, g, base, e, h4⟩ := hs b c g base e h3
  exact ⟨b, l, c, g, base, e, h1, h2, h4⟩
theorem Lv.to {k : Nat} (hv : Lv ι' h' k) (hs : ∀ b l c g base e, ι' b = some l → h'.get b = some (.cells c g base e) → l.blk = k → ∃ c g base e, ι b = some l ∧ h.get b = some (.cells c g base e)) : Lv ι h k := by
  obtain ⟨b, l, c, g, base, e, h1, h2, h3⟩ := hv
  obtain ⟨c, g, base, e, h4, h5⟩ := hs b l c g base e h1 h3 h2
  exact ⟨b, l, c, g, base, e, h4, h2, h5⟩
structure Rel (P : Program) (W0 : Fz) (ι : IMap) (h : AHeap) (w : World) : Prop where
  old : ∀ i o, W0 i = some o → w.heap[i]? = some o
  dom : ∀ b, h.used b = false → h.get b = none ∧ ι b = none
  nx : ∀ b, h.next ≤ b → h.used b = false
  loc : ∀ b l, ι b = some l → ∃ cc fz, w.heap[l.blk]? = some (.cells cc l.elem fz) ∧ cc.size = l.size ∧
    (l.ro = false → W0 l.blk = none ∧ (Lv ι h l.blk → ∀ o, o < cc.size → (decide (fz.1 ≤ o) && decide (o < fz.2)) = false))
  live : ∀ b c g base e, h.get b = some (.cells c g base e) → ∃ l, ι b = some l ∧ l.elem = e ∧ ((g = 0 ↔ l.ro = true) ∧ (g = b + 1 → l.off = 0)) ∧ l.off + c.length ≤ l.size ∧
    (∀ i v, c[i]? = some v → ∃ v', w.cell? ⟨l.blk, l.off + i, none⟩ = some v' ∧ scal v = true ∧ VRel P ι v v')
  grp : ∀ b b' l l' c g base e c' g' base' e', ι b = some l → ι b' = some l' → l.ro = false → h.get b = some (.cells c g base e) → h.get b' = some (.cells c' g' base' e') →
    l.blk = l'.blk → g = g' ∧ l.off + base' = l'.off + base
  tip : ∀ b c g base e, h.get b = some (.cells c g base e) → g ≠ 0 → base + c.length ≤ h.tip g ∧ h.used (g - 1) = true
  os : w.os = W0.os ∧ w.output = W0.out
  lib : LibOf W0
  mp : MRel P W0 ι h w

theorem Rel.cell (R : Rel P W0 ι h w) {a a' : Addr} (ha : ARel ι a a') {v : Value} (hv : h.cell a = some v) :
    ∃ v', w.cell? a' = some v' ∧ scal v = true ∧ VRel P ι v v' := by
  unfold AHeap.cell at hv
  split at hv
  · rename_i c g base e hg
    obtain ⟨l, hl, _, _, _, hc⟩ := R.live _ _ _ _ _ hg
    obtain ⟨_, hs, l', hl', hb, ho⟩ := ha
    rw [hl] at hl'; cases hl'
    obtain ⟨v', hv', x⟩ := hc _ _ hv
    refine ⟨v', ?_, x⟩
    rw [← hv']
    congr 1
    cases a'; simp_all
  · simp at hv
theorem ARel.plus {a a' : Addr} (ha : ARel ι a a') (n : Nat) : ARel ι (a.plus n) (a'.add n) := by
  obtain ⟨h1, h2, l, h3, h4, h5⟩ := ha
  unfold Addr.plus Addr.add
  split
  · subst_vars; exact ⟨rfl, h2, l, h3, h4, by simpa using h5⟩
  · exact ⟨rfl, rfl, l, h3, h4, by simp [h5]; omega⟩
theorem add_eq {a : Addr} (hs : a.spot = none) (n : Nat) : a.add n = ⟨a.block, a.off + n, none⟩ := by
  unfold Addr.add; split
  · subst_vars; cases a; simp_all
  · rfl

/-- A draw changes nothing. -/
theorem Rel.of_heap (R : Rel P W0 ι h w) (he : w'.heap = w.heap) (ho : w'.os = w.os ∧ w'.output = w.output) : Rel P W0 ι h w' := by
  have hc : ∀ a, w'.cell? a = w.cell? a := fun a => by simp [World.cell?, he]
  exact ⟨by rw [he]; exact R.old, R.dom, R.nx, by rw [he]; exact R.loc, by simpa only [hc] using R.live, R.grp, R.tip, ⟨ho.1.trans R.os.1, ho.2.trans R.os.2⟩, R.lib, R.mp.keep rfl (fun _ x => x) (.refl _) rfl fun r es c hr => by rw [he]; exact hr⟩

/-- A new block that the abstract side does not see. -/
theorem Rel.garbage (R : Rel P W0 ι h w) (o : Obj) : Rel P W0 ι h { w with heap := w.heap.push o } := by
  have hlt : ∀ i, i < w.heap.size → (w.heap.push o)[i]? = w.heap[i]? := fun i hi => by rw [Array.getElem?_push, if_neg (by omega)]
  have hcell : ∀ a v, w.cell? a = some v → World.cell? { w with heap := w.heap.push o } a = some v := by
    intro a v ha
    have : a.block < w.heap.size := by
      grind [World.cell?, Array.getElem?_eq_some_iff]
    grind [World.cell?]
  refine ⟨fun i o hi => ?_, R.dom, R.nx, fun b l hl => ?_, fun b c g base e hb => ?_, R.grp, R.tip, R.os, R.lib, R.mp.keep rfl (fun _ x => x) (.refl _) rfl map_push⟩
  · have := R.old i o hi
    grind
  · obtain ⟨cc, fz, hh, rest⟩ := R.loc b l hl
    grind
  · obtain ⟨l, h1, h2, h3, h4, h5⟩ := R.live b c g base e hb
    grind

theorem cond_beq {α : Type} (i j : Nat) (x y : α) : cond (Nat.beq i j) x y = if i = j then x else y := by
  simp_all

/-- The abstract heap with one more block, some blocks left out. -/
def AHeap.ext (h : AHeap) (nm next' : Nat) (get' : Nat → Option ABlk) (blk : ABlk) (tip' : Nat → Nat) : AHeap :=
  { h with get := fun j => cond (Nat.beq j nm) (some blk) (get' j), next := next', tip := tip', used := fun j => cond (Nat.beq j nm) true (h.used j) }
theorem hold (R : Rel P W0 ι h w) : ∀ b l, ι b = some l → l.blk < w.heap.size := fun b l hl =>
  let ⟨_, _, hh, _⟩ := R.loc b l hl
  (Array.getElem?_eq_some_iff.1 hh).1
theorem cell_push {o : Obj} : ∀ a v, w.cell? a = some v → World.cell? { w with heap := w.heap.push o } a = some v := by
  intro a v ha
  have hlt : ∀ i, i < w.heap.size → (w.heap.push o)[i]? = w.heap[i]? := fun i hi => by rw [Array.getElem?_push, if_neg (by omega)]
  have : a.block < w.heap.size := by
    grind [World.cell?, Array.getElem?_eq_some_iff]
  grind [World.cell?]

/-- A new block, on both sides. -/
theorem Rel.newIn (R : Rel P W0 ι h w) (nm next' : Nat) (hnm : h.used nm = false) (hnx : nm < next' ∧ h.next ≤ next') (get' : Nat → Option ABlk) (tip' : Nat → Nat) (g base : Nat) (e : TypeId) (cs cs' extra : List Value) (fz : Nat × Nat)
    (hsub : ∀ j blk, get' j = some blk → h.get j = some blk) (hg : g ≠ 0) (hgn : g = nm + 1 ∨ h.used (g - 1) = true)
    (htip : ∀ b c g' base' e', get' b = some (.cells c g' base' e') → g' ≠ 0 → base' + c.length ≤ tip' g') (htipn : base + cs.length ≤ tip' g)
    (hfz : ∀ o, o < cs'.length + extra.length → (decide (fz.1 ≤ o) && decide (o < fz.2)) = false)
    (hcs : LRel P ι cs cs') (hsc : ∀ v ∈ cs, scal v = true) :
    ∃ ι', ι.le ι' ∧ ι' nm = some ⟨w.heap.size, 0, cs'.length + extra.length, e, false⟩ ∧
      Rel P W0 ι' (h.ext nm next' get' (.cells cs g base e) tip') { w with heap := w.heap.push (.cells (cs' ++ extra).toArray e fz) } := by
  have hn := (R.dom nm hnm)
  have hle : ι.le ⟨fun b => if b = nm then some ⟨w.heap.size, 0, cs'.length + extra.length, e, false⟩ else ι b, ι.mp⟩ := by
    refine ⟨fun b l hl => ?_, fun _ _ x => x⟩
    grind
  refine ⟨⟨fun b => if b = nm then some ⟨w.heap.size, 0, cs'.length + extra.length, e, false⟩ else ι b, ι.mp⟩, hle, by simp, ?_⟩
  have hlt : ∀ i, i < w.heap.size → (w.heap.push (.cells (cs' ++ extra).toArray e fz))[i]? = w.heap[i]? := fun i hi => by rw [Array.getElem?_push, if_neg (by omega)]
  have hnew : (w.heap.push (.cells (cs' ++ extra).toArray e fz))[w.heap.size]? = some (.cells (cs' ++ extra).toArray e fz) := by simp
  have hget : ∀ b, (h.ext nm next' get' (.cells cs g base e) tip').get b = if b = nm then some (.cells cs g base e) else get' b := fun b => cond_beq _ _ _ _
  have hused : ∀ b, (h.ext nm next' get' (.cells cs g base e) tip').used b = if b = nm then true else h.used b := fun b => cond_beq _ _ _ _
  have hold := hold R
  have hF : W0 w.heap.size = none := by
    cases hq : W0 w.heap.size with
    | none => rfl
    | some o => have := (Array.getElem?_eq_some_iff.1 (R.old _ o hq)).1; omega
  constructor
  · intro i o hi
    have := R.old i o hi
    grind
  · intro b hb
    replace hb := (hused b).symm.trans hb
    by_cases h1 : b = nm
    · rw [if_pos h1] at hb; cases hb
    rw [if_neg h1] at hb
    rw [hget]; simp [h1]
    obtain ⟨x, y⟩ := R.dom b hb
    refine ⟨?_, y⟩
    cases hq : get' b with
    | none => rfl
    | some blk => rw [hsub _ _ hq] at x; cases x
  · intro b hb
    have hb' : next' ≤ b := hb
    refine (hused b).trans ?_
    rw [if_neg (by omega)]
    exact R.nx b (by omega)
  · intro b l hl
    by_cases hb : b = nm
    · grind
    · simp [hb] at hl
      obtain ⟨cc, fz', hh, q1, q2⟩ := R.loc b l hl
      refine ⟨cc, fz', by grind, q1, fun x => ⟨(q2 x).1, fun hv => (q2 x).2 ?_⟩⟩
      obtain ⟨b2, l2, c2, g2, ba2, e2, p1, p2, p3⟩ := hv
      replace p1 : (if b2 = nm then some (⟨w.heap.size, 0, cs'.length + extra.length, e, false⟩ : Loc) else ι b2) = some l2 := p1
      rw [hget] at p3
      by_cases hb2 : b2 = nm
      · grind
      · rw [if_neg hb2] at p1 p3
        exact ⟨b2, l2, c2, g2, ba2, e2, p1, p2, hsub _ _ p3⟩
  · intro b c g1 base1 e' hb
    rw [hget] at hb
    split at hb
    · rename_i hbn; subst hbn; simp at hb; obtain ⟨rfl, rfl, rfl, rfl⟩ := hb
      refine ⟨⟨w.heap.size, 0, cs'.length + extra.length, e, false⟩, by simp, rfl, ⟨by simp [hg], fun _ => rfl⟩, by simp [hcs.1], fun i v hv => ?_⟩
      obtain ⟨v', hv', hr⟩ := hcs.get hv
      refine ⟨v', ?_, hsc v (List.mem_of_getElem? hv), hr.mono hle⟩
      grind [List.getElem?_eq_some_iff, World.cell?]
    · rename_i hbn
      obtain ⟨l, h1, h2, h3, h4, h5⟩ := R.live b c g1 base1 e' (hsub _ _ hb)
      exact ⟨l, by simp [hbn, h1], h2, h3, h4, fun i v hv => let ⟨v', a, b, d⟩ := h5 i v hv; ⟨v', cell_push _ _ a, b, d.mono hle⟩⟩
  · intro b b' l l' c g1 base1 e1 c' g' base' e1' hl hl' hro hb hb' hbl
    rw [hget] at hb hb'
    by_cases x : b = nm <;> by_cases y : b' = nm
    · grind
    · grind
    · grind
    · simp [x] at hl hb; simp [y] at hl' hb'
      exact R.grp b b' l l' c g1 base1 e1 c' g' base' e1' hl hl' hro (hsub _ _ hb) (hsub _ _ hb') hbl
  · intro b c g1 base1 e1 hb hg1
    rw [hget] at hb
    split at hb
    · simp at hb; obtain ⟨rfl, rfl, rfl, rfl⟩ := hb
      refine ⟨htipn, (hused _).trans ?_⟩
      grind
    · refine ⟨htip b c g1 base1 e1 hb hg1, (hused _).trans ?_⟩
      have := (R.tip b c g1 base1 e1 (hsub _ _ hb) hg1).2
      split
      · rfl
      · exact this
  · exact R.os
  · exact R.lib
  · exact R.mp.keep rfl (fun m hm => by
      grind) hle rfl map_push
theorem Rel.put (R : Rel P W0 ι h w) (nm next' : Nat) (hnm : h.used nm = false) (hnx : nm < next' ∧ h.next ≤ next') (e : TypeId) (cs cs' extra : List Value) (fz : Nat × Nat)
    (hfz : ∀ o, o < cs'.length + extra.length → (decide (fz.1 ≤ o) && decide (o < fz.2)) = false)
    (hcs : LRel P ι cs cs') (hsc : ∀ v ∈ cs, scal v = true) :
    ∃ ι', ι.le ι' ∧ ι' nm = some ⟨w.heap.size, 0, cs'.length + extra.length, e, false⟩ ∧
      Rel P W0 ι' (h.putB nm next' e cs) { w with heap := w.heap.push (.cells (cs' ++ extra).toArray e fz) } := by
  have htip : ∀ g, (h.putB nm next' e cs).tip g = if g = nm + 1 then cs.length else h.tip g := fun g => cond_beq _ _ _ _
  have he : h.putB nm next' e cs = h.ext nm next' h.get (.cells cs (nm + 1) 0 e) (h.putB nm next' e cs).tip := by simp [AHeap.putB, AHeap.ext]
  rw [he]
  exact R.newIn nm next' hnm hnx h.get (h.putB nm next' e cs).tip (nm + 1) 0 e cs cs' extra fz (fun _ _ x => x) (by omega) (.inl rfl)
    (fun b c g' base' e' hb hg' => by
      obtain ⟨h1, h2⟩ := R.tip b c g' base' e' hb hg'
      grind) (by rw [htip]; simp) hfz hcs hsc
theorem Rel.unused (R : Rel P W0 ι h w) : h.used h.next = false := R.nx _ (Nat.le_refl _)
theorem Rel.new (R : Rel P W0 ι h w) (e : TypeId) (cs cs' extra : List Value) (fz : Nat × Nat)
    (hfz : ∀ o, o < cs'.length + extra.length → (decide (fz.1 ≤ o) && decide (o < fz.2)) = false)
    (hcs : LRel P ι cs cs') (hsc : ∀ v ∈ cs, scal v = true) :
    ∃ ι', ι.le ι' ∧ ι' h.next = some ⟨w.heap.size, 0, cs'.length + extra.length, e, false⟩ ∧
      Rel P W0 ι' (h.new e cs) { w with heap := w.heap.push (.cells (cs' ++ extra).toArray e fz) } :=
  R.put h.next (h.next + 1) R.unused ⟨by omega, by omega⟩ e cs cs' extra fz hfz hcs hsc
theorem Rel.reserve (R : Rel P W0 ι h w) (n : Nat) : Rel P W0 ι { h with next := h.next + n } w :=
  ⟨R.old, R.dom, fun b hb => R.nx b (by simp only at hb; omega), R.loc, R.live, R.grp, R.tip, R.os, R.lib, R.mp.keep rfl (fun _ x => x) (.refl _) rfl fun _ _ _ x => x⟩

theorem setRow_get (g : Nat) (cs old : Array Value) (t : TypeId) (fr : Nat × Nat) (hg : w.heap[g]? = some (.cells old t fr)) (i : Nat) :
    (w.setRow g cs).heap[i]? = if i = g then some (.cells cs t fr) else w.heap[i]? := by
  split
  · rename_i hi; subst hi; exact setRow_heap w i old cs t fr hg
  · rename_i hi
    simp only [World.setRow]
    grind

/-- Cells of a writable block written in place: 'keep' says which blocks stay. -/
theorem Rel.write (R : Rel P W0 ι h w) (get' : Nat → Option ABlk) (blk : Nat) (size : Nat) (elem : TypeId) (cc cc' : Array Value) (fz : Nat × Nat)
    (hW : W0 blk = none) (hcc : w.heap[blk]? = some (.cells cc elem fz)) (hsz : cc'.size = cc.size)
    (hdom : ∀ b, h.used b = false → get' b = none)
    (hlive : ∀ b c g base e, get' b = some (.cells c g base e) → ∃ g0 c0, h.get b = some (.cells c0 g0 base e) ∧ g = g0 ∧ c.length = c0.length ∧
      (∀ l, ι b = some l → l.blk ≠ blk → c = c0) ∧
      (∀ l, ι b = some l → l.blk = blk → ∀ i v, c[i]? = some v → ∃ v', cc'[l.off + i]? = some v' ∧ scal v = true ∧ VRel P ι v v')) :
    Rel P W0 ι { h with get := get' } (w.setRow blk cc') := by
  have hget := setRow_get blk cc' cc elem fz hcc
  have hss : ∀ b c g base e, get' b = some (.cells c g base e) → ∃ c g base e, h.get b = some (.cells c g base e) := fun b c g base e hb =>
    let ⟨g0, c0, h0, _⟩ := hlive b c g base e hb
    ⟨c0, g0, base, e, h0⟩
  constructor
  · intro i o hi
    rw [hget, if_neg (fun e => by rw [e, hW] at hi; cases hi)]; exact R.old i o hi
  · intro b hb; exact ⟨hdom b hb, (R.dom b hb).2⟩
  · exact R.nx
  · intro b l hl
    obtain ⟨c1, fz1, hh, h1, h2⟩ := R.loc b l hl
    by_cases hb : l.blk = blk
    · rw [hb, hcc] at hh; cases hh
      exact ⟨cc', fz, by rw [hget, if_pos hb], by omega, fun x => ⟨(h2 x).1, fun hv o ho => (h2 x).2 (hv.of hss) o (by omega)⟩⟩
    · exact ⟨c1, fz1, by rw [hget, if_neg hb]; exact hh, h1, fun x => ⟨(h2 x).1, fun hv => (h2 x).2 (hv.of hss)⟩⟩
  · intro b c g base e hb
    obtain ⟨g0, c0, h0, rfl, hlen, hk, hwr⟩ := hlive b c g base e hb
    obtain ⟨l, h1, h2, h3, h4, h5⟩ := R.live b c0 g base e h0
    refine ⟨l, h1, h2, h3, by omega, fun i v hv => ?_⟩
    by_cases hbl : l.blk = blk
    · obtain ⟨v', x, y⟩ := hwr l h1 hbl i v hv
      exact ⟨v', by simp only [World.cell?]; rw [hget, if_pos hbl]; simpa using x, y⟩
    · have := hk l h1 hbl; subst this
      obtain ⟨v', x, y⟩ := h5 i v hv
      exact ⟨v', by simp only [World.cell?] at x ⊢; rw [hget, if_neg hbl]; exact x, y⟩
  · intro b b' l l' c g base e c' g' base' e' hl hl' hro hb hb' hbl
    obtain ⟨g0, c0, h0, rfl, _⟩ := hlive b c g base e hb
    obtain ⟨g0', c0', h0', rfl, _⟩ := hlive b' c' g' base' e' hb'
    exact R.grp b b' l l' c0 g base e c0' g' base' e' hl hl' hro h0 h0' hbl
  · intro b c g base e hb hg
    obtain ⟨g0, c0, h0, rfl, hlen, _⟩ := hlive b c g base e hb
    have := R.tip b c0 g base e h0 hg
    exact ⟨by simp only; omega, this.2⟩
  · exact R.os
  · exact R.lib
  · refine R.mp.keep rfl (fun _ x => x) (.refl _) rfl fun r es c hr => ?_
    grind

theorem splice_length (c vs : List Value) (o : Nat) (hf : o + vs.length ≤ c.length) : (splice c o vs).length = c.length := by
  simp [splice]; omega
theorem splice_get (c vs : List Value) (o i : Nat) (hf : o + vs.length ≤ c.length) : (splice c o vs)[i]? =
    if i < o then c[i]? else if i < o + vs.length then vs[i - o]? else c[i]? := by
  unfold splice
  rw [List.getElem?_append, List.getElem?_append]
  grind

theorem Rel.upd (R : Rel P W0 ι h w) {b : Nat} {c : List Value} {g base : Nat} {e : TypeId} (hb : h.get b = some (.cells c g base e)) (hg : g ≠ 0)
    {l : Loc} (hl : ι b = some l) {cc : Array Value} {fz : Nat × Nat} (hcc : w.heap[l.blk]? = some (.cells cc l.elem fz)) {o : Nat} {vs vs' : List Value}
    (hfit : o + vs.length ≤ c.length) (hv : LRel P ι vs vs') (hsc : ∀ v ∈ vs, scal v = true) :
    Rel P W0 ι (h.upd b (splice c o vs) g base e) (w.setRow l.blk (splice cc.toList (l.off + o) vs').toArray) := by
  obtain ⟨l0, e1, e2, e3, e4, e5⟩ := R.live b c g base e hb
  rw [hl] at e1; cases e1
  obtain ⟨c1, fz1, hh, h1, h2⟩ := R.loc b l hl
  rw [hcc] at hh; cases hh
  have hro : l.ro = false := by grind
  have hlen : l.off + o + vs'.length ≤ cc.toList.length := by have := hv.1; simp; omega
  have hupd : ∀ j, (h.upd b (splice c o vs) g base e).get j = if j = b then some (.cells (splice c o vs) g base e) else (match h.get j with
      | some (.cells c' g' base' elem') => if g' = g then none else some (.cells c' g' base' elem')
      | o => o) := by
    intro j
    show cond (Nat.beq j b) _ _ = _
    rw [cond_beq]
    split
    · rfl
    · cases h.get j with
      | none => rfl
      | some blk => cases blk <;> simp [cond_beq]
  refine R.write _ l.blk l.size l.elem cc _ fz (h2 hro).1 hcc (by simp [splice_length _ _ _ hlen]) ?_ ?_
  · intro j hj
    have hjb : j ≠ b := fun x => by have := (R.dom j hj).1; rw [x, hb] at this; cases this
    have := hupd j
    rw [if_neg hjb, (R.dom j hj).1] at this
    exact this
  · intro j c2 g2 base2 e2' hj
    replace hj := (hupd j).symm.trans hj
    by_cases hjb : j = b
    · subst hjb
      simp at hj
      obtain ⟨rfl, rfl, rfl, rfl⟩ := hj
      refine ⟨g, c, hb, rfl, splice_length _ _ _ hfit, fun l2 hl2 hne => ?_, fun l2 hl2 _ i v hi => ?_⟩
      · rw [hl] at hl2; cases hl2; exact absurd rfl hne
      · rw [hl] at hl2; cases hl2
        rw [splice_get _ _ _ _ hfit] at hi
        have hs := splice_get cc.toList vs' (l.off + o) (l.off + i) hlen
        simp only [List.getElem?_toArray, hs]
        have hvl := hv.1
        by_cases x : i < o
        · rw [if_pos x] at hi
          obtain ⟨v', y, z⟩ := e5 i v hi
          refine ⟨v', ?_, z⟩
          rw [if_pos (by omega)]
          simpa [World.cell?, hcc] using y
        · rw [if_neg x] at hi
          by_cases x2 : i < o + vs.length
          · rw [if_pos x2] at hi
            obtain ⟨v', y, z⟩ := hv.get hi
            grind
          · rw [if_neg x2] at hi
            obtain ⟨v', y, z⟩ := e5 i v hi
            refine ⟨v', ?_, z⟩
            rw [if_neg (by omega), if_neg (by omega)]
            simpa [World.cell?, hcc] using y
    · rw [if_neg hjb] at hj
      cases hq : h.get j with
      | none => rw [hq] at hj; simp at hj
      | some bl =>
        rw [hq] at hj
        cases bl with
        | map => simp at hj
        | iter => simp at hj
        | cells c' g' base' elem' =>
          simp only at hj
          split at hj
          · simp at hj
          · rename_i hgg
            simp at hj
            obtain ⟨rfl, rfl, rfl, rfl⟩ := hj
            refine ⟨g', c', rfl, rfl, rfl, fun _ _ _ => rfl, fun l2 hl2 hbl => ?_⟩
            exact absurd ((R.grp b j l l2 c g base e c' g' base' elem' hl hl2 hro hb hq hbl.symm).1.symm) hgg

/-- A new abstract block over cells that the model has already. -/
theorem Rel.addView (R : Rel P W0 ι h w) (nl : Loc) (hro : nl.ro = false) (hW : W0 nl.blk = none) {cc : Array Value} {fz : Nat × Nat} (hcc : w.heap[nl.blk]? = some (.cells cc nl.elem fz)) (hsz : cc.size = nl.size)
    (hfz : ∀ o, o < cc.size → (decide (fz.1 ≤ o) && decide (o < fz.2)) = false) (g base : Nat) (cs : List Value) (tip' : Nat → Nat)
    (hcells : ∀ (i : Nat) v, cs[i]? = some v → ∃ v', w.cell? ⟨nl.blk, nl.off + i, none⟩ = some v' ∧ scal v = true ∧ VRel P ι v v') (hfit : nl.off + cs.length ≤ nl.size)
    (hal : ∀ b l c g' base' e', ι b = some l → h.get b = some (.cells c g' base' e') → l.blk = nl.blk → g' = g ∧ l.off + base = nl.off + base')
    (hg : g ≠ 0) (hgn : h.used (g - 1) = true)
    (htip : ∀ b c g' base' e', h.get b = some (.cells c g' base' e') → g' ≠ 0 → base' + c.length ≤ tip' g') (htipn : base + cs.length ≤ tip' g) :
    ∃ ι', ι.le ι' ∧ ι' h.next = some nl ∧ Rel P W0 ι' (h.ext h.next (h.next + 1) h.get (.cells cs g base nl.elem) tip') w := by
  have hn := (R.dom h.next R.unused)
  have hle : ι.le ⟨fun b => if b = h.next then some nl else ι b, ι.mp⟩ := by
    refine ⟨fun b l hl => ?_, fun _ _ x => x⟩
    grind
  refine ⟨⟨fun b => if b = h.next then some nl else ι b, ι.mp⟩, hle, by simp, ?_⟩
  have hget : ∀ b, (h.ext h.next (h.next + 1) h.get (.cells cs g base nl.elem) tip').get b = if b = h.next then some (.cells cs g base nl.elem) else h.get b := fun b => cond_beq _ _ _ _
  have hused : ∀ b, (h.ext h.next (h.next + 1) h.get (.cells cs g base nl.elem) tip').used b = if b = h.next then true else h.used b := fun b => cond_beq _ _ _ _
  constructor
  · exact R.old
  · intro b hb
    replace hb := (hused b).symm.trans hb
    by_cases h1 : b = h.next
    · rw [if_pos h1] at hb; cases hb
    rw [if_neg h1] at hb
    rw [hget]; simp [h1]
    exact R.dom b hb
  · intro b hb
    have hb' : h.next + 1 ≤ b := hb
    refine (hused b).trans ?_
    rw [if_neg (by omega)]
    exact R.nx b (by omega)
  · intro b l hl
    by_cases hb : b = h.next
    · grind
    · simp [hb] at hl
      obtain ⟨c1, fz1, hh, q1, q2⟩ := R.loc b l hl
      refine ⟨c1, fz1, hh, q1, fun x => ⟨(q2 x).1, fun hv => ?_⟩⟩
      by_cases hk : l.blk = nl.blk
      · grind
      · refine (q2 x).2 ?_
        obtain ⟨b2, l2, c2, g2, ba2, e2, p1, p2, p3⟩ := hv
        replace p1 : (if b2 = h.next then some nl else ι b2) = some l2 := p1
        rw [hget] at p3
        by_cases hb2 : b2 = h.next
        · rw [if_pos hb2] at p1; cases p1; exact absurd p2.symm hk
        · rw [if_neg hb2] at p1 p3
          exact ⟨b2, l2, c2, g2, ba2, e2, p1, p2, p3⟩
  · intro b c g1 base1 e' hb
    rw [hget] at hb
    split at hb
    · rename_i hbn; subst hbn; simp at hb; obtain ⟨rfl, rfl, rfl, rfl⟩ := hb
      exact ⟨nl, by simp, rfl, ⟨by simp [hg, hro], fun x => by rw [x, Nat.add_sub_cancel, R.unused] at hgn; cases hgn⟩, hfit, fun i v hv => let ⟨v', a, b, d⟩ := hcells i v hv; ⟨v', a, b, d.mono hle⟩⟩
    · rename_i hbn
      obtain ⟨l, h1, h2, h3, h4, h5⟩ := R.live b c g1 base1 e' hb
      exact ⟨l, by simp [hbn, h1], h2, h3, h4, fun i v hv => let ⟨v', a, b, d⟩ := h5 i v hv; ⟨v', a, b, d.mono hle⟩⟩
  · intro b b' l l' c g1 base1 e1 c' g' base' e1' hl hl' hlro hb hb' hbl
    rw [hget] at hb hb'
    by_cases x : b = h.next <;> by_cases y : b' = h.next
    · grind
    · grind
    · grind
    · simp [x] at hl hb; simp [y] at hl' hb'
      exact R.grp b b' l l' c g1 base1 e1 c' g' base' e1' hl hl' hlro hb hb' hbl
  · intro b c g1 base1 e1 hb hg1
    rw [hget] at hb
    split at hb
    · simp at hb; obtain ⟨rfl, rfl, rfl, rfl⟩ := hb
      refine ⟨htipn, (hused _).trans ?_⟩
      split
      · rfl
      · exact hgn
    · refine ⟨htip b c g1 base1 e1 hb hg1, (hused _).trans ?_⟩
      have := (R.tip b c g1 base1 e1 hb hg1).2
      split
      · rfl
      · exact this
  · exact R.os
  · exact R.lib
  · exact R.mp.keep rfl (fun m hm => by
      grind) hle rfl fun _ _ _ x => x

/-- More blocks that nobody writes. -/
def FLe (F F' : Fz) : Prop := (∀ b o, F b = some o → F' b = some o) ∧ F'.os = F.os ∧ F'.out = F.out ∧ F'.dfs = F.dfs
theorem FLe.refl (F : Fz) : FLe F F := ⟨fun _ _ x => x, rfl, rfl, rfl⟩
theorem FLe.trans {a b c : Fz} (x : FLe a b) (y : FLe b c) : FLe a c := ⟨fun i o q => y.1 i o (x.1 i o q), y.2.1.trans x.2.1, y.2.2.1.trans x.2.2.1, y.2.2.2.trans x.2.2.2⟩
theorem Rel.shrink {F : Fz} (R : Rel P W0 ι h w) (hF : FLe F W0) (hlib : LibOf F) : Rel P F ι h w := by
  refine ⟨fun i o hi => R.old i o (hF.1 i o hi), R.dom, R.nx, fun b l hl => ?_, R.live, R.grp, R.tip, ⟨R.os.1.trans hF.2.1, R.os.2.trans hF.2.2.1⟩, hlib, ⟨R.mp.dom, fun m r hm => ⟨?_, (R.mp.loc m r hm).2⟩, R.mp.inj, R.mp.live⟩⟩
  · obtain ⟨cc, fz, q1, q2, q3⟩ := R.loc b l hl
    refine ⟨cc, fz, q1, q2, fun x => ⟨?_, (q3 x).2⟩⟩
    cases hq : F l.blk with
    | none => rfl
    | some o => have := hF.1 _ _ hq; rw [(q3 x).1] at this; cases this
  · cases hq : F r with
    | none => rfl
    | some o => have := hF.1 _ _ hq; rw [(R.mp.loc m r hm).1] at this; cases this
def addF (F : Fz) (b : Nat) (o : Obj) : Fz := { F with get := fun i => if i = b then some o else F i }
theorem Rel.freezeF (R : Rel P W0 ι h w) {b : Nat} {o : Obj} (hb : w.heap[b]? = some o) (hne : ∀ n l, ι n = some l → l.blk ≠ b) (hnm : ∀ m r, ι.mp m = some r → r ≠ b) : Rel P (addF W0 b o) ι h w := by
  refine ⟨fun i o' hi => ?_, R.dom, R.nx, fun n l hl => ?_, R.live, R.grp, R.tip, R.os, fun w1 hw1 => R.lib w1 fun i o' hi => ?_, ⟨R.mp.dom, fun m r hm => ⟨?_, (R.mp.loc m r hm).2⟩, R.mp.inj, R.mp.live⟩⟩
  · replace hi : (if i = b then some o else W0 i) = some o' := hi
    split at hi
    · rename_i e; subst e; cases hi; exact hb
    · exact R.old i o' hi
  · obtain ⟨cc, fz, q1, q2, q3⟩ := R.loc n l hl
    exact ⟨cc, fz, q1, q2, fun x => ⟨by show (if l.blk = b then some o else W0 l.blk) = none; rw [if_neg (hne n l hl)]; exact (q3 x).1, (q3 x).2⟩⟩
  · by_cases hib : i = b
    · subst hib
      have h1 := R.old i o' hi
      rw [hb] at h1
      refine hw1 i o' ?_
      show (if i = i then some o else W0 i) = some o'
      rw [if_pos rfl]; exact h1
    · refine hw1 i o' ?_
      show (if i = b then some o else W0 i) = some o'
      rw [if_neg hib]; exact hi
  · show (if r = b then some o else W0 r) = none
    rw [if_neg (hnm m r hm)]; exact (R.mp.loc m r hm).1
theorem FLe.add {F : Fz} {b : Nat} {o : Obj} (hn : F b = none) : FLe F (addF F b o) := ⟨fun i o' hi => by
  show (if i = b then some o else F i) = some o'
  grind, rfl, rfl, rfl⟩
/-- What is deferred does not matter to the heap. -/
theorem Rel.df {F : Fz} (R : Rel P F ι h w) (D : List Deferred) : Rel P { F with dfs := D } ι h w := ⟨R.old, R.dom, R.nx, R.loc, R.live, R.grp, R.tip, R.os, R.lib, ⟨R.mp.dom, R.mp.loc, R.mp.inj, R.mp.live⟩⟩
end Go.Ago
