/-
Reasoning about the abstract heap: what a computation answers, well-formed heaps, what a computation leaves as it is, slices that are owned. No theorem about the program stands here.
-/
import Derived.Test.YtnkemhepkppkoaaGreatDoorAgoI
import Derived.Test.YtnkemhepkppkoaaGreatDoorAgoA
import Derived.Laws.Strings
set_option linter.all false
namespace Go.Ago
open Go
variable {α β : Type}

/-- The computation answers, and what holds then. -/
def Wp (m : M α) (h : AHeap) (Q : α → AHeap → Prop) : Prop := ∃ x h', m h = some (x, h') ∧ Q x h'
theorem Wp.mono {m : M α} {h : AHeap} {Q Q' : α → AHeap → Prop} (hm : Wp m h Q) (hq : ∀ x h', Q x h' → Q' x h') : Wp m h Q' := by
  obtain ⟨x, h', e, q⟩ := hm
  exact ⟨x, h', e, hq _ _ q⟩
theorem Wp_bind {m : M α} {f : α → M β} {h : AHeap} {Q : β → AHeap → Prop} : Wp (M.bind m f) h Q ↔ Wp m h fun x h' => Wp (f x) h' Q := by
  constructor
  · rintro ⟨y, h2, e, q⟩
    unfold M.bind at e
    split at e
    · rename_i x h1 hm; exact ⟨x, h1, hm, y, h2, e, q⟩
    · cases e
  · rintro ⟨x, h1, hm, y, h2, e, q⟩
    exact ⟨y, h2, by unfold M.bind; rw [hm]; exact e, q⟩
theorem Wp.bind {m : M α} {f : α → M β} {h : AHeap} {Q : β → AHeap → Prop} (hm : Wp m h fun x h' => Wp (f x) h' Q) : Wp (M.bind m f) h Q := Wp_bind.2 hm
theorem Wp.seq {m : M α} {f : α → M β} {h : AHeap} {R : α → AHeap → Prop} {Q : β → AHeap → Prop} (hm : Wp m h R) (hf : ∀ x h', R x h' → Wp (f x) h' Q) : Wp (M.bind m f) h Q := Wp_bind.2 (hm.mono hf)
theorem Wp_pure {x : α} {h : AHeap} {Q : α → AHeap → Prop} : Wp (M.pure x) h Q ↔ Q x h :=
  ⟨fun ⟨_, _, e, q⟩ => by cases e; exact q, fun q => ⟨x, h, rfl, q⟩⟩
theorem Wp_nn {p : Option Addr} {h : AHeap} {Q : Addr → AHeap → Prop} : Wp (nn p) h Q ↔ ∃ a, p = some a ∧ Q a h := by
  constructor
  · rintro ⟨x, h', e, q⟩
    cases p <;> simp [nn] at e
    obtain ⟨rfl, rfl⟩ := e; exact ⟨_, rfl, q⟩
  · rintro ⟨a, rfl, q⟩; exact ⟨a, h, rfl, q⟩
theorem Wp_nn' {a : Addr} {h : AHeap} {Q : Addr → AHeap → Prop} : Wp (nn (some a)) h Q ↔ Q a h := by simp [Wp_nn]
theorem Wp_ite {c : Prop} [Decidable c] {a b : M α} {h : AHeap} {Q : α → AHeap → Prop} : Wp (if c then a else b) h Q ↔ (c → Wp a h Q) ∧ (¬ c → Wp b h Q) := by
  by_cases hc : c <;> simp [hc]
theorem Wp_ckM {b : Bool} {h : AHeap} {Q : Unit → AHeap → Prop} : Wp (ckM b) h Q ↔ b = true ∧ Q () h := by
  constructor
  · rintro ⟨x, h', e, q⟩; cases b <;> simp [ckM] at e; obtain ⟨rfl⟩ := e; exact ⟨rfl, q⟩
  · rintro ⟨rfl, q⟩; exact ⟨(), h, rfl, q⟩
/-- What a cell holds, read at a leaf. -/
def AHeap.ld (h : AHeap) (l : Leaf) (b o : Nat) : Option l.den :=
  match h.get b with
  | some (.cells c _ _ _) => (match c[o]? with | some v => unL l v | none => none)
  | _ => none
theorem Wp_ldL {l : Leaf} {a : Addr} {h : AHeap} {Q : l.den → AHeap → Prop} : Wp (ldL l a) h Q ↔ ∃ x, h.ld l a.block a.off = some x ∧ Q x h := by
  have key : ldL l a h = (match h.ld l a.block a.off with | some x => some (x, h) | none => none) := by
    unfold ldL AHeap.cell AHeap.ld
    grind
  constructor
  · rintro ⟨x, h', e, q⟩
    grind
  · rintro ⟨x, hx, q⟩
    exact ⟨x, h, by rw [key, hx], q⟩
def AHeap.ldI (h : AHeap) (k : IntKind) (b o : Nat) : Option Int := h.ld (.int k) b o
def AHeap.ldB (h : AHeap) (b o : Nat) : Option Bool := h.ld .bool b o
def AHeap.ldS (h : AHeap) (b o : Nat) : Option ByteArray := h.ld .str b o
def AHeap.ldV (h : AHeap) (b o : Nat) : Option Sl := h.ld .sl b o
def AHeap.ldP (h : AHeap) (b o : Nat) : Option (Option Addr) := h.ld .ptr b o
theorem Wp_ldI {k : IntKind} {a : Addr} {h : AHeap} {Q : Int → AHeap → Prop} : Wp (α := Int) (ldL (.int k) a) h Q ↔ ∃ x, h.ldI k a.block a.off = some x ∧ Q x h := Wp_ldL
theorem Wp_ldB {a : Addr} {h : AHeap} {Q : Bool → AHeap → Prop} : Wp (α := Bool) (ldL .bool a) h Q ↔ ∃ x, h.ldB a.block a.off = some x ∧ Q x h := Wp_ldL
theorem Wp_ldS {a : Addr} {h : AHeap} {Q : ByteArray → AHeap → Prop} : Wp (α := ByteArray) (ldL .str a) h Q ↔ ∃ x, h.ldS a.block a.off = some x ∧ Q x h := Wp_ldL
theorem Wp_ldV {a : Addr} {h : AHeap} {Q : Sl → AHeap → Prop} : Wp (α := Sl) (ldL .sl a) h Q ↔ ∃ x, h.ldV a.block a.off = some x ∧ Q x h := Wp_ldL
theorem Wp_ldP {a : Addr} {h : AHeap} {Q : Option Addr → AHeap → Prop} : Wp (α := Option Addr) (ldL .ptr a) h Q ↔ ∃ x, h.ldP a.block a.off = some x ∧ Q x h := Wp_ldL
/-- Some cells, read at their leaves. -/
def AHeap.lds (h : AHeap) (ls : List Leaf) (b o : Nat) : Option (LsDen ls) :=
  match h.get b with
  | some (.cells c _ _ _) => if o + ls.length ≤ c.length then unLs ls ((c.drop o).take ls.length) else none
  | _ => none
theorem Wp_ldLs {ls : List Leaf} {a : Addr} {h : AHeap} {Q : LsDen ls → AHeap → Prop} : Wp (ldLs ls a) h Q ↔ ∃ x, h.lds ls a.block a.off = some x ∧ Q x h := by
  have key : ldLs ls a h = (match h.lds ls a.block a.off with | some x => some (x, h) | none => none) := by
    unfold ldLs cellsAt AHeap.lds
    grind
  constructor
  · rintro ⟨x, h', e, q⟩
    grind
  · rintro ⟨x, hx, q⟩
    exact ⟨x, h, by rw [key, hx], q⟩
theorem Wp_stN {a : Addr} {vs : List Value} {h : AHeap} {Q : Unit → AHeap → Prop} :
    Wp (stN a vs) h Q ↔ ∃ c g base e, h.get a.block = some (.cells c g base e) ∧ g ≠ 0 ∧ a.off + vs.length ≤ c.length ∧ vs.all scal = true ∧ Q () (h.upd a.block (splice c a.off vs) g base e) := by
  constructor
  · rintro ⟨x, h', e, q⟩
    grind [stN]
  · rintro ⟨c, g, b, el, hg, h1, h2, h3, q⟩
    exact ⟨(), _, by unfold stN; rw [hg]; simp only; rw [if_pos ⟨h1, h2, h3⟩], q⟩
theorem Wp_new {e : TypeId} {cs : List Value} {h : AHeap} {Q : Nat → AHeap → Prop} : Wp (newB none e cs) h Q ↔ cs.all scal = true ∧ Q h.next (h.new e cs) := by
  constructor
  · rintro ⟨x, h', he, q⟩
    grind [newB]
  · rintro ⟨hc, q⟩; exact ⟨_, _, by unfold newB; rw [if_pos hc], q⟩
theorem Wp_newAt {k : Nat} {e : TypeId} {cs : List Value} {h : AHeap} {Q : Nat → AHeap → Prop} :
    Wp (newB (some k) e cs) h Q ↔ cs.all scal = true ∧ h.used k = false ∧ k < h.next ∧ h.get k = none ∧ Q k (h.putB k h.next e cs) := by
  constructor
  · rintro ⟨x, h', he, q⟩
    unfold newB at he
    split at he
    · rename_i hc
      simp only at he
      split at he
      · rename_i hd; cases he; exact ⟨hc, hd.1, hd.2.1, by simpa using hd.2.2, q⟩
      · cases he
    · cases he
  · rintro ⟨hc, h1, h2, h3, q⟩; exact ⟨_, _, by unfold newB; grind, q⟩
theorem Wp_reserve {n : Nat} {h : AHeap} {Q : Nat → AHeap → Prop} : Wp (reserve n) h Q ↔ Q h.next { h with next := h.next + n } :=
  ⟨fun ⟨_, _, e, q⟩ => by cases e; exact q, fun q => ⟨_, _, rfl, q⟩⟩
theorem Wp_idxC {l : Leaf} {n : Nat} {cs : List Value} {i : Int} {h : AHeap} {v : Value} {x : l.den} {Q : l.den → AHeap → Prop} (h1 : 0 ≤ i) (h2 : i < (n : Int)) (hv : cs[i.toNat]? = some v) (hx : unL l v = some x) (q : Q x h) : Wp (idxC l n cs i) h Q :=
  ⟨x, h, by unfold idxC; rw [if_pos ⟨h1, h2⟩, hv]; simp only [hx], q⟩
theorem Wp_idxS {s : ByteArray} {i : Int} {h : AHeap} {Q : UInt8 → AHeap → Prop} : Wp (idxS s i) h Q ↔ ∃ b, 0 ≤ i ∧ s[i.toNat]? = some b ∧ Q b h := by
  constructor
  · rintro ⟨x, h', e, q⟩
    grind [idxS]
  · rintro ⟨b, hi, hb, q⟩; exact ⟨b, h, by unfold idxS; rw [if_pos hi, hb], q⟩
theorem Wp_sliceS {s : ByteArray} {lo hi : Int} {h : AHeap} {Q : ByteArray → AHeap → Prop} : Wp (sliceS s lo hi) h Q ↔ 0 ≤ lo ∧ lo ≤ hi ∧ hi ≤ s.size ∧ Q (s.extract lo.toNat hi.toNat) h := by
  constructor
  · rintro ⟨x, h', e, q⟩
    grind [sliceS, exS_eq]
  · rintro ⟨h1, h2, h3, q⟩; exact ⟨_, h, by unfold sliceS; rw [if_pos ⟨h1, h2, h3⟩, exS_eq], q⟩
theorem Wp_idxA {s : Sl} {i : Int} {z : Nat} {h : AHeap} {Q : Addr → AHeap → Prop} : Wp (idxA s i z) h Q ↔ ∃ a, s.a = some a ∧ 0 ≤ i ∧ i < s.len ∧ Q (a.plus (i.toNat * z)) h := by
  constructor
  · rintro ⟨x, h', e, q⟩
    grind [idxA]
  · rintro ⟨a, ha, h1, h2, q⟩; exact ⟨_, h, by unfold idxA; rw [ha]; simp only; rw [if_pos ⟨h1, h2⟩], q⟩
theorem Wp_catS {x y : ByteArray} {h : AHeap} {Q : ByteArray → AHeap → Prop} : Wp (catS x y) h Q ↔ x.size + y.size ≤ bigN ∧ Q (x ++ y) h := by
  constructor
  · rintro ⟨z, h', e, q⟩
    grind [catS]
  · rintro ⟨hc, q⟩; exact ⟨_, h, by unfold catS; rw [if_pos hc], q⟩
theorem Wp_rdS {s : Sl} {z : Nat} {h : AHeap} {Q : List Value → AHeap → Prop} : Wp (rdS s z) h Q ↔ ∃ cs, cellsAt h s.a (s.len * z) = some cs ∧ Q cs h := by
  constructor
  · rintro ⟨x, h', e, q⟩
    grind [rdS]
  · rintro ⟨cs, hc, q⟩; exact ⟨cs, h, by unfold rdS; rw [hc], q⟩
theorem Wp_isNilI {v : Value} {h : AHeap} {Q : Bool → AHeap → Prop} : Wp (isNilI v) h Q ↔ (v = .nilIface ∧ Q true h) ∨ (∃ t u, v = .iface t u ∧ Q false h) := by
  constructor
  · rintro ⟨x, h', e, q⟩
    unfold isNilI at e
    grind
  · rintro (⟨rfl, q⟩ | ⟨t, u, rfl, q⟩)
    · exact ⟨true, h, rfl, q⟩
    · exact ⟨false, h, rfl, q⟩

/-! Well-formed heaps, and what stays. -/
structure WF (h : AHeap) : Prop where
  get : ∀ j, h.next ≤ j → h.get j = none
  used : ∀ j, h.next ≤ j → h.used j = false
  grp : ∀ j c g b e, h.get j = some (.cells c g b e) → g ≤ h.next
  maps : ∀ j, h.next ≤ j → h.mget j = none
theorem WF.mlt {h : AHeap} (hw : WF h) {j : Nat} {x : AMap} (hx : h.mget j = some x) : j < h.next := by
  by_cases hj : j < h.next
  · exact hj
  · rw [hw.maps j (by omega)] at hx; cases hx
/-- From h to h', of what is in h only the groups in X may have changed. -/
structure Fr (X : Nat → Prop) (h h' : AHeap) : Prop where
  wf : WF h'
  next : h.next ≤ h'.next
  cells : ∀ j c g b e, h.get j = some (.cells c g b e) → (X g → g = 0) → h'.get j = some (.cells c g b e)
  tip : ∀ g, g ≤ h.next → (X g → g = 0) → h'.tip g = h.tip g
  used : ∀ j, j < h.next → h'.used j = h.used j
  none : ∀ j, j < h.next → h.get j = none → h'.get j = none
  maps : ∀ j x, h.mget j = some x → ¬ X (j + 1) → h'.mget j = some x
theorem Fr.refl {X : Nat → Prop} {h : AHeap} (hw : WF h) : Fr X h h := ⟨hw, Nat.le_refl _, fun _ _ _ _ _ e _ => e, fun _ _ _ => rfl, fun _ _ => rfl, fun _ _ e => e, fun _ _ e _ => e⟩
theorem Fr.trans {X Y : Nat → Prop} {h h1 h2 : AHeap} (hw : WF h) (a : Fr X h h1) (b : Fr Y h1 h2) (hy : ∀ g, Y g → g ≠ 0 → X g ∨ h.next < g) : Fr X h h2 := by
  refine ⟨b.wf, Nat.le_trans a.next b.next, ?_, ?_, ?_, ?_, fun j x hj hx => ?_⟩
  · intro j c g bs e hj hg
    refine b.cells j c g bs e (a.cells j c g bs e hj hg) fun hm => ?_
    by_cases h0 : g = 0
    · exact h0
    · rcases hy g hm h0 with h3 | h3
      · exact hg h3
      · have := hw.grp j c g bs e hj; omega
  · intro g hg hx
    have hx1 : Y g → g = 0 := fun hm => by
      grind
    rw [b.tip g (Nat.le_trans hg a.next) hx1, a.tip g hg hx]
  · intro j hj
    rw [b.used j (Nat.lt_of_lt_of_le hj a.next), a.used j hj]
  · intro j hj hn
    exact b.none j (Nat.lt_of_lt_of_le hj a.next) (a.none j hj hn)
  · have hlt := hw.mlt hj
    refine b.maps j x (a.maps j x hj hx) fun hy2 => ?_
    grind
theorem Fr.mono {X Y : Nat → Prop} {h h' : AHeap} (hw : WF h) (a : Fr X h h') (hs : ∀ g, X g → g ≠ 0 → Y g ∨ h.next < g) : Fr Y h h' :=
  Fr.trans hw (Fr.refl hw) a hs
theorem beq_self (j : Nat) : Nat.beq j j = true := Nat.beq_refl j
theorem beq_ne {i j : Nat} (h : i ≠ j) : Nat.beq i j = false := by
  grind [absurd, Nat.eq_of_beq_eq_true]
theorem upd_get_self {h : AHeap} {b : Nat} {c : List Value} {g base : Nat} {e : TypeId} : (h.upd b c g base e).get b = some (.cells c g base e) := by
  simp [AHeap.upd, beq_self]
theorem upd_get_ne {h : AHeap} {b j : Nat} {c : List Value} {g base : Nat} {e : TypeId} {c' : List Value} {g' b' : Nat} {e' : TypeId} (hj : h.get j = some (.cells c' g' b' e')) (hg : g' ≠ g) (hb : j ≠ b) :
    (h.upd b c g base e).get j = some (.cells c' g' b' e') := by
  simp [AHeap.upd, beq_ne hb, hj, beq_ne hg]
theorem upd_get_cases {h : AHeap} {b j : Nat} {c : List Value} {g base : Nat} {e : TypeId} {k : ABlk} (hj : (h.upd b c g base e).get j = some k) : (j = b ∧ k = .cells c g base e) ∨ (j ≠ b ∧ h.get j = some k) := by
  unfold AHeap.upd at hj
  simp only at hj
  by_cases hb : j = b
  · simp_all
  · rw [beq_ne hb] at hj
    grind
theorem WF.upd {h : AHeap} (hw : WF h) {b : Nat} {c c0 : List Value} {g base base0 : Nat} {e e0 : TypeId} (hb : h.get b = some (.cells c0 g base0 e0)) : WF (h.upd b c g base e) := by
  have hlt : b < h.next := by
    by_cases hx : b < h.next
    · exact hx
    · rw [hw.get b (by omega)] at hb; cases hb
  refine ⟨fun j hj => ?_, hw.used, fun j c' g' b' e' hj => ?_, hw.maps⟩
  · have h0 := hw.get j hj
    have hj : h.next ≤ j := hj
    cases hq : (h.upd b c g base e).get j with
    | none => rfl
    | some k =>
      rcases upd_get_cases hq with ⟨h1, _⟩ | ⟨_, h1⟩
      · omega
      · rw [h0] at h1; cases h1
  · rcases upd_get_cases hj with ⟨_, h1⟩ | ⟨_, h1⟩
    · cases h1; exact hw.grp _ _ _ _ _ hb
    · exact hw.grp _ _ _ _ _ h1
theorem Fr.upd {h : AHeap} (hw : WF h) {b : Nat} {c c0 : List Value} {g base base0 : Nat} {e e0 : TypeId} (h0 : g ≠ 0) (hb : h.get b = some (.cells c0 g base0 e0)) : Fr (· = g) h (h.upd b c g base e) := by
  refine ⟨hw.upd hb, Nat.le_refl _, ?_, fun _ _ _ => rfl, fun _ _ => rfl, ?_, fun _ _ e _ => e⟩
  · intro j c' g' b' e' hj hg
    have hg : g' ≠ g := fun e1 => h0 (by rw [← e1]; exact hg e1)
    refine upd_get_ne hj hg fun hjb => ?_
    subst hjb; rw [hb] at hj; cases hj; exact hg rfl
  · intro j hj hn
    cases hq : (h.upd b c g base e).get j with
    | none => rfl
    | some k =>
      rcases upd_get_cases hq with ⟨h1, _⟩ | ⟨_, h1⟩
      · subst h1; rw [hn] at hb; cases hb
      · rw [hn] at h1; cases h1
theorem putB_get_self {h : AHeap} {nm nx : Nat} {e : TypeId} {cs : List Value} : (h.putB nm nx e cs).get nm = some (.cells cs (nm + 1) 0 e) := by
  simp [AHeap.putB, beq_self]
theorem putB_get_ne {h : AHeap} {nm nx j : Nat} {e : TypeId} {cs : List Value} (hj : j ≠ nm) : (h.putB nm nx e cs).get j = h.get j := by
  simp [AHeap.putB, beq_ne hj]
theorem putB_tip_self {h : AHeap} {nm nx : Nat} {e : TypeId} {cs : List Value} : (h.putB nm nx e cs).tip (nm + 1) = cs.length := by
  simp [AHeap.putB, beq_self]
theorem putB_tip_ne {h : AHeap} {nm nx g : Nat} {e : TypeId} {cs : List Value} (hg : g ≠ nm + 1) : (h.putB nm nx e cs).tip g = h.tip g := by
  simp [AHeap.putB, beq_ne hg]
theorem WF.putB {h : AHeap} (hw : WF h) {nm nx : Nat} (h1 : nm < nx) (h2 : h.next ≤ nx) {e : TypeId} {cs : List Value} : WF (h.putB nm nx e cs) := by
  refine ⟨fun j hj => ?_, fun j hj => ?_, fun j c g b e' hj => ?_, fun j hj => hw.maps j (Nat.le_trans h2 hj)⟩
  · have hj : nx ≤ j := hj
    rw [putB_get_ne (by omega)]; exact hw.get j (by omega)
  · have hj : nx ≤ j := hj
    simp [AHeap.putB, beq_ne (show j ≠ nm by omega)]; exact hw.used j (by omega)
  · by_cases hn : j = nm
    · subst hn; rw [putB_get_self] at hj; cases hj; exact h1
    · rw [putB_get_ne hn] at hj; exact Nat.le_trans (hw.grp _ _ _ _ _ hj) h2
theorem WF.new {h : AHeap} (hw : WF h) {e : TypeId} {cs : List Value} : WF (h.new e cs) := hw.putB (Nat.lt_succ_self _) (Nat.le_succ _)
theorem Fr.new {h : AHeap} (hw : WF h) {e : TypeId} {cs : List Value} : Fr (fun _ => False) h (h.new e cs) := by
  refine ⟨hw.new, Nat.le_succ _, ?_, ?_, ?_, ?_, fun _ _ e _ => e⟩
  · intro j c g b e' hj _
    rw [AHeap.new, putB_get_ne]
    · exact hj
    · intro hn; subst hn; rw [hw.get _ (Nat.le_refl _)] at hj; cases hj
  · intro g hg _; exact putB_tip_ne (by omega)
  · intro j hj; simp [AHeap.new, AHeap.putB, beq_ne (show j ≠ h.next by omega)]
  grind [AHeap.new, AHeap.new, putB_get_ne]
theorem WF.reserve {h : AHeap} (hw : WF h) {n : Nat} : WF { h with next := h.next + n } :=
  ⟨fun j hj => hw.get j (by simp at hj; omega), fun j hj => hw.used j (by simp at hj; omega), fun j c g b e hj => Nat.le_trans (hw.grp j c g b e hj) (by simp), fun j hj => hw.maps j (by simp at hj; omega)⟩
theorem Fr.reserve {h : AHeap} (hw : WF h) {n : Nat} : Fr (fun _ => False) h { h with next := h.next + n } :=
  ⟨hw.reserve, by simp, fun _ _ _ _ _ e _ => e, fun _ _ _ => rfl, fun _ _ => rfl, fun _ _ e => e, fun _ _ e _ => e⟩
/-- A block under a kept name, seen from a heap before the name was kept. -/
theorem Fr.putB {X : Nat → Prop} {h0 h : AHeap} (hw : WF h0) (a : Fr X h0 h) {k : Nat} (hk : h0.next ≤ k) (hk2 : k < h.next) {e : TypeId} {cs : List Value} : Fr X h0 (h.putB k h.next e cs) := by
  refine ⟨a.wf.putB hk2 (Nat.le_refl _), a.next, ?_, ?_, ?_, ?_, fun j x hj hx => a.maps j x hj hx⟩
  · intro j c g b e' hj hg
    have := a.cells j c g b e' hj hg
    by_cases hn : j = k
    · subst hn
      rw [hw.get j hk] at hj; cases hj
    · rw [putB_get_ne hn]; exact this
  · intro g hg hx
    rw [putB_tip_ne (by omega)]; exact a.tip g hg hx
  · intro j hj
    have : j ≠ k := by omega
    simp [AHeap.putB, beq_ne this]; exact a.used j hj
  · intro j hj hn
    rw [putB_get_ne (by omega)]; exact a.none j hj hn

/-! Slices that are owned. -/
/-- An owned slice: all of its cells, and its group (0: the nil slice). -/
def OSl (h : AHeap) (s : Sl) (sz : Nat) (e : TypeId) (cs : List Value) (g : Nat) : Prop :=
  cs.length = s.len * sz ∧ ((s = ⟨none, 0, 0⟩ ∧ g = 0) ∨ (0 < g ∧ g ≤ h.next ∧ (s.cap = 0 ∨ s.cap = s.len + 1) ∧ ∃ b base, s.a = some ⟨b, 0, none⟩ ∧ h.get b = some (.cells cs g base e) ∧ h.tip g = base + cs.length))
theorem OSl.nil {h : AHeap} {sz : Nat} {e : TypeId} : OSl h ⟨none, 0, 0⟩ sz e [] 0 := ⟨by simp, .inl ⟨rfl, rfl⟩⟩
theorem OSl.fr {h h' : AHeap} {s : Sl} {sz : Nat} {e : TypeId} {cs : List Value} {g : Nat} {X : Nat → Prop} (o : OSl h s sz e cs g) (f : Fr X h h') (hg : X g → g = 0) : OSl h' s sz e cs g := by
  obtain ⟨h1, h2⟩ := o
  refine ⟨h1, ?_⟩
  rcases h2 with h2 | ⟨h2, h3, h4, b, base, h5, h6, h7⟩
  · exact .inl h2
  · exact .inr ⟨h2, Nat.le_trans h3 f.next, h4, b, base, h5, f.cells _ _ _ _ _ h6 hg, by rw [f.tip g h3 hg]; exact h7⟩
theorem OSl.blk {h : AHeap} {s : Sl} {sz : Nat} {e : TypeId} {cs : List Value} {g : Nat} (o : OSl h s sz e cs g) (hn : s.len ≠ 0) :
    ∃ b base, s.a = some ⟨b, 0, none⟩ ∧ h.get b = some (.cells cs g base e) ∧ g ≠ 0 := by
  obtain ⟨_, h2⟩ := o
  grind
theorem OSl.le {h : AHeap} {s : Sl} {sz : Nat} {e : TypeId} {cs : List Value} {g : Nat} (o : OSl h s sz e cs g) : g ≤ h.next := by
  obtain ⟨_, h2⟩ := o
  rcases h2 with ⟨_, h2⟩ | ⟨h2, h3, _⟩ <;> omega
theorem OSl.read {h : AHeap} {s : Sl} {sz : Nat} {e : TypeId} {cs : List Value} {g : Nat} (o : OSl h s sz e cs g) : cellsAt h s.a (s.len * sz) = some cs := by
  obtain ⟨h1, h2⟩ := o
  grind [cellsAt]
/-- A whole owned slice changed in place. -/
theorem OSl.upd {h : AHeap} {s : Sl} {sz : Nat} {e : TypeId} {cs cs' : List Value} {g b base : Nat} (o : OSl h s sz e cs g) (hl : cs'.length = cs.length) (hn : s.len ≠ 0)
    (ha : s.a = some ⟨b, 0, none⟩) (hb : h.get b = some (.cells cs g base e)) : OSl (h.upd b cs' g base e) s sz e cs' g := by
  obtain ⟨h1, h2⟩ := o
  rcases h2 with ⟨rfl, _⟩ | ⟨h2, h3, h4, b2, base2, h5, h6, h7⟩
  · exact absurd rfl hn
  · rw [ha] at h5; cases h5
    rw [hb] at h6; cases h6
    exact ⟨by omega, .inr ⟨h2, h3, h4, b, base, ha, upd_get_self, by rw [hl]; exact h7⟩⟩
theorem OSl.app {h : AHeap} {s : Sl} {sz : Nat} {e : TypeId} {cs new : List Value} {g n : Nat} {st : Bool} {Q : Sl → AHeap → Prop} (o : OSl h s sz e cs g) (hw : WF h) (hn : n ≠ 0) (hl : new.length = n * sz) (hb : s.len + n ≤ bigN)
    (hq : ∀ s' h' g', s'.len = s.len + n → s'.cap = 0 → OSl h' s' sz e (cs ++ new) g' → (g' = g ∧ g ≠ 0 ∨ g' = h.next + 1) → Fr (· = g) h h' → Q s' h') : Wp (Ago.app st s sz e n new) h Q := by
  obtain ⟨h1, h2⟩ := o
  have hnx := hw.get h.next (Nat.le_refl _)
  have key : Ago.app st s sz e n new h = app0 st s sz e n new h := by unfold Ago.app; simp [hnx]
  suffices hh : ∃ s' h' , app0 st s sz e n new h = some (s', h') ∧ Q s' h' by
    obtain ⟨s', h', e1, e2⟩ := hh
    exact ⟨s', h', by rw [key]; exact e1, e2⟩
  have fresh : OSl (h.new e (cs ++ new)) ⟨some ⟨h.next, 0, none⟩, s.len + n, 0⟩ sz e (cs ++ new) (h.next + 1) :=
    ⟨by simp [h1, hl, Nat.add_mul], .inr ⟨by omega, by simp [AHeap.new, AHeap.putB], .inl rfl, h.next, 0, rfl, putB_get_self, by rw [AHeap.new, putB_tip_self]; simp⟩⟩
  have ffr : Fr (· = g) h (h.new e (cs ++ new)) := (Fr.new hw).mono hw (fun _ hx _ => hx.elim)
  rcases h2 with ⟨rfl, rfl⟩ | ⟨h2, h3, h4, b, base, h5, h6, h7⟩
  · have hc : cs = [] := List.eq_nil_of_length_eq_zero (by simpa using h1)
    subst hc
    refine ⟨_, _, ?_, hq _ _ _ rfl rfl fresh (.inr rfl) ffr⟩
    unfold app0
    grind
  · have hcells : cellsAt h (some ⟨b, 0, none⟩) (s.len * sz) = some cs := by simp [cellsAt, h6, ← h1]
    rcases h4 with h4 | h4
    · -- in the same group
      refine ⟨⟨some ⟨h.next, 0, none⟩, s.len + n, 0⟩, { h with get := fun j => cond (Nat.beq j h.next) (some (.cells (cs ++ new) g (base + 0) e)) (h.get j), next := h.next + 1, tip := fun g' => cond (Nat.beq g' g) (base + 0 + s.len * sz + new.length) (h.tip g'), used := fun j => cond (Nat.beq j h.next) true (h.used j) }, ?_, hq _ _ g rfl rfl ?_ (.inl ⟨rfl, by omega⟩) ?_⟩
      · unfold app0
        grind [idO_eq]
      · refine ⟨by simp [h1, hl, Nat.add_mul], .inr ⟨h2, by simp; omega, .inl rfl, h.next, base + 0, rfl, by simp [beq_self], ?_⟩⟩
        simp [beq_self, h1]; omega
      · refine ⟨⟨fun j hj => ?_, fun j hj => ?_, fun j c g' b' e' hj => ?_, fun j hj => hw.maps j (by simp at hj; omega)⟩, Nat.le_succ _, ?_, ?_, ?_, ?_, fun _ _ e _ => e⟩
        · simp at hj; simp [beq_ne (show j ≠ h.next by omega)]; exact hw.get j (by omega)
        · simp at hj; simp [beq_ne (show j ≠ h.next by omega)]; exact hw.used j (by omega)
        · simp only at hj
          by_cases hjn : j = h.next
          · subst hjn; simp [beq_self] at hj; simp; omega
          · simp [beq_ne hjn] at hj; have := hw.grp _ _ _ _ _ hj; simp; omega
        · intro j c g' b' e' hj _
          have : j ≠ h.next := fun hjn => by subst hjn; rw [hnx] at hj; cases hj
          simp [beq_ne this]; exact hj
        · grind [beq_ne]
        · intro j hj; simp [beq_ne (show j ≠ h.next by omega)]
        · intro j hj hx; simp [beq_ne (show j ≠ h.next by omega)]; exact hx
    · refine ⟨_, _, ?_, hq _ _ _ rfl rfl fresh (.inr rfl) ffr⟩
      unfold app0
      grind

/-! Slices of structs. -/
theorem flat_length {enc : α → List Value} {sz : Nat} (he : ∀ x, (enc x).length = sz) : ∀ (L : List α), (L.flatMap enc).length = L.length * sz
  | [] => by simp
  | x :: L => by rw [List.flatMap_cons, List.length_append, he, flat_length he L, List.length_cons, Nat.add_mul, Nat.one_mul, Nat.add_comm]
theorem flat_drop {enc : α → List Value} {sz : Nat} (he : ∀ x, (enc x).length = sz) : ∀ (L : List α) (i : Nat), (L.flatMap enc).drop (i * sz) = (L.drop i).flatMap enc
  | L, 0 => by simp
  | [], i + 1 => by simp
  | x :: L, i + 1 => by
    rw [List.flatMap_cons, List.drop_succ_cons, ← flat_drop he L i, Nat.add_mul, Nat.one_mul, Nat.add_comm, ← List.drop_drop]
    congr 1
    rw [← he x, List.drop_left]
theorem flat_get {enc : α → List Value} {sz : Nat} (he : ∀ x, (enc x).length = sz) {L : List α} {i : Nat} {x : α} (hi : L[i]? = some x) {o : Nat} (ho : o < sz) : (L.flatMap enc)[i * sz + o]? = (enc x)[o]? := by
  have h1 : (L.flatMap enc)[i * sz + o]? = ((L.flatMap enc).drop (i * sz))[o]? := by rw [List.getElem?_drop]
  grind [flat_drop, List.getElem?_eq_some_iff, List.drop_eq_getElem_cons, List.getElem?_append_left]
theorem flat_take {enc : α → List Value} {sz : Nat} (he : ∀ x, (enc x).length = sz) {L : List α} {i : Nat} {x : α} (hi : L[i]? = some x) : ((L.flatMap enc).drop (i * sz)).take sz = enc x := by
  grind [flat_drop, List.getElem?_eq_some_iff, List.drop_eq_getElem_cons, List.take_left]
theorem flat_splice {enc : α → List Value} {sz : Nat} (he : ∀ x, (enc x).length = sz) {L : List α} {i : Nat} {x x' : α} (hi : L[i]? = some x) {o : Nat} {vs : List Value} (ho : o + vs.length ≤ sz) (hx : enc x' = splice (enc x) o vs) :
    splice (L.flatMap enc) (i * sz + o) vs = (L.set i x').flatMap enc := by
  have hlt := (List.getElem?_eq_some_iff.1 hi).1
  have hL : L = L.take i ++ x :: L.drop (i + 1) := by
    grind [List.drop_eq_getElem_cons, List.getElem?_eq_some_iff, List.take_append_drop]
  have hs : L.set i x' = L.take i ++ x' :: L.drop (i + 1) := by rw [List.set_eq_take_append_cons_drop, if_pos hlt]
  have hl : ((L.take i).flatMap enc).length = i * sz := by grind [flat_length, List.length_take, Nat.min_eq_left, Nat.le_of_lt]
  rw [hs, List.flatMap_append, List.flatMap_cons, hx]
  conv => lhs; rw [hL]
  rw [List.flatMap_append, List.flatMap_cons]
  unfold splice
  rw [← hl, List.take_length_add_append, Nat.add_assoc, List.drop_length_add_append, List.take_append_of_le_length (by rw [he]; omega), List.drop_append_of_le_length (by rw [he]; omega)]
  simp
/-! Blocks that a call made. -/
structure LB (h : AHeap) (b : Nat) (cs : List Value) (e : TypeId) : Prop where
  get : h.get b = some (.cells cs (b + 1) 0 e)
theorem LB.new {h : AHeap} {e : TypeId} {cs : List Value} : LB (h.new e cs) h.next cs e := ⟨putB_get_self⟩
theorem LB.fr {h h' : AHeap} {b : Nat} {cs : List Value} {e : TypeId} {X : Nat → Prop} (l : LB h b cs e) (f : Fr X h h') (hx : ¬ X (b + 1)) : LB h' b cs e := ⟨f.cells _ _ _ _ _ l.get fun hm => absurd hm hx⟩
theorem LB.lt {h : AHeap} {b : Nat} {cs : List Value} {e : TypeId} (l : LB h b cs e) (hw : WF h) : b < h.next := by
  have := hw.grp _ _ _ _ _ l.get; omega
theorem LB.st {h : AHeap} {b o : Nat} {cs vs : List Value} {e : TypeId} (l : LB h b cs e) (hw : WF h) (ho : o + vs.length ≤ cs.length) (hv : vs.all scal = true) {Q : Unit → AHeap → Prop}
    (hq : ∀ h', LB h' b (splice cs o vs) e → Fr (· = b + 1) h h' → Q () h') : Wp (stN ⟨b, o, none⟩ vs) h Q := by
  rw [Wp_stN]
  exact ⟨cs, b + 1, 0, e, l.get, by omega, ho, hv, hq _ ⟨upd_get_self⟩ (Fr.upd hw (by omega) l.get)⟩
theorem LB.ld {h : AHeap} {b o : Nat} {cs : List Value} {e : TypeId} (l : LB h b cs e) {lf : Leaf} {v : Value} {x : lf.den} (hv : cs[o]? = some v) (hx : unL lf v = some x) : h.ld lf b o = some x := by
  unfold AHeap.ld; rw [l.get]; simp only [hv]; exact hx
theorem LB.lds {h : AHeap} {b o : Nat} {cs : List Value} {e : TypeId} (l : LB h b cs e) {ls : List Leaf} {x : LsDen ls} (hl : o + ls.length ≤ cs.length) (hx : unLs ls ((cs.drop o).take ls.length) = some x) : h.lds ls b o = some x := by
  unfold AHeap.lds; rw [l.get]; simp only [hl, if_true]; exact hx
theorem Fr.fresh {X Y : Nat → Prop} {h0 h h' : AHeap} (hw : WF h0) (a : Fr X h0 h) (b : Fr Y h h') (hg : ∀ g, Y g → X g ∨ h0.next < g) : Fr X h0 h' := a.trans hw b fun g hy _ => hg g hy
theorem Wp_mkS {e : TypeId} {z : List Value} {l c : Int} {h : AHeap} {Q : Sl → AHeap → Prop} (h1 : 0 ≤ l) (h2 : l ≤ c) (h3 : c ≤ bigN) (q : Q ⟨some ⟨h.next, 0, none⟩, l.toNat, c.toNat + 1⟩ (h.new e (List.replicate c.toNat z).flatten)) (hz : z.all scal = true := by rfl) : Wp (mkS none e z l c) h Q := by
  have hs : (List.replicate c.toNat z).flatten.all scal = true := by
    grind
  exact ⟨_, _, by unfold mkS newB; rw [if_pos ⟨h1, h2, h3⟩, if_pos hs], q⟩
theorem Wp_mkSAt {k : Nat} {e : TypeId} {z : List Value} {l c : Int} {h : AHeap} {Q : Sl → AHeap → Prop} (h1 : 0 ≤ l) (h2 : l ≤ c) (h3 : c ≤ bigN) (k1 : h.used k = false) (k2 : k < h.next) (k3 : h.get k = none)
    (q : Q ⟨some ⟨k, 0, none⟩, l.toNat, c.toNat + 1⟩ (h.putB k h.next e (List.replicate c.toNat z).flatten)) (hz : z.all scal = true := by rfl) : Wp (mkS (some k) e z l c) h Q := by
  have hs : (List.replicate c.toNat z).flatten.all scal = true := by
    grind
  exact ⟨_, _, by unfold mkS newB; grind, q⟩
theorem Wp_sliceL {s : Sl} {lo hi : Int} {e : TypeId} {z : Nat} {h : AHeap} {Q : Sl → AHeap → Prop} (h1 : 0 ≤ lo) (h2 : lo ≤ hi) (h3 : hi ≤ s.len) (h4 : elemOk h s e = true)
    (q : Q ⟨s.a.map (·.plus (lo.toNat * z)), hi.toNat - lo.toNat, s.cap - (if s.cap = 0 then 0 else lo.toNat)⟩ h) : Wp (sliceL s lo hi e z) h Q :=
  ⟨_, _, by unfold sliceL; rw [if_pos ⟨h1, h2, h3, h4⟩], q⟩
theorem chk_Wp {m : M α} {as : List (Option Addr)} {h : AHeap} {Q : α → AHeap → Prop} (hm : Wp m h fun x h' => (∀ a, some a ∈ as → h'.get a.block = h.get a.block) ∧ Q x h') : Wp (chk as m) h Q := by
  obtain ⟨x, h', e, hs, q⟩ := hm
  refine ⟨x, h', ?_, q⟩
  have : sameAt h h' as = true := by
    clear e q
    induction as with
    | nil => rfl
    | cons a r ih =>
      have ih := ih fun a ha => hs a (List.mem_cons_of_mem _ ha)
      cases a with
      | none => exact ih
      | some b =>
        have hb := hs b (by simp)
        unfold sameAt
        cases sameD h h' b with
        | isTrue _ => exact ih
        | isFalse hn => exact absurd (SameC.of hb) hn
  unfold chk
  rw [e]; simp only [this]
/-! Maps. -/
theorem Wp_chkB {k : Nat} {m : M α} {h : AHeap} {Q : α → AHeap → Prop} (hm : Wp m h fun x h1 => BP k m h x h1 ∧ Q x h1) : Wp (chkB k m) h Q := by
  obtain ⟨x, h1, e, hb, q⟩ := hm
  refine ⟨x, h1, ?_, q⟩
  unfold chkB
  rw [e]
  simp only
  split
  · rfl
  · rename_i hn _; exact absurd hb hn
theorem Wp_nnF {x : Value} {h : AHeap} {Q : Unit → AHeap → Prop} : Wp (nnF x) h Q ↔ (∃ f fs cs, x = .func (.func f) fs cs) ∧ Q () h := by
  constructor
  · rintro ⟨y, h', e, q⟩
    unfold nnF at e
    grind
  · rintro ⟨⟨f, fs, cs, rfl⟩, q⟩; exact ⟨(), h, rfl, q⟩
theorem Wp_nnF' {f : FuncId} {fs cs : Array Value} {h : AHeap} {Q : Unit → AHeap → Prop} : Wp (nnF (.func (.func f) fs cs)) h Q ↔ Q () h := by simp [Wp_nnF]
theorem Wp_asFn {cs : List Ty} {x : Value} {c : TsDen cs} {h : AHeap} {Q : TsDen cs → AHeap → Prop} (hx : unTs cs (capsOf x) = some c) (q : Q c h) : Wp (asFn cs x) h Q :=
  ⟨c, h, by unfold asFn; rw [hx], q⟩
/-! Flat keys. -/
theorem eqK_of {k k' : IntKind} (h : eqK k k' = true) : k = k' := by cases k <;> cases k' <;> simp_all [eqK, kcode]
theorem eqS_of {a b : ByteArray} (h : eqS a b = true) : a = b := by
  rw [eqS_def] at h
  have h := beq_iff_eq.1 h
  rw [ByteArray.toList_eq, ByteArray.toList_eq] at h
  cases a; cases b
  simp at h
  rw [h]
theorem veq1_of {v u : Value} (h : veq1 v u = true) : v = u := by
  cases v <;> cases u <;> simp only [veq1, Bool.and_eq_true, decide_eq_true_eq] at h <;> try cases h
  · rename_i a b; simp at h; rw [h]
  · rename_i h1 h2; rw [eqK_of h1, h2]
  · rw [eqS_of h]
theorem veqs_of : ∀ {xs ys : List Value}, veqs xs ys = true → xs = ys
  | [], [], _ => rfl
  | [], _ :: _, h => by cases h
  | _ :: _, [], h => by cases h
  | x :: xs, y :: ys, h => by
    simp only [veqs, Bool.and_eq_true] at h
    rw [veq1_of h.1, veqs_of h.2]
theorem veq_of {x y : Value} (h : veq x y = true) : x = y := by
  unfold veq at h
  grind [Array.toList_inj, veqs_of, veq1_of]
theorem mfindE_put {k v k' : Value} {c : Nat} : ∀ {es : List AEnt}, mfind k' (mput k v c es) = if veq k' k then some v else mfind k' es
  | [] => by simp only [mput, mfind, mfindE]; cases veq k' k <;> rfl
  | e :: r => by
    have ih := mfindE_put (k := k) (v := v) (k' := k') (c := c) (es := r)
    simp only [mput]
    cases hq : veq k e.key
    · simp only [mfind, mfindE] at ih ⊢
      cases h2 : veq k' e.key
      · simp only; exact ih
      grind [veq_of, veq]
    grind [veq_of, mfind, mfindE, veq]
theorem mput_len {k v : Value} {c : Nat} : ∀ {es : List AEnt}, (mput k v c es).length = if (mfindE k es).isSome then es.length else es.length + 1
  | [] => rfl
  | e :: r => by
    have ih := mput_len (k := k) (v := v) (c := c) (es := r)
    by_cases hq : veq k e.key = true
    · simp [mput, mfindE, hq]
    · have hq : veq k e.key = false := by simpa using hq
      grind [mput, mfindE, List.length_cons]
/-- The stamps are below the clock, and each stands once. -/
def Stamps (c : Nat) : List AEnt → Prop
  | [] => True
  | e :: r => e.born < c ∧ (∀ x ∈ r, x.born ≠ e.born) ∧ Stamps c r
theorem Stamps.mono {c c' : Nat} (hc : c ≤ c') : ∀ {es : List AEnt}, Stamps c es → Stamps c' es
  | [], _ => trivial
  | e :: r, h => ⟨Nat.lt_of_lt_of_le h.1 hc, h.2.1, Stamps.mono hc h.2.2⟩
theorem Stamps.lt {c : Nat} : ∀ {es : List AEnt}, Stamps c es → ∀ e ∈ es, e.born < c
  | [], _ => by simp
  | e :: r, h => fun x hx => by
    rcases List.mem_cons.1 hx with rfl | hx
    · exact h.1
    · exact Stamps.lt h.2.2 x hx
theorem mput_born {k v : Value} {c : Nat} : ∀ {es : List AEnt}, ∀ x ∈ mput k v c es, (∃ y ∈ es, x.born = y.born) ∨ x.born = c
  | [] => by simp [mput]
  | e :: r => by
    intro x hx
    simp only [mput] at hx
    split at hx
    · grind
    · rcases List.mem_cons.1 hx with rfl | hx
      · exact .inl ⟨x, by simp, rfl⟩
      · rcases mput_born x hx with ⟨y, h1, h2⟩ | h1
        · exact .inl ⟨y, List.mem_cons_of_mem _ h1, h2⟩
        · exact .inr h1
theorem Stamps.put {k v : Value} {c c' : Nat} (hc : c ≤ c') : ∀ {es : List AEnt}, Stamps c es → (mfindE k es = none → c < c') → Stamps c' (mput k v c es)
  | [], _, h => ⟨h rfl, by simp, trivial⟩
  | e :: r, hs, h => by
    simp only [mput]
    simp only [mfindE] at h
    cases hq : veq k e.key
    · rw [hq] at h
      refine ⟨Nat.lt_of_lt_of_le hs.1 hc, fun x hx => ?_, Stamps.put hc hs.2.2 h⟩
      rcases mput_born x hx with ⟨y, h1, h2⟩ | h1
      · rw [h2]; exact hs.2.1 y h1
      · rw [h1]; have := hs.1; omega
    · exact ⟨Nat.lt_of_lt_of_le hs.1 hc, hs.2.1, hs.2.2.mono hc⟩
/-- A map that the heap holds: its values by its keys, and how many it has. -/
structure MB (h : AHeap) (m : Nat) (kt : TypeId) (f : Value → Option Value) (n : Nat) : Prop where
  ex : ∃ c es, h.mget m = some ⟨kt, c, es⟩ ∧ Stamps c es ∧ (∀ k, mfind k es = f k) ∧ es.length = n
theorem MB.lt {h : AHeap} {m : Nat} {kt : TypeId} {f : Value → Option Value} {n : Nat} (l : MB h m kt f n) (hw : WF h) : m < h.next := by
  obtain ⟨c, es, h1, _⟩ := l.ex
  exact hw.mlt h1
theorem MB.fr {h h' : AHeap} {m : Nat} {kt : TypeId} {f : Value → Option Value} {n : Nat} {X : Nat → Prop} (l : MB h m kt f n) (fr : Fr X h h') (hx : ¬ X (m + 1)) : MB h' m kt f n := by
  obtain ⟨c, es, h1, h2⟩ := l.ex
  exact ⟨c, es, fr.maps _ _ h1 hx, h2⟩
theorem ments_of {h : AHeap} {m : Nat} {kt : TypeId} {c : Nat} {es : List AEnt} (hm : h.mget m = some ⟨kt, c, es⟩) : h.ments kt m = some (c, es) := by
  unfold AHeap.ments; rw [hm]; simp [beq_self]
theorem Wp_mpNew {kt : TypeId} {h : AHeap} (hw : WF h) {Q : Nat → AHeap → Prop} (hq : ∀ h', MB h' h.next kt (fun _ => none) 0 → Fr (fun _ => False) h h' → Q h.next h') : Wp (mpNew kt) h Q := by
  refine ⟨_, _, rfl, hq _ ⟨0, [], by simp [AHeap.mset, beq_self], trivial, fun _ => rfl, rfl⟩ ⟨⟨fun j hj => ?_, fun j hj => ?_, fun j c g b e hj => ?_, fun j hj => ?_⟩, Nat.le_succ _, fun _ _ _ _ _ e _ => e, fun _ _ _ => rfl, fun j hj => ?_, fun _ _ e => e, fun j x hj _ => ?_⟩⟩
  · exact hw.get j (by simp at hj; omega)
  · simp at hj; simp [beq_ne (show j ≠ h.next by omega)]; exact hw.used j (by omega)
  · exact Nat.le_trans (hw.grp j c g b e hj) (by simp)
  · simp at hj; simp [AHeap.mset, beq_ne (show j ≠ h.next by omega)]; exact hw.maps j (by omega)
  · simp [beq_ne (show j ≠ h.next by omega)]
  · have := hw.mlt hj
    simp [AHeap.mset, beq_ne (show j ≠ h.next by omega)]; exact hj
theorem Fr.mset {h : AHeap} (hw : WF h) {m : Nat} {x : AMap} (hlt : m < h.next) : Fr (· = m + 1) h (h.mset m x) := by
  refine ⟨⟨hw.get, hw.used, hw.grp, fun j hj => ?_⟩, Nat.le_refl _, fun _ _ _ _ _ e _ => e, fun _ _ _ => rfl, fun _ _ => rfl, fun _ _ e => e, fun j x hj hx => ?_⟩
  · have hj : h.next ≤ j := hj
    simp [AHeap.mset, beq_ne (show j ≠ m by omega)]; exact hw.maps j hj
  grind [AHeap.mset, beq_ne]
theorem MB.gets {h : AHeap} {m : Nat} {kt : TypeId} {f : Value → Option Value} {n : Nat} (l : MB h m kt f n) {T : Ty} {z : T.den} {k : Value} {Q : Bool × T.den → AHeap → Prop}
    (h1 : ∀ v, f k = some v → ∃ x, unT T v = some x ∧ Q (true, x) h) (h2 : f k = none → Q (false, z) h) : Wp (mpGet kt T z (some m) k) h Q := by
  obtain ⟨c, es, e1, _, e2, _⟩ := l.ex
  unfold Wp mpGet
  simp only [ments_of e1, e2]
  grind
def mupd (f : Value → Option Value) (k v : Value) : Value → Option Value := fun k' => if veq k' k then some v else f k'
theorem mfindE_none {k : Value} {es : List AEnt} (h : mfind k es = none) : mfindE k es = none := by
  unfold mfind at h; simpa using h
theorem MB.sets {h : AHeap} {m : Nat} {kt : TypeId} {f : Value → Option Value} {n : Nat} (l : MB h m kt f n) (hw : WF h) {k v : Value} {Q : Unit → AHeap → Prop}
    (hq : ∀ h', MB h' m kt (mupd f k v) (if (f k).isSome then n else n + 1) → Fr (· = m + 1) h h' → Q () h') : Wp (mpSet kt (some m) k v) h Q := by
  have hlt := l.lt hw
  obtain ⟨c, es, e1, e3, e2, e4⟩ := l.ex
  unfold Wp mpSet
  simp only [ments_of e1]
  have hk : (mfindE k es).isSome = (f k).isSome := by rw [← e2 k]; unfold mfind; cases mfindE k es <;> rfl
  refine ⟨(), h.mset m ⟨kt, (match mfindE k es with | some _ => c | none => c + 1), mput k v c es⟩, rfl, hq _ ⟨_, _, by simp [AHeap.mset, beq_self]; exact ⟨rfl, rfl⟩, ?_, fun k' => ?_, ?_⟩ (Fr.mset hw hlt)⟩
  · cases hm : mfindE k es with
    | none => exact e3.put (Nat.le_succ _) fun _ => Nat.lt_succ_self _
    | some x => exact e3.put (Nat.le_refl _) fun hn => by rw [hm] at hn; cases hn
  · rw [mfindE_put, e2]; rfl
  · rw [mput_len, hk, e4]
theorem MB.len {h : AHeap} {m : Nat} {kt : TypeId} {f : Value → Option Value} {n : Nat} (l : MB h m kt f n) {Q : Nat → AHeap → Prop} (q : Q n h) : Wp (mpLen (some m)) h Q := by
  obtain ⟨c, es, e1, _, _, e4⟩ := l.ex
  exact ⟨n, h, by unfold mpLen; simp only [e1, e4], q⟩
/-- The stamp of a key's entry. -/
def Stamp (h : AHeap) (m : Nat) (k : Value) (st : Nat) : Prop := ∃ x, h.mget m = some x ∧ ∃ e, mfindE k x.es = some e ∧ e.born = st
theorem Stamp.fr {h h' : AHeap} {m : Nat} {k : Value} {st : Nat} {X : Nat → Prop} (l : Stamp h m k st) (fr : Fr X h h') (hx : ¬ X (m + 1)) : Stamp h' m k st := by
  obtain ⟨x, h1, h2⟩ := l
  exact ⟨x, fr.maps _ _ h1 hx, h2⟩
theorem mfindE_new {k v : Value} {c : Nat} (hk : veq k k = true) : ∀ {es : List AEnt}, mfindE k es = none → mfindE k (mput k v c es) = some ⟨k, v, c⟩
  | [], _ => by simp [mput, mfindE, hk]
  | e :: r, h => by
    simp only [mfindE] at h
    simp only [mput]
    cases hq : veq k e.key
    · rw [hq] at h
      simp only [mfindE, hq]
      exact mfindE_new hk h
    · rw [hq] at h; cases h
theorem MB.entry {h : AHeap} {m : Nat} {kt : TypeId} {f : Value → Option Value} {n : Nat} (l : MB h m kt f n) (hw : WF h) {T : Ty} {z : T.den} {k : Value} (hk : veq k k = true) {Q : T.den × Nat → AHeap → Prop}
    (h1 : ∀ v, f k = some v → ∃ x, unT T v = some x ∧ ∀ st, Stamp h m k st → Q (x, st) h)
    (h2 : f k = none → ∀ h' st, MB h' m kt (mupd f k (pkT T z)) (n + 1) → Stamp h' m k st → Fr (· = m + 1) h h' → Q (z, st) h') : Wp (mpEntry kt T z (some m) k) h Q := by
  have hlt := l.lt hw
  obtain ⟨c, es, e1, e3, e2, e4⟩ := l.ex
  unfold Wp mpEntry
  simp only [ments_of e1]
  cases hm : mfindE k es with
  | none =>
    have hf : f k = none := by rw [← e2]; unfold mfind; rw [hm]; rfl
    refine ⟨_, _, rfl, h2 hf _ _ ⟨c + 1, mput k (pkT T z) c es, by simp [AHeap.mset, beq_self], e3.put (Nat.le_succ _) fun _ => Nat.lt_succ_self _, fun k' => ?_, ?_⟩ ⟨⟨kt, c + 1, mput k (pkT T z) c es⟩, by simp [AHeap.mset, beq_self], ⟨k, pkT T z, c⟩, mfindE_new hk hm, rfl⟩ (Fr.mset hw hlt)⟩
    · rw [mfindE_put, e2]; rfl
    · rw [mput_len, hm, e4]; rfl
  | some e =>
    have hf : f k = some e.val := by rw [← e2]; unfold mfind; rw [hm]; rfl
    obtain ⟨x, hx, q⟩ := h1 _ hf
    simp only [hx]
    exact ⟨_, _, rfl, q _ ⟨_, e1, e, hm, rfl⟩⟩
theorem mputB_spec {k v : Value} {c : Nat} : ∀ {es : List AEnt} {e : AEnt}, Stamps c es → mfindE k es = some e → mputB e.born v es = some (mput k v c es)
  | [], e, _, h => by cases h
  | x :: r, e, hs, h => by
    simp only [mfindE] at h
    simp only [mputB, mput]
    cases hq : veq k x.key
    · rw [hq] at h
      have hmem : ∀ {es : List AEnt}, mfindE k es = some e → e ∈ es := by
        intro es
        induction es with
        | nil => intro h; cases h
        | cons y r ih =>
          grind [mfindE, List.mem_cons_of_mem]
      have hne := hs.2.1 e (hmem h)
      rw [beq_ne (fun e2 => hne e2.symm)]
      simp only
      rw [mputB_spec hs.2.2 h]
    grind [beq_self, veq_of]
theorem MB.store {h : AHeap} {m : Nat} {kt : TypeId} {f : Value → Option Value} {n : Nat} (l : MB h m kt f n) (hw : WF h) {k v : Value} {st : Nat} (hs : Stamp h m k st) {Q : Unit → AHeap → Prop}
    (hq : ∀ h', MB h' m kt (mupd f k v) n → Fr (· = m + 1) h h' → Q () h') : Wp (mpStore (some m) (st : Int) v) h Q := by
  have hlt := l.lt hw
  obtain ⟨c, es, e1, e3, e2, e4⟩ := l.ex
  obtain ⟨x, h1, e, h2, rfl⟩ := hs
  rw [e1] at h1; cases h1
  have hp := mputB_spec (v := v) e3 h2
  have hd : decide (0 ≤ ((e.born : Nat) : Int)) = true := by simp
  unfold Wp mpStore
  simp only [e1, hd, Int.toNat_natCast, hp]
  refine ⟨(), h.mset m ⟨kt, c, mput k v c es⟩, rfl, hq _ ⟨c, mput k v c es, by simp [AHeap.mset, beq_self], e3.put (Nat.le_refl _) (fun hn => by simp only at h2; rw [h2] at hn; cases hn), fun k' => ?_, ?_⟩ (Fr.mset hw hlt)⟩
  · rw [mfindE_put, e2]; rfl
  · simp only at h2
    rw [mput_len, h2, e4]; rfl
end Go.Ago
