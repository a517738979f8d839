/-
Functions that neither look at maps nor at names that are kept. No theorem about what the program computes stands here.
-/
import Derived.Test.YtnkemhepkppkoaaGreatDoorSh0
set_option linter.all false
namespace Go.Ago
open Go
variable {α β : Type}
theorem MoM.bind {m : M α} {f : α → M β} (hm : MoM m) (hf : ∀ a, MoM (f a)) : MoM (M.bind m f) := by
  refine ⟨fun h k kt x h2 u e => ?_, fun h x h1 e => ?_⟩
  · unfold M.bind at e ⊢
    cases he : m (h.mkm k kt) with
    | none => rw [he] at e; cases e
    | some p =>
      obtain ⟨a, h3⟩ := p
      rw [he] at e
      obtain ⟨h1, q1, q2, rfl⟩ := hm.1 h k kt a h3 u he
      rw [q1]
      exact (hf a).1 h1 k kt x h2 q2 e
  · unfold M.bind at e
    cases he : m h with
    | none => rw [he] at e; cases e
    | some p =>
      obtain ⟨a, h3⟩ := p
      rw [he] at e
      exact ((hf a).2 h3 x h1 e).trans (hm.2 h a h3 he)
theorem MoM.pure (a : α) : MoM (M.pure a) := ⟨fun h k kt x h2 u e => by cases e; exact ⟨h, rfl, u, rfl⟩, fun h x h1 e => by cases e; rfl⟩
theorem MoM.same {m : M α} (hm : ∀ h k kt x h2, m (AHeap.mkm h k kt) = some (x, h2) → h2 = AHeap.mkm h k kt ∧ m h = some (x, h)) (hk : ∀ h x h1, m h = some (x, h1) → h1 = h) : MoM m :=
  ⟨fun h k kt x h2 u e => by
    obtain ⟨rfl, e2⟩ := hm h k kt x h2 e
    exact ⟨h, e2, u, rfl⟩, fun h x h1 e => by rw [hk h x h1 e]⟩
theorem MoM.ldL (l : Leaf) (a : Addr) : MoM (ldL l a) := by
  refine .same (fun h k kt x h2 e => ?_) fun h x h1 e => ?_
  · unfold Ago.ldL at e ⊢
    have : (h.mkm k kt).cell a = h.cell a := rfl
    rw [this] at e
    split at e
    · split at e
      · rename_i hu; cases e; exact ⟨rfl, by simp only [hu]⟩
      · cases e
    · cases e
  · unfold Ago.ldL at e
    split at e
    · split at e
      · cases e; rfl
      · cases e
    · cases e
theorem MoM.ldLs (ls : List Leaf) (a : Addr) : MoM (ldLs ls a) := by
  refine .same (fun h k kt x h2 e => ?_) fun h x h1 e => ?_
  · unfold Ago.ldLs at e ⊢
    have : cellsAt (h.mkm k kt) (some a) ls.length = cellsAt h (some a) ls.length := rfl
    rw [this] at e
    split at e
    · split at e
      · rename_i hu; cases e; exact ⟨rfl, by simp only [hu]⟩
      · cases e
    · cases e
  · unfold Ago.ldLs at e
    split at e
    · split at e
      · cases e; rfl
      · cases e
    · cases e
theorem MoM.nn (p : Option Addr) : MoM (nn p) := by
  cases p with
  | none => exact ⟨fun h k kt x h2 u e => (by cases e), fun h x h1 e => (by cases e)⟩
  | some a => exact ⟨fun h k kt x h2 u e => (by cases e; exact ⟨h, rfl, u, rfl⟩), fun h x h1 e => (by cases e; rfl)⟩
theorem cb {j k m : Nat} {b : Bool} : cond (Nat.beq j m) true (cond (Nat.beq j k) true b) = cond (Nat.beq j k) true (cond (Nat.beq j m) true b) := by
  cases Nat.beq j m <;> cases Nat.beq j k <;> rfl
theorem MoM.newB (t : TypeId) (cs : List Value) : MoM (newB none t cs) := by
  refine ⟨fun h k kt x h2 u e => ?_, fun h x h1 e => ?_⟩
  · unfold Ago.newB at e ⊢
    split at e
    · rename_i hs
      rw [if_pos hs]
      cases e
      obtain ⟨u1, u2, u3, u4⟩ := u
      have hne : Nat.beq k h.next = false := by cases q : Nat.beq k h.next <;> grind [Nat.eq_of_beq_eq_true]
      refine ⟨h.new t cs, rfl, ⟨by simp [AHeap.new, AHeap.putB, hne, u1], by show k < h.next + 1; omega, u3, by simp [AHeap.new, AHeap.putB, hne, u4]⟩, ?_⟩
      unfold AHeap.new AHeap.putB AHeap.mkm AHeap.mset
      simp only [AHeap.mk.injEq, true_and, and_true]
      funext j
      exact cb
    · cases e
  · unfold Ago.newB at e
    split at e
    · cases e; rfl
    · cases e
theorem MoM.stN (a : Addr) (vs : List Value) : MoM (stN a vs) := by
  refine ⟨fun h k kt x h2 u e => ?_, fun h x h1 e => ?_⟩
  · unfold Ago.stN at e ⊢
    have hg : (h.mkm k kt).get = h.get := rfl
    rw [hg] at e
    split at e
    · rename_i c g base el hb
      split at e
      · rename_i hc
        cases e
        obtain ⟨u1, u2, u3, u4⟩ := u
        simp only [if_pos hc]
        have hne : Nat.beq k a.block = false := by
          cases q : Nat.beq k a.block
          · rfl
          · rw [Nat.eq_of_beq_eq_true q, hb] at u4; cases u4
        exact ⟨_, rfl, ⟨u1, u2, u3, by simp [AHeap.upd, hne, u4]⟩, rfl⟩
      · cases e
    · cases e
  · unfold Ago.stN at e
    split at e
    · split at e
      · cases e; rfl
      · cases e
    · cases e
theorem app0_mo {s : Sl} {sz : Nat} {el : TypeId} {n : Nat} {new : List Value} {h : AHeap} {k : Nat} {kt : TypeId} {r : Sl} {h2 : AHeap} (u : h.fresh k) (e : app0 true s sz el n new (h.mkm k kt) = some (r, h2)) :
    ∃ h1, app0 true s sz el n new h = some (r, h1) ∧ h1.fresh k ∧ h2 = h1.mkm k kt := by
  obtain ⟨u1, u2, u3, u4⟩ := u
  have hne : Nat.beq k h.next = false := by cases q : Nat.beq k h.next <;> grind [Nat.eq_of_beq_eq_true]
  have hnew : ∀ (cs : List Value), (h.new el cs).fresh k ∧ (h.mkm k kt).new el cs = (h.new el cs).mkm k kt := fun cs => by
    refine ⟨⟨by simp [AHeap.new, AHeap.putB, hne, u1], by show k < h.next + 1; omega, u3, by simp [AHeap.new, AHeap.putB, hne, u4]⟩, ?_⟩
    unfold AHeap.new AHeap.putB AHeap.mkm AHeap.mset
    simp only [AHeap.mk.injEq, true_and, and_true]
    funext j
    exact cb
  have hg : (h.mkm k kt).get = h.get := rfl
  have hx : (h.mkm k kt).next = h.next := rfl
  have ht : (h.mkm k kt).tip = h.tip := rfl
  have hc : ∀ a n, cellsAt (h.mkm k kt) a n = cellsAt h a n := fun _ _ => rfl
  unfold app0 at e ⊢
  simp only [hg, hx, ht, hc] at e
  repeat' split at e
  all_goals first
    | (cases e; done)
    | (cases e; simp_all [AHeap.fresh]; done)
    | skip
  all_goals (cases e; simp only [*, if_true, if_false, ne_eq, not_false_eq_true, not_true_eq_false, reduceIte, false_and, true_and, and_self, and_true])
  all_goals first
    | exact ⟨_, rfl, (hnew _).1, (hnew _).2⟩
    | refine ⟨_, rfl, ⟨by simp [hne, u1], Nat.lt_succ_of_lt u2, u3, by simp [hne, u4]⟩, ?_⟩
  all_goals
    unfold AHeap.mkm AHeap.mset
    simp only [AHeap.mk.injEq, true_and, and_true]
    funext j
    exact cb
theorem MoM.app (s : Sl) (sz : Nat) (el : TypeId) (n : Nat) (new : List Value) : MoM (app true s sz el n new) := by
  refine ⟨fun h k kt x h2 u e => ?_, fun h x h1 e => app_m e⟩
  unfold Ago.app at e ⊢
  have hg : (h.mkm k kt).get = h.get := rfl
  have hx : (h.mkm k kt).next = h.next := rfl
  rw [hg, hx] at e
  cases hq : (true && (h.get h.next).isSome) with
  | true => rw [hq] at e; cases e
  | false => rw [hq] at e; exact app0_mo u e
end Go.Ago
namespace Go.Sh
open Go Go.Ago
theorem toml_parser_span_anti (n : Nat) (x : Option Addr × Int × Int × Int × Int × Int × Int × Int × Bool × Bool) : MoM (toml_parser_span n x.1 x.2) := by
  unfold toml_parser_span
  repeat' first
    | exact MoM.pure _
    | exact MoM.newB _ _
    | exact MoM.nn _
    | exact MoM.ldL _ _
    | exact MoM.ldLs _ _
    | exact MoM.stN _ _
    | exact MoM.app _ _ _ _ _
    | (refine MoM.bind ?_ fun _ => ?_)
end Go.Sh
