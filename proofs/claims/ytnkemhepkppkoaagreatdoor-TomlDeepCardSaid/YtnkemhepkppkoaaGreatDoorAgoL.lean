/-
The library's functions by their contracts: a call that leaves what was there, and a block that the abstract side does not look into. No theorem about the program stands here.
-/
import Derived.Test.YtnkemhepkppkoaaGreatDoorAgoI
import Derived.Below
set_option linter.all false
namespace Go.Ago
open Go Go.RowKit
variable {P : Program} {F : Fz} {ι ι' : IMap} {h h' h1 : AHeap} {w w' : World}

theorem Rel.below (R : Rel P F ι h w) (hb : Below w.heap.size w w') : Rel P F ι h w' := by
  have hlt : ∀ (i : Nat) o, w.heap[i]? = some o → w'.heap[i]? = some o := fun i o hi => by
    rw [hb.block i (Array.getElem?_eq_some_iff.1 hi).1]; exact hi
  have hcell : ∀ a v, w.cell? a = some v → w'.cell? a = some v := by
    intro a v ha
    unfold World.cell? at ha ⊢
    split at ha
    · rename_i hh; rw [hlt _ _ hh]; exact ha
    · cases ha
  refine ⟨fun i o hi => hlt i o (R.old i o hi), R.dom, R.nx, fun b l hl => ?_, fun b c g base e hb' => ?_, R.grp, R.tip, ⟨hb.os.trans R.os.1, hb.output.trans R.os.2⟩, R.lib, R.mp.keep rfl (fun _ x => x) (.refl _) rfl fun r es c hr => hlt _ _ hr⟩
  · obtain ⟨cc, fz, q1, q2⟩ := R.loc b l hl
    exact ⟨cc, fz, hlt _ _ q1, q2⟩
  · obtain ⟨l, q1, q2, q3, q4, q5⟩ := R.live b c g base e hb'
    exact ⟨l, q1, q2, q3, q4, fun i v hv => let ⟨v', a, b⟩ := q5 i v hv; ⟨v', hcell _ _ a, b⟩⟩
/-- A new block that the abstract side does not look into. -/
def opq : M Nat := fun h => some (h.next, { h with next := h.next + 1, used := fun j => cond (Nat.beq j h.next) true (h.used j) })
theorem Rel.opq (R : Rel P F ι h w) {N : Nat} {cc : Array Value} {el : TypeId} {fz : Nat × Nat} (hN : w.heap[N]? = some (.cells cc el fz)) :
    ∃ ι', ι.le ι' ∧ ι' h.next = some ⟨N, 0, cc.size, el, true⟩ ∧ Rel P F ι' { h with next := h.next + 1, used := fun j => cond (Nat.beq j h.next) true (h.used j) } w := by
  have hn := R.dom h.next (R.nx _ (Nat.le_refl _))
  have hle : ι.le ⟨fun b => if b = h.next then some ⟨N, 0, cc.size, el, true⟩ else ι b, ι.mp⟩ := by
    refine ⟨fun b l hl => ?_, fun _ _ x => x⟩
    have : b ≠ h.next := fun he => by rw [he, hn.2] at hl; cases hl
    simp [this, hl]
  refine ⟨_, hle, by simp, ?_⟩
  constructor
  · exact R.old
  · intro b hb
    simp only [cond_beq] at hb
    by_cases h1 : b = h.next
    · rw [if_pos h1] at hb; cases hb
    · rw [if_neg h1] at hb
      simp [h1]; exact R.dom b hb
  · intro b hb
    simp only at hb
    simp only [cond_beq]
    rw [if_neg (by omega)]; exact R.nx b (by omega)
  · intro b l hl
    by_cases h1 : b = h.next
    · simp [h1] at hl; subst hl
      exact ⟨cc, fz, hN, rfl, fun h => by cases h⟩
    · simp [h1] at hl
      obtain ⟨c1, f1, q1, q2, q3⟩ := R.loc b l hl
      refine ⟨c1, f1, q1, q2, fun x => ⟨(q3 x).1, fun hv => (q3 x).2 (hv.to fun b2 l2 c g base e p1 p2 _ => ?_)⟩⟩
      have p2 : h.get b2 = some (.cells c g base e) := p2
      have n1 : b2 ≠ h.next := fun he => by rw [he, hn.1] at p2; cases p2
      simp [n1] at p1
      exact ⟨c, g, base, e, p1, p2⟩
  · intro b c g base e hb
    obtain ⟨l, q1, q2, q3, q4, q5⟩ := R.live b c g base e hb
    exact ⟨l, hle.1 _ _ q1, q2, q3, q4, fun i v hv => let ⟨v', a, b⟩ := q5 i v hv; ⟨v', a, b.1, b.2.mono hle⟩⟩
  · intro b b' l l' c g base e c' g' base' e' hl hl' hro hb hb' hbl
    have n1 : b ≠ h.next := fun he => by rw [he, hn.1] at hb; cases hb
    have n2 : b' ≠ h.next := fun he => by rw [he, hn.1] at hb'; cases hb'
    simp [n1] at hl; simp [n2] at hl'
    exact R.grp b b' l l' c g base e c' g' base' e' hl hl' hro hb hb' hbl
  · intro b c g base e hb hg
    obtain ⟨q1, q2⟩ := R.tip b c g base e hb hg
    refine ⟨q1, ?_⟩
    simp only [cond_beq]; split
    · rfl
    · exact q2
  · exact R.os
  · exact R.lib
  · exact R.mp.keep rfl (fun m hm => by
      simp only [cond_beq] at hm
      split at hm
      · cases hm
      · exact hm) hle rfl fun _ _ _ x => x
theorem LRel.flatEq {l l' : List Value} (hl : LRel P ι l l') (hf : l.all flat1 = true) : l' = l := by
  apply List.ext_getElem?
  intro i
  by_cases hi : i < l.length
  · have hi' : i < l'.length := by rw [← hl.1]; exact hi
    have h1 := hl.2 i l[i] l'[i] (List.getElem?_eq_getElem hi) (List.getElem?_eq_getElem hi')
    have hfi : flat1 l[i] = true := List.all_eq_true.1 hf _ (List.getElem_mem hi)
    rw [List.getElem?_eq_getElem hi, List.getElem?_eq_getElem hi']
    generalize l[i] = v at *
    generalize l'[i] = v' at *
    cases h1 <;> first | rfl | simp [flat1] at hfi
  · have hlen := hl.1
    rw [List.getElem?_eq_none (by omega), List.getElem?_eq_none (by omega)]
theorem LRel.flatArr {l : List Value} {vs : Array Value} (hl : LRel P ι l vs.toList) (hf : l.all flat1 = true) : vs = l.toArray := by
  rw [← LRel.flatEq hl hf, Array.toArray_toList]
/-- What a call that makes nothing of its own hands back. -/
theorem call_pure {f : FuncId} {vs : Array Value} {v : Value} (R : Rel P F ι h w) (hv : VRel P ι v v) (hc : Calls P f vs w fun e w' => e = .returned v ∧ Below w.heap.size w w') :
    Calls P f vs w fun e w' => ∃ v' ι', e = .returned v' ∧ VRel P ι' v v' ∧ Rel P F ι' h w' ∧ ι.le ι' :=
  hc.mono fun _ _ hx => ⟨v, ι, hx.1, hv, R.below hx.2, .refl _⟩
end Go.Ago
