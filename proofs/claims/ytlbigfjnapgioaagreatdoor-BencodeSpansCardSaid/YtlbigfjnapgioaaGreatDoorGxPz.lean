/-
Two tables that are the same are found identical.
-/
import Derived.Test.YtlbigfjnapgioaaGreatDoorGmPz
import Derived.Test.YtlbigfjnapgioaaGreatDoorSh2Pz
set_option linter.all false
namespace Go.Sh
open Go Go.Ago Go.Proofs
variable {α β : Type} {h h' h0 : AHeap} {L : List Own} {Q : β → AHeap → Prop}
theorem Ints_L0 {s1 s2 : Sl} {xs : List Int} (i1 : IL h s1 xs) (i2 : IL h s2 xs) (hl : xs.length < 1073741824) :
    ∀ (n i : Nat), xs.length - i < n → i ≤ xs.length → Wp (rosettaref10_Ints_L0 n s1 s2 (i : Int)) h fun y h' => y = .inl () ∧ h' = h := by
  intro n
  induction n with
  | zero => intro i h1; omega
  | succ n ih =>
    intro i h1 h2
    rw [rosettaref10_Ints_L0_succ]
    unfold rosettaref10_Ints_L0_B
    rw [i1.len]
    by_cases hi : i < xs.length
    · rw [if_pos (by simp; omega)]
      obtain ⟨x, hx⟩ := getI hi
      refine i1.ix (by omega) (by simpa using hx) fun a1 g1 c1 => ?_
      refine i2.ix (by omega) (by simpa using hx) fun a2 g2 c2 => ?_
      refine c1.ld0 (l := li) rfl rfl (c2.ld0 (l := li) rfl rfl ?_)
      rw [if_neg (by simp), up1 h2 (by omega)]
      exact ih (i + 1) (by omega) (by omega)
    · rw [if_neg (by simp; omega), Wp_pure]; exact ⟨rfl, rfl⟩
theorem Ints_wp {s1 s2 : Sl} {xs : List Int} (i1 : IL h s1 xs) (i2 : IL h s2 xs) (hl : xs.length < 1073741824) {n : Nat} (hn : xs.length < n) : Wp (rosettaref10_Ints n s1 s2) h fun y h' => y = true ∧ h' = h := by
  unfold rosettaref10_Ints
  rw [i1.len, i2.len, if_neg (by simp), Wp_bind]
  refine (Ints_L0 i1 i2 hl n 0 (by omega) (by omega)).mono fun y h' hy => ?_
  obtain ⟨rfl, rfl⟩ := hy
  exact Wp_pure.2 ⟨rfl, rfl⟩
theorem Ident_L0 {s1 s2 : Sl} {r : Int} {N : List NodeV} (G1 : GrR h0 s1 N) (G2 : GrR h0 s2 N) {B : Nat} (hB : Bd N B) {b0 b1 : Nat} :
    ∀ (n i : Nat) (h : AHeap) (L : List Own), N.length - i + B + 2 < n → i ≤ N.length → Z h0 h (.blk b1 [vsl s2, vi r] T_api_Graph :: .blk b0 [vsl s1, vi r] T_api_Graph :: L) →
      Wp (rosettaref10_Identical_L0 n (adr b0) (adr b1) (i : Int)) h fun y h' => y = .inl () ∧ Z h0 h' (.blk b1 [vsl s2, vi r] T_api_Graph :: .blk b0 [vsl s1, vi r] T_api_Graph :: L) := by
  have hBB := hB.2.1
  have hNB := hB.1
  intro n
  induction n with
  | zero => intro i h L h1; omega
  | succ n ih =>
    intro i h L h1 h2 z
    rw [rosettaref10_Identical_L0_succ]
    unfold rosettaref10_Identical_L0_B
    refine z.ld 1 (o := 0) (l := .sl) (x := s1) ?_
    rw [G1.len]
    by_cases hi : i < N.length
    · rw [if_pos (by simp; omega)]
      obtain ⟨x, hx⟩ := getI hi
      have hb := hB.2.2 x (List.mem_of_getElem? hx)
      refine z.reserve [10, 11] (by decide) (by decide) fun nb h3 z => ?_
      refine z.ld 3 (o := 0) (l := .sl) (x := s1) ?_
      refine G1.at0 z (by omega) (by simpa using hx) fun a1 k1 j1 n1 => (n1.fr z.fr).lds ?_
      refine z.ld 2 (o := 0) (l := .sl) (x := s2) ?_
      refine G2.at0 z (by omega) (by simpa using hx) fun a2 k2 j2 n2 => (n2.fr z.fr).lds ?_
      refine z.newAt 0 fun h4 z => z.newAt 1 fun h5 z => ?_
      refine z.stC 0 ?_ fun h6 z => z.st 1 fun h7 z => ?_
      · intro a' ha'
        simp only [List.mem_cons, Option.some.injEq, List.not_mem_nil, or_false] at ha'
        rcases ha' with rfl | rfl
        · exact z.nbO 0 2 rfl rfl (by decide)
        · obtain ⟨g, c⟩ := n2.cl
          exact z.nb0 0 c rfl
      refine z.ld 0 (o := 0) (l := li) (x := x.kind) ?_
      refine z.ld 1 (o := 0) (l := li) (x := x.kind) ?_
      rw [if_neg (by simp)]
      refine z.ld 0 (o := 1) (l := .str) (x := x.text) ?_
      refine z.ld 1 (o := 1) (l := .str) (x := x.text) ?_
      rw [eqS_rfl, if_neg (by simp)]
      refine z.ld 0 (o := 2) (l := .bool) (x := x.ord) ?_
      refine z.ld 1 (o := 2) (l := .bool) (x := x.ord) ?_
      rw [if_neg (by simp)]
      refine z.ld 0 (o := 3) (l := .sl) (x := k1) ?_
      refine z.ld 1 (o := 3) (l := .sl) (x := k2) ?_
      rw [Wp_bind]
      refine (Ints_wp (n1.keys.fr z.fr) (n2.keys.fr z.fr) (by omega) (by omega)).mono fun y h8 hy => ?_
      obtain ⟨rfl, rfl⟩ := hy
      rw [if_neg (by simp)]
      refine z.ld 0 (o := 4) (l := .sl) (x := j1) ?_
      refine z.ld 1 (o := 4) (l := .sl) (x := j2) ?_
      rw [Wp_bind]
      refine (Ints_wp (n1.items.fr z.fr) (n2.items.fr z.fr) (by omega) (by omega)).mono fun y h9 hy => ?_
      obtain ⟨rfl, rfl⟩ := hy
      rw [if_neg (by simp), up1 h2 (by omega)]
      exact ih (i + 1) h9 L (by omega) (by omega) z.drop.drop
    · rw [if_neg (by simp; omega), Wp_pure]
      exact ⟨rfl, z⟩
theorem Ident_wp {s1 s2 : Sl} {r : Int} {N : List NodeV} (z : Z h0 h L) (G1 : GrR h0 s1 N) (G2 : GrR h0 s2 N) {B : Nat} (hB : Bd N B) {n : Nat} (hn : 2 * B + 3 < n) :
    Wp (rosettaref10_Identical n (s1, r) (s2, r)) h fun y h' => y = true ∧ Z h0 h' L := by
  have hNB := hB.1
  unfold rosettaref10_Identical
  refine z.new fun b0 h1 z _ => z.new fun b1 h2 z _ => ?_
  refine z.ld 1 (o := 0) (l := .sl) (x := s1) ?_
  refine z.ld 0 (o := 0) (l := .sl) (x := s2) ?_
  rw [G1.len, G2.len, if_neg (by simp)]
  refine z.ld 1 (o := 1) (l := li) (x := r) ?_
  refine z.ld 0 (o := 1) (l := li) (x := r) ?_
  rw [if_neg (by simp), Wp_bind]
  refine (Ident_L0 G1 G2 hB n 0 h2 L (by omega) (by omega) z).mono fun y h3 hy => ?_
  obtain ⟨rfl, z⟩ := hy
  exact Wp_pure.2 ⟨rfl, z.drop.drop⟩
end Go.Sh
