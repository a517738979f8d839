/-
The references' comparisons of documents: two documents that read alike are the same.
-/
import Derived.Test.YtcgicpibdffpfaaDoorRm
set_option linter.all false
namespace Go.Sh
open Go Go.Ago Go.Proofs
variable {h h' : AHeap} {n : Nat}
def RdI (h : AHeap) (s : Sl) (l : List Int) : Prop := s.len = l.length ∧ ∀ i v, l[i]? = some v → ∃ b o, s.a = some ⟨b, o, none⟩ ∧ h.ldI .i64 b (o + i) = some v
/-- What stays readable, whatever is made besides. -/
def Kp (R : AHeap → Prop) (h : AHeap) : Prop := ∀ h', Fr (fun _ => False) h h' → R h'
theorem Kp.go {R : AHeap → Prop} (hw : WF h) (k : Kp R h) (f : Fr (fun _ => False) h h') : Kp R h' := fun h2 f2 => k h2 (f.fresh hw f2 (fun _ e => e.elim))
theorem Kp.now {R : AHeap → Prop} (hw : WF h) (k : Kp R h) : R h := k h (Fr.refl hw)
def RdN (h : AHeap) (s : Sl) (ns : List NodeV) : Prop := s.len = ns.length ∧ ∀ i y, ns[i]? = some y → ∃ b o ks is, s.a = some ⟨b, o, none⟩ ∧
  Kp (fun h => h.lds [li, .str, .bool, .sl, .sl] b (o + i * 5) = some (y.kind, y.text, y.ord, ks, is) ∧ RdI h ks y.keys ∧ RdI h is y.items) h
def RdS (h : AHeap) (s : Sl) (ss : List SpanV) : Prop := s.len = ss.length ∧ ∀ i y, ss[i]? = some y → ∃ b o, s.a = some ⟨b, o, none⟩ ∧
  Kp (fun h => h.lds [li, li, li, li, li, li, li, .bool, .bool] b (o + i * 9) = some y.tup) h
theorem RdN.go {s : Sl} {ns : List NodeV} (hw : WF h) (r : RdN h s ns) (f : Fr (fun _ => False) h h') : RdN h' s ns := ⟨r.1, fun i y hy => by
  obtain ⟨b, o, ks, is, a, k⟩ := r.2 i y hy
  exact ⟨b, o, ks, is, a, k.go hw f⟩⟩
theorem RdS.go {s : Sl} {ns : List SpanV} (hw : WF h) (r : RdS h s ns) (f : Fr (fun _ => False) h h') : RdS h' s ns := ⟨r.1, fun i y hy => by
  obtain ⟨b, o, a, k⟩ := r.2 i y hy
  exact ⟨b, o, a, k.go hw f⟩⟩
theorem lds_get {ls : List Leaf} {b o : Nat} {x : LsDen ls} (e : h.lds ls b o = some x) : ∃ c g base el, h.get b = some (.cells c g base el) := by
  unfold AHeap.lds at e
  split at e
  · rename_i hq; exact ⟨_, _, _, _, hq⟩
  · cases e
theorem ints_L0 {s1 s2 : Sl} {l : List Int} (r1 : RdI h s1 l) (r2 : RdI h s2 l) (hb : l.length ≤ 65536) : ∀ n i, i ≤ l.length → l.length - i < n → Wp (rosettaref13_ints_L0 n s1 s2 (i : Nat)) h fun x h' => h' = h ∧ x = .inl ()
  | 0, _, _, hn => by omega
  | n + 1, i, hi, hn => by
    rw [rosettaref13_ints_L0_succ]
    unfold rosettaref13_ints_L0_B
    have l1 := r1.1
    have l2 := r2.1
    refine Wp_ite.2 ⟨fun e => ?_, fun e => ?_⟩
    · have e := of_decide_eq_true e
      have hlt : i < l.length := by omega
      obtain ⟨a1, o1, h1, d1⟩ := r1.2 i _ (List.getElem?_eq_getElem hlt)
      obtain ⟨a2, o2, h2, d2⟩ := r2.2 i _ (List.getElem?_eq_getElem hlt)
      have e2 : IntKind.i64.wrap ((i : Int) + 1) = ((i + 1 : Nat) : Int) := by rw [w64 (by omega) (by omega)]; simp
      simp only [Wp_bind, Wp_nn', Wp_ldI, Wp_ldS, Wp_ldV, Wp_ldB, Wp_idxS, Wp_sliceS, Wp_pure, plus_eq, Nat.zero_add, Nat.reduceAdd, Option.some.injEq, exists_eq_left', decide_eq_true_eq, Wp_idxA, h1, h2, exists_eq_left', Int.toNat_natCast, Nat.mul_one, d1, d2, e2]
      refine ⟨by omega, by omega, by omega, by omega, ?_⟩
      refine Wp_ite.2 ⟨fun e => by simp at e, fun _ => ints_L0 r1 r2 hb n (i + 1) (by omega) (by omega)⟩
    · rw [Wp_pure]; exact ⟨rfl, rfl⟩
theorem ints_wp {s1 s2 : Sl} {l : List Int} (r1 : RdI h s1 l) (r2 : RdI h s2 l) (hb : l.length ≤ 65536) (hn : l.length < n) : Wp (rosettaref13_ints n s1 s2) h fun x h' => h' = h ∧ x = true := by
  unfold rosettaref13_ints
  have l1 := r1.1
  have l2 := r2.1
  refine Wp_ite.2 ⟨fun e => by simp at e; omega, fun _ => ?_⟩
  rw [Wp_bind]
  refine (ints_L0 r1 r2 hb n 0 (by omega) (by omega)).mono fun x h' hx => ?_
  obtain ⟨rfl, rfl⟩ := hx
  simp only [sumElim, Wp_pure]
  exact ⟨by trivial, by trivial⟩
theorem eqS_refl (s : ByteArray) : eqS s s = true := (eqS_iff s s).2 rfl
/-- A block under a kept name. -/
theorem named {k : Nat} {e : TypeId} {cs : List Value} {h0 : AHeap} {Q : Nat → AHeap → Prop} (hw0 : WF h0) (f : Fr (fun _ => False) h0 h) (h1 : h0.next ≤ k) (h2 : k < h.next) (hu : h.used k = false) (hg : h.get k = none) (hc : cs.all scal = true)
    (hq : ∀ h', Fr (fun _ => False) h0 h' → LB h' k cs e → h'.next = h.next → (∀ j, j ≠ k → h'.get j = h.get j ∧ h'.used j = h.used j) → Q k h') : Wp (newB (some k) e cs) h Q := by
  rw [Wp_newAt]
  refine ⟨hc, hu, h2, hg, hq _ (f.putB hw0 h1 h2) ⟨putB_get_self⟩ rfl fun j hj => ⟨putB_get_ne hj, ?_⟩⟩
  simp [AHeap.putB, Ago.beq_ne hj]
theorem Is_L0 {b0 b1 : Nat} {s1 s2 : Sl} {r1 r2 : Int} {ns : List NodeV} (hB : ∀ y ∈ ns, y.keys.length ≤ 400 ∧ y.items.length ≤ 400) (hl : ns.length ≤ 4096) : ∀ (n i : Nat) (h : AHeap), WF h → LB h b0 [vsl s1, vi r1] T_api_Graph → LB h b1 [vsl s2, vi r2] T_api_Graph →
    RdN h s1 ns → RdN h s2 ns → i ≤ ns.length → ns.length - i + 500 < n → Wp (rosettaref13_Is_L0 n (adr b0) (adr b1) (i : Nat)) h fun x h' => Fr (fun _ => False) h h' ∧ x = .inl ()
  | 0, _, _, _, _, _, _, _, _, hn => by omega
  | n + 1, i, h, hw, l0, l1, k1, k2, hi, hn => by
    rw [rosettaref13_Is_L0_succ]
    unfold rosettaref13_Is_L0_B
    have g0 : ∀ {h'}, LB h' b0 [vsl s1, vi r1] T_api_Graph → h'.ldV b0 0 = some s1 := fun l => l.ld (lf := .sl) (v := vsl s1) rfl rfl
    have g1 : ∀ {h'}, LB h' b1 [vsl s2, vi r2] T_api_Graph → h'.ldV b1 0 = some s2 := fun l => l.ld (lf := .sl) (v := vsl s2) rfl rfl
    have n1 := k1.1
    have n2 := k2.1
    simp only [Wp_bind, Wp_nn', Wp_ldI, Wp_ldS, Wp_ldV, Wp_ldB, Wp_idxS, Wp_sliceS, Wp_pure, plus_eq, Nat.zero_add, Nat.reduceAdd, Option.some.injEq, exists_eq_left', decide_eq_true_eq, g0 l0, exists_eq_left']
    refine Wp_ite.2 ⟨fun e => ?_, fun e => ?_⟩
    · have hlt : i < ns.length := by omega
      have hy : ns[i]? = some ns[i] := List.getElem?_eq_getElem hlt
      have hyB := hB _ (List.getElem_mem hlt)
      generalize ns[i] = y at hy hyB
      have e2 : IntKind.i64.wrap ((i : Int) + 1) = ((i + 1 : Nat) : Int) := by rw [w64 (by omega) (by omega)]; simp
      rw [e2, Wp_bind, Wp_reserve]
      have fr := Fr.reserve (n := 14) hw
      have hun : ∀ j, h.next ≤ j → ({ h with next := h.next + 14 } : AHeap).used j = false := fun j hj => hw.used j hj
      have hgn : ∀ j, h.next ≤ j → ({ h with next := h.next + 14 } : AHeap).get j = none := fun j hj => hw.get j hj
      have hnx : ({ h with next := h.next + 14 } : AHeap).next = h.next + 14 := rfl
      have b0n := l0.lt hw
      have b1n := l1.lt hw
      obtain ⟨c1, o1, ks1, is1, a1, kk1⟩ := k1.2 i y hy
      obtain ⟨c2, o2, ks2, is2, a2, kk2⟩ := k2.2 i y hy
      obtain ⟨cc, cg, cb, ce, hcc⟩ := lds_get (kk2.now hw).1
      have hcg := hw.grp _ _ _ _ _ hcc
      generalize ({ h with next := h.next + 14 } : AHeap) = h1 at *
      generalize hN : h.next = N at *
      have l0' := l0.fr fr (fun x => x)
      have l1' := l1.fr fr (fun x => x)
      obtain ⟨d1, _, _⟩ := kk1 _ fr
      obtain ⟨d2, _, _⟩ := kk2 _ fr
      simp only [Wp_bind, Wp_nn', Wp_ldI, Wp_ldS, Wp_ldV, Wp_ldB, Wp_idxS, Wp_sliceS, Wp_pure, plus_eq, Nat.zero_add, Nat.reduceAdd, Option.some.injEq, exists_eq_left', decide_eq_true_eq, g0 l0', g1 l1', exists_eq_left', Wp_idxA, a1, a2, Int.toNat_natCast]
      refine ⟨by omega, by omega, Wp_ldLs.2 ⟨_, d1, ?_⟩⟩
      simp only [Wp_bind, Wp_nn', Wp_ldI, Wp_ldS, Wp_ldV, Wp_ldB, Wp_idxS, Wp_sliceS, Wp_pure, plus_eq, Nat.zero_add, Nat.reduceAdd, Option.some.injEq, exists_eq_left', decide_eq_true_eq, g1 l1', exists_eq_left', a2, Wp_idxA, Int.toNat_natCast]
      refine ⟨by omega, by omega, Wp_ldLs.2 ⟨_, d2, ?_⟩⟩
      refine named hw fr (by omega) (by omega) (hun _ (by omega)) (hgn _ (by omega)) rfl fun h2 f2 m2 nx2 ot2 => ?_
      refine named hw f2 (by omega) (by omega) (by rw [(ot2 _ (by omega)).2]; exact hun _ (by omega)) (by rw [(ot2 _ (by omega)).1]; exact hgn _ (by omega)) rfl fun h3 f3 m3 nx3 ot3 => ?_
      have m2' : LB h3 (N + 10) [vi 0, Value.string (ofBytes []), Value.bool false, vsl0, vsl0] T_api_Node := ⟨by rw [(ot3 _ (by omega)).1]; exact m2.get⟩
      refine chk_Wp ?_
      refine m2'.st f3.wf (by simp) rfl fun h4 m4 f4 => ⟨fun q hq => ?_, ?_⟩
      · have l3 := l1.fr f3 (fun x => x)
        have hc3 := f3.cells _ _ _ _ _ hcc (fun x => x.elim)
        simp only [List.mem_cons, Option.some.injEq, List.not_mem_nil, or_false] at hq
        rcases hq with rfl | rfl
        · show h4.get b1 = h3.get b1
          rw [l3.get, f4.cells _ _ _ _ _ l3.get (fun x => by omega)]
        · show h4.get c2 = h3.get c2
          rw [hc3, f4.cells _ _ _ _ _ hc3 (fun x => by omega)]
      · have f04 : Fr (fun _ => False) h h4 := f3.fresh hw f4 (fun g hg => .inr (by omega))
        have m3' := m3.fr f4 (by simp)
        refine m3'.st f04.wf (by simp) rfl fun h5 m5 f5 => ?_
        have m4' := m4.fr f5 (by simp)
        have f05 : Fr (fun _ => False) h h5 := f04.fresh hw f5 (fun g hg => .inr (by omega))
        have s4 : splice [vi 0, Value.string (ofBytes []), Value.bool false, vsl0, vsl0] 0 [vi y.kind, Value.string y.text, Value.bool y.ord, vsl ks1, vsl is1] = [vi y.kind, Value.string y.text, Value.bool y.ord, vsl ks1, vsl is1] := rfl
        have s5 : splice [vi 0, Value.string (ofBytes []), Value.bool false, vsl0, vsl0] 0 [vi y.kind, Value.string y.text, Value.bool y.ord, vsl ks2, vsl is2] = [vi y.kind, Value.string y.text, Value.bool y.ord, vsl ks2, vsl is2] := rfl
        have m4' : LB h5 (N + 10) [vi y.kind, Value.string y.text, Value.bool y.ord, vsl ks1, vsl is1] T_api_Node := m4'
        have m5 : LB h5 (N + 11) [vi y.kind, Value.string y.text, Value.bool y.ord, vsl ks2, vsl is2] T_api_Node := m5
        have p0 : h5.ldI .i64 (N + 10) 0 = some y.kind := m4'.ld (lf := .int .i64) (v := vi y.kind) rfl rfl
        have p1 : h5.ldS (N + 10) 1 = some y.text := m4'.ld (lf := .str) (v := Value.string y.text) rfl rfl
        have p2 : h5.ldB (N + 10) 2 = some y.ord := m4'.ld (lf := .bool) (v := Value.bool y.ord) rfl rfl
        have p3 : h5.ldV (N + 10) 3 = some ks1 := m4'.ld (lf := .sl) (v := vsl ks1) rfl rfl
        have p4 : h5.ldV (N + 10) 4 = some is1 := m4'.ld (lf := .sl) (v := vsl is1) rfl rfl
        have q0 : h5.ldI .i64 (N + 11) 0 = some y.kind := m5.ld (lf := .int .i64) (v := vi y.kind) rfl rfl
        have q1 : h5.ldS (N + 11) 1 = some y.text := m5.ld (lf := .str) (v := Value.string y.text) rfl rfl
        have q2 : h5.ldB (N + 11) 2 = some y.ord := m5.ld (lf := .bool) (v := Value.bool y.ord) rfl rfl
        have q3 : h5.ldV (N + 11) 3 = some ks2 := m5.ld (lf := .sl) (v := vsl ks2) rfl rfl
        have q4 : h5.ldV (N + 11) 4 = some is2 := m5.ld (lf := .sl) (v := vsl is2) rfl rfl
        obtain ⟨_, rk1, ri1⟩ := kk1 _ f05
        obtain ⟨_, rk2, ri2⟩ := kk2 _ f05
        simp only [Wp_bind, Wp_nn', Wp_ldI, Wp_ldS, Wp_ldV, Wp_ldB, Wp_idxS, Wp_sliceS, Wp_pure, plus_eq, Nat.zero_add, Nat.reduceAdd, Option.some.injEq, exists_eq_left', decide_eq_true_eq, p0, q0, exists_eq_left']
        refine Wp_ite.2 ⟨fun e => by simp at e, fun _ => ?_⟩
        simp only [Wp_bind, Wp_nn', Wp_ldI, Wp_ldS, Wp_ldV, Wp_ldB, Wp_idxS, Wp_sliceS, Wp_pure, plus_eq, Nat.zero_add, Nat.reduceAdd, Option.some.injEq, exists_eq_left', decide_eq_true_eq, p1, q1, exists_eq_left']
        refine Wp_ite.2 ⟨fun e => by rw [eqS_refl] at e; simp at e, fun _ => ?_⟩
        simp only [Wp_bind, Wp_nn', Wp_ldI, Wp_ldS, Wp_ldV, Wp_ldB, Wp_idxS, Wp_sliceS, Wp_pure, plus_eq, Nat.zero_add, Nat.reduceAdd, Option.some.injEq, exists_eq_left', decide_eq_true_eq, p2, q2, exists_eq_left']
        refine Wp_ite.2 ⟨fun e => by cases hh : y.ord <;> rw [hh] at e <;> simp at e, fun _ => ?_⟩
        simp only [Wp_bind, Wp_nn', Wp_ldI, Wp_ldS, Wp_ldV, Wp_ldB, Wp_idxS, Wp_sliceS, Wp_pure, plus_eq, Nat.zero_add, Nat.reduceAdd, Option.some.injEq, exists_eq_left', decide_eq_true_eq, p3, q3, exists_eq_left']
        refine (ints_wp rk1 rk2 (by omega) (by omega)).mono fun x h6 hx => ?_
        obtain ⟨rfl, rfl⟩ := hx
        refine Wp_ite.2 ⟨fun e => by simp at e, fun _ => ?_⟩
        simp only [Wp_bind, Wp_nn', Wp_ldI, Wp_ldS, Wp_ldV, Wp_ldB, Wp_idxS, Wp_sliceS, Wp_pure, plus_eq, Nat.zero_add, Nat.reduceAdd, Option.some.injEq, exists_eq_left', decide_eq_true_eq, p4, q4, exists_eq_left']
        refine (ints_wp ri1 ri2 (by omega) (by omega)).mono fun x h7 hx => ?_
        obtain ⟨rfl, rfl⟩ := hx
        refine Wp_ite.2 ⟨fun e => by simp at e, fun _ => ?_⟩
        refine (Is_L0 hB hl n (i + 1) _ f05.wf (l0.fr f05 (fun x => x)) (l1.fr f05 (fun x => x)) (k1.go hw f05) (k2.go hw f05) (by omega) (by omega)).mono fun x h8 hx => ⟨f05.fresh hw hx.1 (fun _ e => e.elim), hx.2⟩
    · rw [Wp_pure]; exact ⟨Fr.refl hw, rfl⟩
end Go.Sh
