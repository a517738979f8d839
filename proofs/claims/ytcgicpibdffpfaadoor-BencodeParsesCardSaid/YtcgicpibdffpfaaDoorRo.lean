/-
The references' comparisons of documents: whole documents.
-/
import Derived.Test.YtcgicpibdffpfaaDoorRn
set_option linter.all false
namespace Go.Sh
open Go Go.Ago Go.Proofs
variable {h h' : AHeap} {n : Nat}
def okNs (ns : List NodeV) : Prop := (∀ y ∈ ns, y.keys.length ≤ 400 ∧ y.items.length ≤ 400) ∧ ns.length ≤ 4096
theorem Is_wp {s1 s2 : Sl} {r : Int} {ns : List NodeV} (hB : okNs ns) (hw : WF h) (k1 : RdN h s1 ns) (k2 : RdN h s2 ns) (hn : 5000 ≤ n) : Wp (rosettaref13_Is n (s1, r) (s2, r)) h fun x h' => Fr (fun _ => False) h h' ∧ x = true := by
  unfold rosettaref13_Is
  rw [Wp_bind, Wp_new]
  refine ⟨rfl, ?_⟩
  have f1 := Fr.new (e := T_api_Graph) (cs := [vsl s1, vi r]) hw
  have l1 := LB.new (h := h) (e := T_api_Graph) (cs := [vsl s1, vi r])
  generalize h.new T_api_Graph [vsl s1, vi r] = h1 at *
  generalize h.next = b0 at *
  rw [Wp_bind, Wp_new]
  refine ⟨rfl, ?_⟩
  have f2 := Fr.new (e := T_api_Graph) (cs := [vsl s2, vi r]) f1.wf
  have l2 := LB.new (h := h1) (e := T_api_Graph) (cs := [vsl s2, vi r])
  have l1 := l1.fr f2 (fun x => x)
  generalize h1.new T_api_Graph [vsl s2, vi r] = h2 at *
  generalize h1.next = b1 at *
  have f02 := f1.fresh hw f2 (fun _ e => e.elim)
  have p0 : h2.ldI .i64 b0 1 = some r := l1.ld (lf := .int .i64) (v := vi r) rfl rfl
  have p1 : h2.ldI .i64 b1 1 = some r := l2.ld (lf := .int .i64) (v := vi r) rfl rfl
  have q0 : h2.ldV b0 0 = some s1 := l1.ld (lf := .sl) (v := vsl s1) rfl rfl
  have q1 : h2.ldV b1 0 = some s2 := l2.ld (lf := .sl) (v := vsl s2) rfl rfl
  simp only [Wp_bind, Wp_nn', Wp_ldI, Wp_ldS, Wp_ldV, Wp_ldB, Wp_idxS, Wp_sliceS, Wp_pure, plus_eq, Nat.zero_add, Nat.reduceAdd, Option.some.injEq, exists_eq_left', decide_eq_true_eq, p0, p1, exists_eq_left']
  refine Wp_ite.2 ⟨fun e => by simp at e, fun _ => ?_⟩
  have n1 := k1.1
  have n2 := k2.1
  simp only [Wp_bind, Wp_nn', Wp_ldI, Wp_ldS, Wp_ldV, Wp_ldB, Wp_idxS, Wp_sliceS, Wp_pure, plus_eq, Nat.zero_add, Nat.reduceAdd, Option.some.injEq, exists_eq_left', decide_eq_true_eq, q0, q1, exists_eq_left']
  refine Wp_ite.2 ⟨fun e => by simp at e; omega, fun _ => ?_⟩
  rw [Wp_bind]
  have hlen := hB.2
  refine (Is_L0 hB.1 hB.2 n 0 h2 f02.wf l1 l2 (k1.go hw f02) (k2.go hw f02) (by omega) (by omega)).mono fun x h3 hx => ?_
  obtain ⟨f3, rfl⟩ := hx
  simp only [sumElim, Wp_pure]
  exact ⟨f02.fresh hw f3 (fun _ e => e.elim), by trivial⟩
theorem SameGraph_wp {s1 s2 : Sl} {r : Int} {ns : List NodeV} (hB : okNs ns) (hw : WF h) (k1 : RdN h s1 ns) (k2 : RdN h s2 ns) (hn : 5000 ≤ n) : Wp (rosettaref18_SameGraph n (s1, r) (s2, r)) h fun x h' => Fr (fun _ => False) h h' ∧ x = true := by
  unfold rosettaref18_SameGraph
  rw [Wp_bind, Wp_new]
  refine ⟨rfl, ?_⟩
  have f1 := Fr.new (e := T_api_Graph) (cs := [vsl s1, vi r]) hw
  have l1 := LB.new (h := h) (e := T_api_Graph) (cs := [vsl s1, vi r])
  generalize h.new T_api_Graph [vsl s1, vi r] = h1 at *
  generalize h.next = b0 at *
  rw [Wp_bind, Wp_new]
  refine ⟨rfl, ?_⟩
  have f2 := Fr.new (e := T_api_Graph) (cs := [vsl s2, vi r]) f1.wf
  have l2 := LB.new (h := h1) (e := T_api_Graph) (cs := [vsl s2, vi r])
  have l1 := l1.fr f2 (fun x => x)
  generalize h1.new T_api_Graph [vsl s2, vi r] = h2 at *
  generalize h1.next = b1 at *
  have f02 := f1.fresh hw f2 (fun _ e => e.elim)
  rw [Wp_bind]
  refine Wp_ldLs.2 ⟨(s1, r), l1.lds (by simp) rfl, ?_⟩
  rw [Wp_bind]
  refine Wp_ldLs.2 ⟨(s2, r), l2.lds (by simp) rfl, ?_⟩
  rw [Wp_bind]
  refine (Is_wp hB f02.wf (k1.go hw f02) (k2.go hw f02) hn).mono fun x h3 hx => ?_
  rw [Wp_pure]
  exact ⟨f02.fresh hw hx.1 (fun _ e => e.elim), hx.2⟩
theorem Doc_L0 {b0 b1 : Nat} {d1 d2 : List Value} {s1 s2 : Sl} {ss : List SpanV} (hl : ss.length ≤ 400) (l0 : LB h b0 d1 T_api_Doc) (l1 : LB h b1 d2 T_api_Doc) (e1 : d1[4]? = some (vsl s1)) (e2 : d2[4]? = some (vsl s2)) (hw : WF h) (k1 : RdS h s1 ss) (k2 : RdS h s2 ss) : ∀ (n i : Nat),
    i ≤ ss.length → ss.length - i < n → Wp (rosettaref18_SameDoc_L0 n (adr b0) (adr b1) (i : Nat)) h fun x h' => h' = h ∧ x = .inl ()
  | 0, _, _, hn => by omega
  | n + 1, i, hi, hn => by
    rw [rosettaref18_SameDoc_L0_succ]
    unfold rosettaref18_SameDoc_L0_B
    have g0 : h.ldV b0 4 = some s1 := l0.ld (lf := .sl) (v := vsl s1) e1 rfl
    have g1 : h.ldV b1 4 = some s2 := l1.ld (lf := .sl) (v := vsl s2) e2 rfl
    have n1 := k1.1
    have n2 := k2.1
    simp only [Wp_bind, Wp_nn', Wp_ldI, Wp_ldS, Wp_ldV, Wp_ldB, Wp_idxS, Wp_sliceS, Wp_pure, plus_eq, Nat.zero_add, Nat.reduceAdd, Option.some.injEq, exists_eq_left', decide_eq_true_eq, g0, exists_eq_left']
    refine Wp_ite.2 ⟨fun e => ?_, fun e => ?_⟩
    · have hlt : i < ss.length := by omega
      have hy : ss[i]? = some ss[i] := List.getElem?_eq_getElem hlt
      generalize ss[i] = y at hy
      have e2 : IntKind.i64.wrap ((i : Int) + 1) = ((i + 1 : Nat) : Int) := by rw [w64 (by omega) (by omega)]; simp
      obtain ⟨c1, o1, a1, kk1⟩ := k1.2 i y hy
      obtain ⟨c2, o2, a2, kk2⟩ := k2.2 i y hy
      have d1 := kk1.now hw
      have d2 := kk2.now hw
      simp only [Wp_bind, Wp_nn', Wp_ldI, Wp_ldS, Wp_ldV, Wp_ldB, Wp_idxS, Wp_sliceS, Wp_pure, plus_eq, Nat.zero_add, Nat.reduceAdd, Option.some.injEq, exists_eq_left', decide_eq_true_eq, g0, g1, exists_eq_left', Wp_idxA, a1, a2, Int.toNat_natCast]
      refine ⟨by omega, by omega, Wp_ldLs.2 ⟨_, d1, ?_⟩⟩
      simp only [Wp_bind, Wp_nn', Wp_ldI, Wp_ldS, Wp_ldV, Wp_ldB, Wp_idxS, Wp_sliceS, Wp_pure, plus_eq, Nat.zero_add, Nat.reduceAdd, Option.some.injEq, exists_eq_left', decide_eq_true_eq, g1, exists_eq_left', a2, Wp_idxA, Int.toNat_natCast]
      refine ⟨by omega, by omega, Wp_ldLs.2 ⟨_, d2, ?_⟩⟩
      rw [e2]
      refine Wp_ite.2 ⟨fun e => by simp at e, fun _ => Doc_L0 hl l0 l1 ‹_› ‹_› hw k1 k2 n (i + 1) (by omega) (by omega)⟩
    · rw [Wp_pure]; exact ⟨rfl, rfl⟩
theorem Doc_L1 {b0 b1 : Nat} {d1 : List Value} (l0 : LB h b0 d1 T_api_Doc) (e1 : d1[5]? = some (vsl sl0)) (hn : n ≠ 0) {Q : Unit ⊕ Bool → AHeap → Prop} (q : Q (.inl ()) h) : Wp (rosettaref18_SameDoc_L1 n (adr b0) (adr b1) 0) h Q := by
  obtain ⟨n, rfl⟩ : ∃ k, n = k + 1 := ⟨n - 1, by omega⟩
  rw [rosettaref18_SameDoc_L1_succ]
  unfold rosettaref18_SameDoc_L1_B
  have g0 : h.ldV b0 5 = some sl0 := l0.ld (lf := .sl) (v := vsl sl0) e1 rfl
  simp only [Wp_bind, Wp_nn', Wp_ldI, Wp_ldS, Wp_ldV, Wp_ldB, Wp_idxS, Wp_sliceS, Wp_pure, plus_eq, Nat.zero_add, Nat.reduceAdd, Option.some.injEq, exists_eq_left', decide_eq_true_eq, g0, exists_eq_left']
  refine Wp_ite.2 ⟨fun e => absurd e (by decide), fun _ => ?_⟩
  rw [Wp_pure]; exact q
theorem SameDoc_wp {f r : Int} {s : ByteArray} {s1 s2 t1 t2 : Sl} {ns : List NodeV} {ss : List SpanV} (hB : okNs ns) (hl : ss.length ≤ 400) (hw : WF h) (k1 : RdN h s1 ns) (k2 : RdN h s2 ns) (j1 : RdS h t1 ss) (j2 : RdS h t2 ss) (hn : 5000 ≤ n) :
    Wp (rosettaref18_SameDoc n (f, s, s1, r, t1, sl0) (f, s, s2, r, t2, sl0)) h fun x h' => Fr (fun _ => False) h h' ∧ x = true := by
  unfold rosettaref18_SameDoc
  rw [Wp_bind, Wp_new]
  refine ⟨rfl, ?_⟩
  have f1 := Fr.new (e := T_api_Doc) (cs := [vi f, Value.string s, vsl s1, vi r, vsl t1, vsl sl0]) hw
  have l1 := LB.new (h := h) (e := T_api_Doc) (cs := [vi f, Value.string s, vsl s1, vi r, vsl t1, vsl sl0])
  generalize h.new T_api_Doc [vi f, Value.string s, vsl s1, vi r, vsl t1, vsl sl0] = h1 at *
  generalize h.next = b0 at *
  rw [Wp_bind, Wp_new]
  refine ⟨rfl, ?_⟩
  have f2 := Fr.new (e := T_api_Doc) (cs := [vi f, Value.string s, vsl s2, vi r, vsl t2, vsl sl0]) f1.wf
  have l2 := LB.new (h := h1) (e := T_api_Doc) (cs := [vi f, Value.string s, vsl s2, vi r, vsl t2, vsl sl0])
  have l1 := l1.fr f2 (fun x => x)
  generalize h1.new T_api_Doc [vi f, Value.string s, vsl s2, vi r, vsl t2, vsl sl0] = h2 at *
  generalize h1.next = b1 at *
  have f02 := f1.fresh hw f2 (fun _ e => e.elim)
  have p0 : h2.ldI .i64 b0 0 = some f := l1.ld (lf := .int .i64) (v := vi f) rfl rfl
  have p1 : h2.ldI .i64 b1 0 = some f := l2.ld (lf := .int .i64) (v := vi f) rfl rfl
  have q0 : h2.ldS b0 1 = some s := l1.ld (lf := .str) (v := Value.string s) rfl rfl
  have q1 : h2.ldS b1 1 = some s := l2.ld (lf := .str) (v := Value.string s) rfl rfl
  simp only [Wp_bind, Wp_nn', Wp_ldI, Wp_ldS, Wp_ldV, Wp_ldB, Wp_idxS, Wp_sliceS, Wp_pure, plus_eq, Nat.zero_add, Nat.reduceAdd, Option.some.injEq, exists_eq_left', decide_eq_true_eq, p0, p1, exists_eq_left']
  refine Wp_ite.2 ⟨fun e => by simp at e, fun _ => ?_⟩
  simp only [Wp_bind, Wp_nn', Wp_ldI, Wp_ldS, Wp_ldV, Wp_ldB, Wp_idxS, Wp_sliceS, Wp_pure, plus_eq, Nat.zero_add, Nat.reduceAdd, Option.some.injEq, exists_eq_left', decide_eq_true_eq, q0, q1, exists_eq_left']
  refine Wp_ite.2 ⟨fun e => by rw [eqS_refl] at e; simp at e, fun _ => ?_⟩
  rw [Wp_bind]
  refine Wp_ldLs.2 ⟨(s1, r), l1.lds (by simp) rfl, ?_⟩
  rw [Wp_bind]
  refine Wp_ldLs.2 ⟨(s2, r), l2.lds (by simp) rfl, ?_⟩
  rw [Wp_bind]
  refine (SameGraph_wp hB f02.wf (k1.go hw f02) (k2.go hw f02) hn).mono fun x h3 hx => ?_
  obtain ⟨f3, rfl⟩ := hx
  have f03 := f02.fresh hw f3 (fun _ e => e.elim)
  have l1 := l1.fr f3 (fun x => x)
  have l2 := l2.fr f3 (fun x => x)
  have c0 : h3.ldV b0 4 = some t1 := l1.ld (lf := .sl) (v := vsl t1) rfl rfl
  have c1 : h3.ldV b1 4 = some t2 := l2.ld (lf := .sl) (v := vsl t2) rfl rfl
  have d0 : h3.ldV b0 5 = some sl0 := l1.ld (lf := .sl) (v := vsl sl0) rfl rfl
  have d1 : h3.ldV b1 5 = some sl0 := l2.ld (lf := .sl) (v := vsl sl0) rfl rfl
  have n1 := j1.1
  have n2 := j2.1
  refine Wp_ite.2 ⟨fun e => by simp at e, fun _ => ?_⟩
  simp only [Wp_bind, Wp_nn', Wp_ldI, Wp_ldS, Wp_ldV, Wp_ldB, Wp_idxS, Wp_sliceS, Wp_pure, plus_eq, Nat.zero_add, Nat.reduceAdd, Option.some.injEq, exists_eq_left', decide_eq_true_eq, c0, c1, exists_eq_left']
  refine Wp_ite.2 ⟨fun e => by simp at e; omega, fun _ => ?_⟩
  simp only [Wp_bind, Wp_nn', Wp_ldI, Wp_ldS, Wp_ldV, Wp_ldB, Wp_idxS, Wp_sliceS, Wp_pure, plus_eq, Nat.zero_add, Nat.reduceAdd, Option.some.injEq, exists_eq_left', decide_eq_true_eq, d0, d1, exists_eq_left']
  refine Wp_ite.2 ⟨fun e => by simp at e, fun _ => ?_⟩
  unfold rosettaref18_SameDoc_J0
  rw [Wp_bind]
  refine (Doc_L0 hl l1 l2 rfl rfl f3.wf (j1.go hw f03) (j2.go hw f03) n 0 (by omega) (by omega)).mono fun x h4 hx => ?_
  obtain ⟨rfl, rfl⟩ := hx
  simp only [sumElim]
  rw [Wp_bind]
  refine Doc_L1 l1 rfl (by omega) ?_
  simp only [sumElim, Wp_pure]
  exact ⟨f03, by trivial⟩
end Go.Sh
