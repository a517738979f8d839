/-
Contracts of the reference's small functions.
-/
import Derived.Test.YtcgicpibdffpfaaDoorAw
set_option linter.all false
namespace Go.Sh
open Go Go.Ago Go.Proofs
variable {h h' : AHeap} {S S' : PSt} {n : Nat}
theorem ref_fail (st : St h S) (e a : Int) : Wp (rosettaref34_State_fail n (some (adr S.b)) e a) h fun _ h' => St h' (S.failed a e) ∧ Stp h S h' (S.failed a e) := by
  unfold rosettaref34_State_fail
  simp only [Wp_bind, Wp_nn', Wp_ldI, Wp_ldS, Wp_ldV, Wp_ldB, Wp_idxS, Wp_sliceS, Wp_pure, plus_eq, Nat.zero_add, Nat.reduceAdd, Option.some.injEq, exists_eq_left', decide_eq_true_eq, st.ldErr, st.ldAt, st.ldSrc, st.ldNodes, st.ldSpans]
  split
  · rename_i he
    simp only [Wp_bind, Wp_nn', Wp_ldI, Wp_ldS, Wp_ldV, Wp_ldB, Wp_idxS, Wp_sliceS, Wp_pure, plus_eq, Nat.zero_add, Nat.reduceAdd, Option.some.injEq, exists_eq_left', decide_eq_true_eq]
    refine st.setErr fun h1 st1 f1 => ?_
    refine St.setOff (S := S.wErr e) st1 fun h2 st2 f2 => ?_
    simp only [PSt.failed, he, if_true]
    exact ⟨st2, f1.trans st.wf f2⟩
  · rename_i he
    simp only [Wp_pure, PSt.failed, he, if_false]
    exact ⟨st, Stp.refl st.wf⟩
theorem ref_next {s : ByteArray} {a : Nat} (st : St h S) (h0 : S.err = 0) (hs : S.src = s) (ha : S.at' = a) : Wp (rosettaref34_State_next n (some (adr S.b))) h fun x h' =>
    match s.data.toList[a]? with
    | none => x = 0 ∧ St h' ((S.wOff s.size).wErr 4) ∧ Stp h S h' ((S.wOff s.size).wErr 4)
    | some c => x = c.toNat ∧ h' = h := by
  unfold rosettaref34_State_next
  have hl : s.data.toList.length = s.size := size_toList s
  simp only [Wp_bind, Wp_nn', Wp_ldI, Wp_ldS, Wp_ldV, Wp_ldB, Wp_idxS, Wp_sliceS, Wp_pure, plus_eq, Nat.zero_add, Nat.reduceAdd, Option.some.injEq, exists_eq_left', decide_eq_true_eq, st.ldErr, st.ldAt, st.ldSrc, st.ldNodes, st.ldSpans, hs, ha]
  by_cases hle : s.size ≤ a
  · rw [if_pos (by omega), List.getElem?_eq_none (by omega)]
    simp only [Wp_bind, Wp_nn', Wp_ldI, Wp_ldS, Wp_ldV, Wp_ldB, Wp_idxS, Wp_sliceS, Wp_pure, plus_eq, Nat.zero_add, Nat.reduceAdd, Option.some.injEq, exists_eq_left', decide_eq_true_eq, st.ldErr, st.ldAt, st.ldSrc, st.ldNodes, st.ldSpans, hs]
    refine (ref_fail st _ _).mono fun x h' hx => ?_
    simp only [PSt.failed, h0, if_true] at hx
    exact ⟨by trivial, hx.1, hx.2⟩
  · rw [if_neg (by omega)]
    have hc : s.data.toList[a]? = some s.data.toList[a] := List.getElem?_eq_getElem (by omega)
    generalize s.data.toList[a] = c at hc
    simp only [Wp_bind, Wp_nn', Wp_ldI, Wp_ldS, Wp_ldV, Wp_ldB, Wp_idxS, Wp_sliceS, Wp_pure, plus_eq, Nat.zero_add, Nat.reduceAdd, Option.some.injEq, exists_eq_left', decide_eq_true_eq, st.ldErr, st.ldAt, st.ldSrc, st.ldNodes, st.ldSpans, hs, ha, ba_get, hc, Int.toNat_natCast, Int.natCast_nonneg, true_and, and_self]
structure Ext (ex : Nat → Prop) (S S' : PSt) : Prop where
  nodes : ∀ i x, S.nodes[i]? = some x → ¬ ex i → ∃ x', S'.nodes[i]? = some x' ∧ x'.v = x.v
  len : S.nodes.length ≤ S'.nodes.length
  spans : S.spans.length ≤ S'.spans.length
theorem Ext.refl {ex : Nat → Prop} : Ext ex S S := ⟨fun i x hx _ => ⟨x, hx, rfl⟩, Nat.le_refl _, Nat.le_refl _⟩
theorem Ext.trans {ex : Nat → Prop} {S1 S2 S3 : PSt} (a : Ext ex S1 S2) (b : Ext ex S2 S3) : Ext ex S1 S3 :=
  ⟨fun i x hx he => by
    obtain ⟨x', h1, h2⟩ := a.nodes i x hx he
    obtain ⟨x2, h3, h4⟩ := b.nodes i x' h1 he
    exact ⟨x2, h3, h4.trans h2⟩, Nat.le_trans a.len b.len, Nat.le_trans a.spans b.spans⟩
theorem Ext.weak {ex ex' : Nat → Prop} (a : Ext ex S S') (hx : ∀ i, ex i → ex' i) : Ext ex' S S' := ⟨fun i x h he => a.nodes i x h (fun e => he (hx i e)), a.len, a.spans⟩
theorem Ext.same {ex : Nat → Prop} (h1 : S'.nodes = S.nodes) (h2 : S'.spans.length = S.spans.length) : Ext ex S S' := ⟨fun i x hx _ => ⟨x, by rw [h1]; exact hx, rfl⟩, by rw [h1]; exact Nat.le_refl _, by omega⟩
theorem failed_nodes (a e : Int) : (S.failed a e).nodes = S.nodes ∧ (S.failed a e).spans = S.spans ∧ (S.failed a e).at' = S.at' ∧ (S.failed a e).nsl = S.nsl ∧ (S.failed a e).b = S.b := by
  unfold PSt.failed; split <;> exact ⟨rfl, rfl, rfl, rfl, rfl⟩
def ResN (h : AHeap) (S : PSt) (r : Rs (Int × PV)) (x : Int) (h' : AHeap) : Prop :=
  ∃ S', St h' S' ∧ Stp h S h' S' ∧ match r with
    | .ok (n, p) => x = n ∧ Is S' p
    | .error e => Fail S' e ∧ Ext (fun _ => False) S S'
theorem ref_node {p : PV} (st : St h S) (is : Is S p) (hp : p.nodes.length ≤ 4096) (kind : Int) (t : ByteArray) (frm d : Nat) :
    Wp (rosettaref34_State_node n (some (adr S.b)) (kind, t, false, sl0, sl0) frm d) h (fun x h' => x = p.nodes.length ∧ ResN h S (spNode p ⟨kind, t, false, [], []⟩ frm d) x h') := by
  unfold rosettaref34_State_node
  rw [Wp_bind, Wp_new]
  refine ⟨rfl, ?_⟩
  obtain ⟨st1, f1⟩ := Stp.new st (e := T_api_Node) (cs := [vi kind, Value.string t, Value.bool false, vsl sl0, vsl sl0])
  have l1 := LB.new (h := h) (e := T_api_Node) (cs := [vi kind, Value.string t, Value.bool false, vsl sl0, vsl sl0])
  have hg := st.le
  generalize hb0 : h.next = b0 at *
  generalize h.new T_api_Node [vi kind, Value.string t, Value.bool false, vsl sl0, vsl sl0] = h1 at *
  have hnl : S.nodes.length = p.nodes.length := by rw [← is.2.1, List.length_map]
  -- the append, from whatever state with these nodes
  have J1 : ∀ {S1 : PSt} {h2 : AHeap}, St h2 S1 → LB h2 b0 [vi kind, Value.string t, Value.bool false, vsl sl0, vsl sl0] T_api_Node → Stp h S h2 S1 → S1.nodes = S.nodes →
      Wp (rosettaref34_State_node_J1 n (some (adr S1.b)) (adr b0)) h2 fun x h' => x = p.nodes.length ∧ ∃ s' g', St h' (S1.wNodes s' g' (S1.nodes ++ [⟨kind, t, false, sl0, [], 0, sl0, [], 0⟩])) ∧ Stp h S h' (S1.wNodes s' g' (S1.nodes ++ [⟨kind, t, false, sl0, [], 0, sl0, [], 0⟩])) := by
    intro S1 h2 st2 l2 f2 hn2
    unfold rosettaref34_State_node_J1
    simp only [Wp_bind, Wp_nn', Wp_ldI, Wp_ldS, Wp_ldV, Wp_ldB, Wp_idxS, Wp_sliceS, Wp_pure, plus_eq, Nat.zero_add, Nat.reduceAdd, Option.some.injEq, exists_eq_left', decide_eq_true_eq, st2.ldErr, st2.ldAt, st2.ldSrc, st2.ldNodes, st2.ldSpans]
    refine Wp_ldLs.2 ⟨(kind, t, false, sl0, sl0), l2.lds (by simp) rfl, ?_⟩
    refine St.addNode (x := ⟨kind, t, false, sl0, [], 0, sl0, [], 0⟩) st2 ⟨rfl, rfl, rfl⟩ ⟨rfl, rfl, rfl⟩ (by rw [hn2, hnl]; unfold bigN; omega) fun s' h3 hput => ?_
    refine hput.mono fun _ h4 hx => ?_
    obtain ⟨g', e1, st4, f4⟩ := hx
    refine ⟨s', st4.ldNodes, ?_, s', g', st4, f2.trans st.wf f4⟩
    rw [e1, hn2, hnl, w64 (by omega) (by omega)]; simp
  have hlen : ∀ {S1 : PSt} {h2 : AHeap}, St h2 S1 → S1.nodes = S.nodes → S1.nsl.len = p.nodes.length := fun st2 hn2 => by rw [st2.nodes_len, hn2, hnl]
  have mapn : ∀ {S1 : PSt}, S1.nodes = S.nodes → (S1.nodes ++ [(⟨kind, t, false, sl0, [], 0, sl0, [], 0⟩ : NodeR)]).map NodeR.v = p.nodes ++ [⟨kind, t, false, [], []⟩] := fun hn2 => by rw [hn2, List.map_append, is.2.1]; rfl
  have extn : ∀ {S1 : PSt} {s' : Sl} {g' : Nat}, S1.nodes = S.nodes → S1.spans = S.spans → Ext (fun _ => False) S (S1.wNodes s' g' (S1.nodes ++ [(⟨kind, t, false, sl0, [], 0, sl0, [], 0⟩ : NodeR)])) := by
    intro S1 s' g' e1 e2
    refine ⟨fun i x hx _ => ⟨x, ?_, rfl⟩, ?_, ?_⟩
    · show (S1.nodes ++ _)[i]? = some x
      rw [e1, List.getElem?_append_left (List.getElem?_eq_some_iff.1 hx).1]; exact hx
    · show _ ≤ (S1.nodes ++ _).length
      rw [e1]; simp
    · show _ ≤ S1.spans.length
      rw [e2]; exact Nat.le_refl _
  have lbf : ∀ {h2 : AHeap} {S2 : PSt}, Stp h1 S h2 S2 → LB h2 b0 [vi kind, Value.string t, Value.bool false, vsl sl0, vsl sl0] T_api_Node := fun f => l1.fr f.fr (by
    rintro ⟨t, ht⟩; have := hg t; omega)
  unfold spNode
  simp only [decide_eq_true_eq]
  refine Wp_ite.2 ⟨fun hd => ?_, fun hd => ?_⟩
  · rw [if_pos (by omega), Wp_bind]
    refine (ref_fail st1 _ _).mono fun _ h2 hx => ?_
    obtain ⟨st2, f2⟩ := hx
    obtain ⟨q1, q2, q3, q4, q5⟩ := failed_nodes (S := S) frm 5
    have hf := failed_ok (S := S) (a := frm) (e := 5) is.2.2.2 (by simp)
    have l2 := lbf f2
    have f02 := f1.trans st.wf f2
    rw [← q5]
    generalize S.failed frm 5 = S2 at *
    unfold rosettaref34_State_node_J0
    simp only [Wp_bind, Wp_nn', Wp_ldI, Wp_ldS, Wp_ldV, Wp_ldB, Wp_idxS, Wp_sliceS, Wp_pure, plus_eq, Nat.zero_add, Nat.reduceAdd, Option.some.injEq, exists_eq_left', decide_eq_true_eq, st2.ldErr, st2.ldAt, st2.ldSrc, st2.ldNodes, st2.ldSpans, hlen st2 q1]
    refine Wp_ite.2 ⟨fun hm => ?_, fun hm => ?_⟩
    · rw [Wp_bind]
      refine (ref_fail st2 _ _).mono fun _ h3 hx => ?_
      obtain ⟨st3, f3⟩ := hx
      have he : S2.failed frm 7 = S2 := by unfold PSt.failed; rw [if_neg (by rw [hf.2.1]; simp)]
      rw [he] at st3 f3
      have l3 := l2.fr f3.fr (by
        rintro ⟨t, ht⟩
        have h5 := f2.fp t
        have h6 := hg
        have h7 := l1.lt st1.wf
        rcases h5 with h5 | ⟨u, h5⟩ | h5
        · omega
        · have := h6 u; omega
        · omega)
      refine (J1 st3 l3 (f02.trans st.wf f3) q1).mono fun x h4 hx => ?_
      obtain ⟨hx1, s', g', st4, f4⟩ := hx
      exact ⟨hx1, _, st4, f4, hf, extn q1 q2⟩
    · refine (J1 st2 l2 f02 q1).mono fun x h4 hx => ?_
      obtain ⟨hx1, s', g', st4, f4⟩ := hx
      exact ⟨hx1, _, st4, f4, hf, extn q1 q2⟩
  · rw [if_neg (by omega)]
    unfold rosettaref34_State_node_J0
    simp only [Wp_bind, Wp_nn', Wp_ldI, Wp_ldS, Wp_ldV, Wp_ldB, Wp_idxS, Wp_sliceS, Wp_pure, plus_eq, Nat.zero_add, Nat.reduceAdd, Option.some.injEq, exists_eq_left', decide_eq_true_eq, st1.ldErr, st1.ldAt, st1.ldSrc, st1.ldNodes, st1.ldSpans, hlen st1 rfl]
    refine Wp_ite.2 ⟨fun hm => ?_, fun hm => ?_⟩
    · rw [if_pos (by omega), Wp_bind]
      refine (ref_fail st1 _ _).mono fun _ h2 hx => ?_
      obtain ⟨st2, f2⟩ := hx
      obtain ⟨q1, q2, q3, q4, q5⟩ := failed_nodes (S := S) frm 7
      have hf := failed_ok (S := S) (a := frm) (e := 7) is.2.2.2 (by simp)
      have l2 := lbf f2
      have f02 := f1.trans st.wf f2
      rw [← q5]
      generalize S.failed frm 7 = S2 at *
      refine (J1 st2 l2 f02 q1).mono fun x h4 hx => ?_
      obtain ⟨hx1, s', g', st4, f4⟩ := hx
      exact ⟨hx1, _, st4, f4, hf, extn q1 q2⟩
    · rw [if_neg (by omega)]
      refine (J1 st1 l1 f1 rfl).mono fun x h4 hx => ?_
      obtain ⟨hx1, s', g', st4, f4⟩ := hx
      exact ⟨hx1, _, st4, f4, hx1, is.1, mapn rfl, is.2.2.1, is.2.2.2⟩
end Go.Sh
