/-
The law on the parser: the program's parser and the reference's answer alike, for every string.
-/
import Derived.Test.YtcgicpibdffpfaaDoorRo
set_option linter.all false
namespace Go.Sh
open Go Go.Ago Go.Proofs
variable {h h' : AHeap} {n : Nat} {S : PSt}
theorem OSl.rdI {s : Sl} {l : List Int} {g : Nat} (o : OSl h s 1 T_i64 (l.map vi) g) : RdI h s l := by
  have h1 := o.1
  simp at h1
  refine ⟨h1.symm, fun i v hv => ?_⟩
  have hlt := (List.getElem?_eq_some_iff.1 hv).1
  obtain ⟨bn, base, ha, hg, _⟩ := o.blk (by omega)
  refine ⟨bn, 0, ha, ?_⟩
  show h.ld (.int .i64) bn (0 + i) = some v
  unfold AHeap.ld
  rw [hg, Nat.zero_add]
  simp only [List.getElem?_map, hv]
  rfl
theorem St.rdN (st : St h S) : RdN h S.nsl (S.nodes.map NodeR.v) := by
  refine ⟨by rw [st.nodes_len]; simp, fun i y hy => ?_⟩
  rw [List.getElem?_map] at hy
  cases hx : S.nodes[i]? with
  | none => rw [hx] at hy; cases hy
  | some x =>
    rw [hx] at hy
    cases hy
    have hlt := (List.getElem?_eq_some_iff.1 hx).1
    obtain ⟨bn, base, ha, _, _⟩ := st.nodeBlk (by omega)
    refine ⟨bn, 0, x.ks, x.is, ha, fun h' f => ?_⟩
    have st' : St h' S := st.fr f (fun t hx => hx.elim)
    obtain ⟨bn', base', ha', hg', _⟩ := st'.nodeBlk (by omega)
    rw [ha] at ha'
    cases ha'
    have hl := flat_length NodeR.enc_len S.nodes
    refine ⟨?_, OSl.rdI (st'.keys i x hx), OSl.rdI (st'.items i x hx)⟩
    refine lds_of hg' (by show 0 + i * 5 + 5 ≤ (S.nodes.flatMap NodeR.enc).length; rw [hl]; omega) ?_
    have := flat_take NodeR.enc_len hx
    rw [Nat.zero_add]
    show unLs _ (((S.nodes.flatMap NodeR.enc).drop (i * 5)).take 5) = _
    rw [this]; rfl
theorem St.rdS (st : St h S) : RdS h S.ssl S.spans := by
  refine ⟨st.spans_len, fun i x hx => ?_⟩
  have hlt := (List.getElem?_eq_some_iff.1 hx).1
  obtain ⟨bn, base, ha, _, _⟩ := st.spanBlk (by omega)
  refine ⟨bn, 0, ha, fun h' f => ?_⟩
  have st' : St h' S := st.fr f (fun t hx => hx.elim)
  obtain ⟨bn', base', ha', hg', _⟩ := st'.spanBlk (by omega)
  rw [ha] at ha'
  cases ha'
  have hl := flat_length SpanV.enc_len S.spans
  refine lds_of hg' (by show 0 + i * 9 + 9 ≤ (S.spans.flatMap SpanV.enc).length; rw [hl]; omega) ?_
  have := flat_take SpanV.enc_len hx
  rw [Nat.zero_add]
  show unLs _ (((S.spans.flatMap SpanV.enc).drop (i * 9)).take 9) = _
  rw [this]; rfl
theorem RdN.nil : RdN h sl0 [] := ⟨rfl, fun i y hy => by simp at hy⟩
theorem RdS.nil : RdS h sl0 [] := ⟨rfl, fun i y hy => by simp at hy⟩
theorem parse_inv {s : ByteArray} {m : Nat} {p : PV} (hr : spParse s m = some (.ok p)) : Inv s p := by
  unfold spParse at hr
  split at hr
  · cases hr
  · cases hv : (sp s m).V (span0 (-1) 0 0 0) 0 ⟨0, [], []⟩ with
    | none => rw [hv] at hr; cases hr
    | some rv =>
      rw [hv] at hr
      cases rv with
      | error e => cases hr
      | ok q =>
        obtain ⟨nn, p2⟩ := q
        simp only at hr
        split at hr
        · cases hr
        · cases hr
          exact (((sp_good s m).V _ _ _ _ _ (inv0 s) hv).1 0).inv
theorem parses_wp (s : ByteArray) (n : Nat) (hn : 10000 ≤ n) (h : AHeap) (hw : WF h) : Wp (rosettalaw34_BencodeParses n s) h fun x _ => x = true := by
  unfold rosettalaw34_BencodeParses
  have wake : ∀ {h : AHeap}, WF h → Wp (M.bind (rosettalaw34_awake n) fun x9 => M.pure x9) h fun x _ => x = true := by
    intro h hw
    rw [Wp_bind]
    exact (awake_wp hw (by omega)).mono fun x h' hx => by rw [Wp_pure]; exact hx.1
  refine Wp_ite.2 ⟨fun _ => wake hw, fun e => ?_⟩
  have hs : s.size ≤ 400 := by simp at e; omega
  obtain ⟨r, hr⟩ := spParse_some s 801 (by omega)
  rw [Wp_bind]
  refine (bencode_Parse_wp hw (by omega) hr).mono fun x0 h1 hx0 => ?_
  have f1 := hx0.1
  refine keep_doc (d := x0.1) f1.wf fun b1 h2 f2 nx2 hb1 m1 => ?_
  rw [Wp_bind]
  refine (ref_Parse_wp f2.wf (by omega) hr).mono fun x3 h3 hx3 => ?_
  have f3 := hx3.1
  refine keep_doc (d := x3.1) f3.wf fun b2 h4 f4 nx4 hb2 m2 => ?_
  have f24 : Fr (fun _ => False) h2 h4 := f3.fresh f2.wf f4 (fun _ e => e.elim)
  have f14 : Fr (fun _ => False) h1 h4 := f2.fresh f1.wf f24 (fun _ e => e.elim)
  have m1 := m1.fr f24 (fun x => x)
  rw [Wp_bind]
  refine Wp_ldLs.2 ⟨x0.1, m1.lds (by simp) rfl, ?_⟩
  rw [Wp_bind]
  refine Wp_ldLs.2 ⟨x3.1, m2.lds (by simp) rfl, ?_⟩
  rw [Wp_bind]
  have last : ∀ {h5 : AHeap}, WF h5 → x0.2 = x3.2 → Wp (if true = true then if decide (x0.2.1 = x3.2.1) = true then if decide (x0.2.2 = x3.2.2) = true then M.bind (rosettalaw34_awake n) fun x9 => M.pure x9 else M.pure false else M.pure false else M.pure false) h5 fun x _ => x = true := by
    intro h5 hw5 he
    rw [if_pos rfl, if_pos (decide_eq_true (by rw [he])), if_pos (decide_eq_true (by rw [he]))]
    exact wake hw5
  cases r with
  | error e =>
    obtain ⟨_, rfl, _⟩ := hx0
    obtain ⟨_, rfl, _⟩ := hx3
    refine (SameDoc_wp (ns := []) (ss := []) ⟨fun y hy => by simp at hy, by simp⟩ (by simp) f4.wf RdN.nil RdN.nil RdS.nil RdS.nil (by omega)).mono fun x h5 hx => ?_
    obtain ⟨f5, rfl⟩ := hx
    exact last f5.wf rfl
  | ok p =>
    obtain ⟨_, S1, st1, _, rfl, n1, p1⟩ := hx0
    obtain ⟨_, S2, st2, _, rfl, n2, p2⟩ := hx3
    have i := parse_inv hr
    have st1' : St h4 S1 := st1.fr f14 (fun t hx => hx.elim)
    have st2' : St h4 S2 := st2.fr f4 (fun t hx => hx.elim)
    have k1 := St.rdN st1'
    have k2 := St.rdN st2'
    have j1 := St.rdS st1'
    have j2 := St.rdS st2'
    rw [n1] at k1
    rw [n2] at k2
    rw [p1] at j1
    rw [p2] at j2
    have ip := i.pos
    have isp := i.spans
    refine (SameDoc_wp (f := 5) (s := s) (r := 0) ⟨fun y hy => by have := i.items y hy; omega, i.nodes⟩ (by omega) f4.wf k1 k2 j1 j2 (by omega)).mono fun x h5 hx => ?_
    obtain ⟨f5, rfl⟩ := hx
    exact last f5.wf rfl
end Go.Sh
