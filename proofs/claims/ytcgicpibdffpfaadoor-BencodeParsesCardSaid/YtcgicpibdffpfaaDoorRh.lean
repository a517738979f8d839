/-
Contracts of the reference's parser: one value; the content of a list or a dictionary, its frame.
-/
import Derived.Test.YtcgicpibdffpfaaDoorRd
import Derived.Test.YtcgicpibdffpfaaDoorRf
import Derived.Test.YtcgicpibdffpfaaDoorRg
set_option linter.all false
namespace Go.Sh
open Go Go.Ago Go.Proofs
variable {h h' : AHeap} {S S' : PSt} {n : Nat}
theorem Ext.comp {S S1 S2 : PSt} {n : Nat} (a : Ext (fun _ => False) S S1) (b : Ext (· = n) S1 S2) (hn : S.nodes.length ≤ n) : Ext (fun _ => False) S S2 :=
  ⟨fun i x hx _ => by
    obtain ⟨x', h1, h2⟩ := a.nodes i x hx (fun h => h)
    obtain ⟨x2, h3, h4⟩ := b.nodes i x' h1 (fun e => by have := (List.getElem?_eq_some_iff.1 hx).1; omega)
    exact ⟨x2, h3, h4.trans h2⟩, Nat.le_trans a.len b.len, Nat.le_trans a.spans b.spans⟩
def ResC (h : AHeap) (S : PSt) (nd : Nat) (r : Rs PV) (x : Unit ⊕ Unit) (h' : AHeap) : Prop := ∃ S', St h' S' ∧ Stp h S h' S' ∧ match r with
  | .ok p => x = .inl () ∧ S'.at' + 1 = p.pos ∧ Is (S'.wAt p.pos) p
  | .error e => Fail S' e ∧ Ext (· = nd) S S'
def Run (s : ByteArray) (m : Nat) (kind : Int) (nd sp' k d : Nat) (last : ByteArray) (p : PV) : Option (Rs PV) := if kind = 9 then (sp s m).L nd sp' k d p else (sp s m).D nd sp' k d last p
def RV (s : ByteArray) (m : Nat) : Prop := ∀ n, 3 * m + s.size + 40 ≤ n → ∀ h S p sn (d : Nat) r, St h S → S.src = s → Is S p → Inv s p → d ≤ 33 → (sp s m).V sn d p = some r →
  Wp (rosettaref34_State_value n (some (adr S.b)) sn.tup d) h fun x h' => ResN h S r x h'
def RC (s : ByteArray) (m : Nat) : Prop := ∀ n, 3 * m + s.size + 40 ≤ n → ∀ h S p (nd sp' k d : Nat) last kind r, St h S → S.src = s → Is S p → Inv s p → (∃ x, p.nodes[nd]? = some x ∧ x.kind = kind) → (kind = 9 ∨ kind = 10) → k ≤ p.pos → d ≤ 32 →
  Run s m kind nd sp' k d last p = some r → Wp (rosettaref34_State_content_L0 n (some (adr S.b)) nd sp' (d + 1 : Nat) last k) h (ResC h S nd r)
theorem contL_stop {e : Nat × Int} (st : St h S) (hf : Fail S e) (hn : n ≠ 0) {a1 a2 a3 k : Int} {l : ByteArray} {Q : Unit ⊕ Unit → AHeap → Prop} (q : Q (.inl ()) h) : Wp (rosettaref34_State_content_L0 n (some (adr S.b)) a1 a2 a3 l k) h Q := by
  obtain ⟨n, rfl⟩ : ∃ k, n = k + 1 := ⟨n - 1, by omega⟩
  rw [rosettaref34_State_content_L0_succ]
  unfold rosettaref34_State_content_L0_B
  simp only [Wp_bind, Wp_nn', Wp_ldI, Wp_ldS, Wp_ldV, Wp_ldB, Wp_idxS, Wp_sliceS, Wp_pure, plus_eq, Nat.zero_add, Nat.reduceAdd, Option.some.injEq, exists_eq_left', decide_eq_true_eq, st.ldErr, st.ldAt, st.ldSrc, st.ldNodes, st.ldSpans]
  have : S.err ≠ 0 := by rw [hf.2.1]; exact hf.2.2
  rw [if_neg this, Wp_pure]
  exact q
theorem run_pos {s : ByteArray} {m : Nat} {kind : Int} {nd sp' k d : Nat} {last : ByteArray} {p p2 : PV} (i : Inv s p) (hnd : nd < p.nodes.length) (hr : Run s m kind nd sp' k d last p = some (.ok p2)) : Inv s p2 := by
  unfold Run at hr
  split at hr
  · exact ((sp_good s m).L _ _ _ _ _ _ i hnd hr).inv
  · exact ((sp_good s m).D _ _ _ _ _ _ _ i hnd hr).inv
theorem content_wp {s : ByteArray} {m : Nat} (hs : s.size ≤ 65536) (hC : RC s m) (hn : 3 * m + s.size + 41 ≤ n) {p : PV} {nd sp' d : Nat} {kind : Int} {r : Rs PV} (st : St h S) (hsrc : S.src = s) (is : Is S p) (i : Inv s p)
    (hk : ∃ x, p.nodes[nd]? = some x ∧ x.kind = kind) (hk2 : kind = 9 ∨ kind = 10) (hd : d ≤ 32) (hr : Run s m kind nd sp' 0 d (ofBytes []) p = some r) :
    Wp (rosettaref34_State_content n (some (adr S.b)) nd sp' (d + 1 : Nat)) h fun _ h' => ∃ S', St h' S' ∧ Stp h S h' S' ∧ match r with
      | .ok p2 => Is S' p2
      | .error e => Fail S' e ∧ Ext (· = nd) S S' := by
  obtain ⟨n, rfl⟩ : ∃ k, n = k + 1 := ⟨n - 1, by omega⟩
  rw [rosettaref34_State_content_succ]
  unfold rosettaref34_State_content_B
  rw [Wp_bind]
  refine (hC n (by omega) h S p nd sp' 0 d (ofBytes []) kind r st hsrc is i hk hk2 (by omega) hd hr).mono fun x h1 hx => ?_
  obtain ⟨S1, st1, f1, hx⟩ := hx
  have hb1 := f1.b
  rw [← hb1]
  cases r with
  | ok p2 =>
    obtain ⟨rfl, e1, is1⟩ := hx
    simp only [sumElim, Wp_bind, Wp_nn', Wp_ldI, Wp_ldS, Wp_ldV, Wp_ldB, Wp_idxS, Wp_sliceS, Wp_pure, plus_eq, Nat.zero_add, Nat.reduceAdd, Option.some.injEq, exists_eq_left', decide_eq_true_eq, st1.ldErr, st1.ldAt, st1.ldSrc, st1.ldNodes, st1.ldSpans]
    have hnd : nd < p.nodes.length := by obtain ⟨x, hx, _⟩ := hk; exact (List.getElem?_eq_some_iff.1 hx).1
    have hp2 := (run_pos i hnd hr).pos
    have e2 : IntKind.i64.wrap (S1.at' + 1) = ((p2.pos : Nat) : Int) := by rw [e1, w64 (by omega) (by omega)]
    rw [e2]
    exact st1.setAt fun h2 st2 f2 => ⟨_, st2, f1.trans st.wf f2, is1⟩
  | error e =>
    obtain ⟨hf, hx2⟩ := hx
    cases x with
    | inl u =>
      simp only [sumElim, Wp_bind, Wp_nn', Wp_ldI, Wp_ldS, Wp_ldV, Wp_ldB, Wp_idxS, Wp_sliceS, Wp_pure, plus_eq, Nat.zero_add, Nat.reduceAdd, Option.some.injEq, exists_eq_left', decide_eq_true_eq, st1.ldErr, st1.ldAt, st1.ldSrc, st1.ldNodes, st1.ldSpans]
      exact st1.setAt fun h2 st2 f2 => ⟨_, st2, f1.trans st.wf f2, Fail.at hf, ⟨hx2.nodes, hx2.len, hx2.spans⟩⟩
    | inr u =>
      simp only [sumElim, Wp_pure]
      exact ⟨S1, st1, f1, hf, hx2⟩
theorem content_fail {e : Nat × Int} (st : St h S) (hf : Fail S e) (hn : 2 ≤ n) {a1 a2 a3 : Int} : Wp (rosettaref34_State_content n (some (adr S.b)) a1 a2 a3) h fun _ h' => ∃ v, St h' (S.wAt v) ∧ Stp h S h' (S.wAt v) := by
  obtain ⟨n, rfl⟩ : ∃ k, n = k + 1 := ⟨n - 1, by omega⟩
  rw [rosettaref34_State_content_succ]
  unfold rosettaref34_State_content_B
  rw [Wp_bind]
  refine contL_stop st hf (by omega) ?_
  simp only [sumElim, Wp_bind, Wp_nn', Wp_ldI, Wp_ldS, Wp_ldV, Wp_ldB, Wp_idxS, Wp_sliceS, Wp_pure, plus_eq, Nat.zero_add, Nat.reduceAdd, Option.some.injEq, exists_eq_left', decide_eq_true_eq, st.ldErr, st.ldAt, st.ldSrc, st.ldNodes, st.ldSpans]
  exact st.setAt fun h2 st2 f2 => ⟨_, st2, f2⟩
def Mid (S : PSt) (rr : Rs (Int × PV)) (nn : Int) (S' : PSt) : Prop := match rr with
  | .ok (n, p) => nn = n ∧ Is S' p
  | .error e => Fail S' e ∧ Ext (fun _ => False) S S'
def finR (i : Nat) (rr : Rs (Int × PV)) : Rs (Int × PV) := match rr with
  | .error e => .error e
  | .ok (nn, p) => .ok (nn, { p with spans := p.spans.modify i fun x => { x with node := nn, to := p.pos } })
theorem rvalue_J3 (G : Cl_rosettaref34_State_value) {i : Nat} {nn : Int} (st : St h S) (hi : i < S.spans.length) :
    Wp (rosettaref34_State_value_J3_B G n (some (adr S.b)) i nn) h fun x h' => x = nn ∧ ∃ S', St h' S' ∧ Stp h S h' S' ∧ S' = S.wSpans S.ssl S.sg (S.spans.modify i fun x => { x with node := nn, to := S.at' }) := by
  unfold rosettaref34_State_value_J3_B
  have hx : S.spans[i]? = some S.spans[i] := List.getElem?_eq_getElem hi
  generalize S.spans[i] = y at hx
  obtain ⟨bn, base, ha, _, _⟩ := st.spanBlk (by omega)
  have hlen := st.spans_len
  simp only [Wp_bind, Wp_nn', Wp_ldI, Wp_ldS, Wp_ldV, Wp_ldB, Wp_idxS, Wp_sliceS, Wp_pure, plus_eq, Nat.zero_add, Nat.reduceAdd, Option.some.injEq, exists_eq_left', decide_eq_true_eq, st.ldErr, st.ldAt, st.ldSrc, st.ldNodes, st.ldSpans, Wp_idxA, ha, exists_eq_left', Int.toNat_natCast]
  refine ⟨by omega, by omega, ?_⟩
  refine st.setSpan (o := 0) (x' := { y with node := nn }) ha hx (by omega) rfl rfl fun h2 st2 f2 => ?_
  refine ⟨by omega, by omega, ?_⟩
  refine St.setSpan (S := S.wSpans S.ssl S.sg (S.spans.set i { y with node := nn })) (i := i) (o := 4) (x := { y with node := nn }) (x' := { y with node := nn, to := S.at' }) st2 ha (List.getElem?_set_self hi) (by omega) rfl rfl fun h3 st3 f3 => ?_
  refine ⟨by trivial, _, st3, f2.trans st.wf f3, ?_⟩
  simp only [PSt.wSpans]
  rw [List.set_set, modify_set hx]
theorem J3_fin (G : Cl_rosettaref34_State_value) {h0 h6 : AHeap} {S0 S6 : PSt} {i : Nat} {rr : Rs (Int × PV)} {nn : Int} (hw0 : WF h0) (f06 : Stp h0 S0 h6 S6) (e06 : Ext (fun _ => False) S0 S6) (hi6 : i < S6.spans.length)
    (st : St h S) (f : Stp h6 S6 h S) (hi : ∀ nn p, rr = .ok (nn, p) → i < p.spans.length) (hx : Mid S6 rr nn S) :
    Wp (rosettaref34_State_value_J3_B G n (some (adr S.b)) i nn) h fun x h' => ResN h0 S0 (finR i rr) x h' := by
  have f0 := f06.trans hw0 f
  cases rr with
  | ok q =>
    obtain ⟨n1, p⟩ := q
    obtain ⟨rfl, is⟩ := hx
    have hi := hi _ _ rfl
    refine (rvalue_J3 G st (by rw [is.2.2.1]; exact hi)).mono fun x h2 hx => ?_
    obtain ⟨rfl, S2, st2, f2, rfl⟩ := hx
    refine ⟨_, st2, f0.trans hw0 f2, rfl, is.1, is.2.1, ?_, is.2.2.2⟩
    show S.spans.modify _ _ = _
    rw [is.1, is.2.2.1]
  | error e =>
    obtain ⟨hf, he⟩ := hx
    refine (rvalue_J3 G st (Nat.lt_of_lt_of_le hi6 he.spans)).mono fun x h2 hx => ?_
    obtain ⟨rfl, S2, st2, f2, rfl⟩ := hx
    refine ⟨_, st2, f0.trans hw0 f2, hf, (e06.trans he).trans ?_⟩
    exact Ext.same rfl (by show (S.spans.modify _ _).length = _; simp)
theorem node_then {p : PV} (hp : p.nodes.length ≤ 4096) (st : St h S) (is : Is S p) (kind : Int) (t : ByteArray) (frm d : Nat) {Q : Int → AHeap → Prop} {k : Int → M Int}
    (hfin : ∀ nn h' S', St h' S' → Stp h S h' S' → Mid S (spNode p ⟨kind, t, false, [], []⟩ frm d) nn S' → Wp (k nn) h' Q) : Wp (M.bind (rosettaref34_State_node n (some (adr S.b)) (kind, t, false, sl0, sl0) frm d) k) h Q := by
  rw [Wp_bind]
  refine (ref_node st is hp kind t frm d).mono fun x h1 hx => ?_
  obtain ⟨_, S1, st1, f1, hx⟩ := hx
  exact hfin x h1 S1 st1 f1 (by unfold Mid; revert hx; cases spNode p ⟨kind, t, false, [], []⟩ frm d <;> exact id)
theorem J2_wp {s : ByteArray} {m : Nat} (hs : s.size ≤ 65536) (hC : RC s m) (hn : 3 * m + s.size + 41 ≤ n) {p : PV} {x : SpanV} {d : Nat} {kind : Int} {rr : Rs (Int × PV)} (st : St h S) (hsrc : S.src = s)
    (is : Is S { p with spans := p.spans ++ [x] }) (i : Inv s p) (hlt : p.pos < s.size) (hk2 : kind = 9 ∨ kind = 10) (hd : d ≤ 33) {sp' : Nat} (hr : spOpen s (sp s m) { p with spans := p.spans ++ [x] } sp' d kind = some rr) {Q : Int → AHeap → Prop}
    (hfin : ∀ nn h' S', St h' S' → Stp h S h' S' → Mid S rr nn S' → Wp (rosettaref34_State_value_J3_B (Cl_rosettaref34_State_value.at n) n (some (adr S'.b)) sp' nn) h' Q) :
    Wp (rosettaref34_State_value_J2_B (Cl_rosettaref34_State_value.at n) n (some (adr S.b)) d p.pos sp' kind) h Q := by
  unfold rosettaref34_State_value_J2_B
  unfold spOpen at hr
  have ip := i.pos
  rw [Wp_bind]
  refine (ref_node st is i.nodes kind (ofBytes []) p.pos d).mono fun y h1 hy => ?_
  obtain ⟨hy0, S1, st1, f1, hy⟩ := hy
  have hb1 := f1.b
  rw [← hb1]
  simp only [Wp_bind, Wp_nn', Wp_ldI, Wp_ldS, Wp_ldV, Wp_ldB, Wp_idxS, Wp_sliceS, Wp_pure, plus_eq, Nat.zero_add, Nat.reduceAdd, Option.some.injEq, exists_eq_left', decide_eq_true_eq, st1.ldErr, st1.ldAt, st1.ldSrc, st1.ldNodes, st1.ldSpans]
  refine st1.setAt fun h2 st2 f2 => ?_
  have e1 : IntKind.i64.wrap ((d : Int) + 1) = (d + 1 : Nat) := by rw [w64 (by omega) (by omega)]; simp
  rw [e1]
  cases hnode : spNode { p with spans := p.spans ++ [x] } ⟨kind, ofBytes [], false, [], []⟩ p.pos d with
  | error e =>
    rw [hnode] at hy hr
    cases hr
    obtain ⟨hf1, he1⟩ := hy
    have hb2 : (S1.wAt (IntKind.i64.wrap (S1.at' + 1))).b = S1.b := rfl
    have hf2 : Fail (S1.wAt (IntKind.i64.wrap (S1.at' + 1))) e := Fail.at hf1
    have he2 : Ext (fun _ => False) S (S1.wAt (IntKind.i64.wrap (S1.at' + 1))) := ⟨he1.nodes, he1.len, he1.spans⟩
    have f02 := f1.trans st.wf f2
    generalize S1.wAt (IntKind.i64.wrap (S1.at' + 1)) = S2 at *
    rw [← hb2]
    refine (content_fail st2 hf2 (by omega)).mono fun _ h3 hx => ?_
    obtain ⟨v, st3, f3⟩ := hx
    exact hfin y h3 (S2.wAt v) st3 (f02.trans st.wf f3) ⟨Fail.at hf2, ⟨he2.nodes, he2.len, he2.spans⟩⟩
  | ok q =>
    obtain ⟨nn, p1⟩ := q
    rw [hnode] at hy hr
    obtain ⟨rfl, is1⟩ := hy
    obtain ⟨rfl, rfl, h4, h5⟩ := spNode_ok hnode
    simp only at hr
    have e2 : IntKind.i64.wrap ((p.pos : Int) + 1) = (p.pos + 1 : Nat) := by rw [w64 (by omega) (by omega)]; simp
    have e0 : S1.at' = (p.pos : Int) := is1.1
    rw [e0, e2] at st2 f2
    have is2 := is1.at (p.pos + 1)
    have hb2 : (S1.wAt ((p.pos + 1 : Nat) : Int)).b = S1.b := rfl
    have hs2 : (S1.wAt ((p.pos + 1 : Nat) : Int)).src = s := f1.src.trans hsrc
    have en : Ext (fun _ => False) S (S1.wAt ((p.pos + 1 : Nat) : Int)) := by
      have a1 := is.2.1
      have a2 := is1.2.1
      refine ⟨fun j y hy _ => ?_, ?_, ?_⟩
      · have b1 : (S.nodes.map NodeR.v)[j]? = some y.v := by rw [List.getElem?_map, hy]; rfl
        have b2 : (S1.nodes.map NodeR.v)[j]? = some y.v := by
          rw [a2, List.getElem?_append_left (by rw [← a1]; exact (List.getElem?_eq_some_iff.1 b1).1), ← a1, b1]
        rw [List.getElem?_map] at b2
        cases hq : S1.nodes[j]? with
        | none => rw [hq] at b2; cases b2
        | some y' => rw [hq] at b2; exact ⟨y', hq, Option.some.inj b2⟩
      · show S.nodes.length ≤ S1.nodes.length
        have b1 := congrArg List.length a1
        have b2 := congrArg List.length a2
        simp at b1 b2
        omega
      · show S.spans.length ≤ S1.spans.length
        rw [is.2.2.1, is1.2.2.1]; exact Nat.le_refl _
    have hnl : S.nodes.length ≤ p.nodes.length := by rw [← List.length_map (f := NodeR.v), is.2.1]; exact Nat.le_refl _
    generalize S1.wAt ((p.pos + 1 : Nat) : Int) = S2 at *
    rw [← hb2]
    have i2 := inv_open (x := x) (kind := kind) i hlt h4
    cases hl : Run s m kind p.nodes.length sp' 0 d (ofBytes []) { p with pos := p.pos + 1, nodes := p.nodes ++ [⟨kind, ofBytes [], false, [], []⟩], spans := p.spans ++ [x] } with
    | none => unfold Run at hl; erw [hl] at hr; cases hr
    | some q =>
      have hl' := hl
      unfold Run at hl
      erw [hl] at hr
      refine (content_wp hs hC hn (h := h2) (S := S2) (nd := p.nodes.length) (kind := kind) st2 hs2 is2 i2 ⟨⟨kind, ofBytes [], false, [], []⟩, by simp, rfl⟩ hk2 h5 hl').mono fun _ h3 hx => ?_
      obtain ⟨S3, st3, f3, hx⟩ := hx
      have f03 := (f1.trans st.wf f2).trans st.wf f3
      have hb3 := f3.b
      rw [← hb3]
      cases q with
      | error e =>
        cases hr
        exact hfin _ _ _ st3 f03 ⟨hx.1, en.comp hx.2 hnl⟩
      | ok p2 =>
        cases hr
        exact hfin _ _ _ st3 f03 ⟨rfl, hx⟩
end Go.Sh
