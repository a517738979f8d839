/-
Contracts of the reference's parser: a dictionary's entry, the content's step, all together.
-/
import Derived.Test.YtcgicpibdffpfaaDoorRj
set_option linter.all false
namespace Go.Sh
open Go Go.Ago Go.Proofs
variable {h h' : AHeap} {S S' : PSt} {n : Nat}
theorem Ext.vapp {ex : Nat → Prop} {S S7 : PSt} {p q : PV} {x : NodeV} (a : Is S p) (b : Is S7 q) (h1 : q.nodes = p.nodes ++ [x]) (h2 : q.spans = p.spans) : Ext ex S S7 := by
  have a1 := a.2.1
  have a2 := b.2.1
  rw [h1] at a2
  refine ⟨fun j y hy _ => ?_, ?_, ?_⟩
  · have b1 : (S.nodes.map NodeR.v)[j]? = some y.v := by rw [List.getElem?_map, hy]; rfl
    have b2 : (S7.nodes.map NodeR.v)[j]? = some y.v := by
      rw [a2, List.getElem?_append_left (by rw [← a1]; exact (List.getElem?_eq_some_iff.1 b1).1), ← a1, b1]
    rw [List.getElem?_map] at b2
    cases hq : S7.nodes[j]? with
    | none => rw [hq] at b2; cases b2
    | some y' => rw [hq] at b2; exact ⟨y', rfl, Option.some.inj b2⟩
  · have b1 := congrArg List.length a1
    have b2 := congrArg List.length a2
    simp at b1 b2
    omega
  · rw [a.2.2.1, b.2.2.1, h2]; exact Nat.le_refl _
def MidP (S0 : PSt) (rr : Rs PV) (S : PSt) : Prop := Ext (fun _ => False) S0 S ∧ match rr with
  | .ok p => Is S p
  | .error e => Fail S e
def orFail (rr : Rs PV) (e : Nat × Int) : Rs PV := match rr with
  | .ok _ => .error e
  | .error e' => .error e'
theorem fail_mid {S0 : PSt} {rr : Rs PV} {a : Nat} {e : Int} (st : St h S) (hm : MidP S0 rr S) (he : e ≠ 0) : Wp (rosettaref34_State_fail n (some (adr S.b)) e a) h fun _ h' => ∃ S', St h' S' ∧ Stp h S h' S' ∧ MidP S0 (orFail rr (a, e)) S' := by
  refine (ref_fail st _ _).mono fun _ h' hx => ⟨_, hx.1, hx.2, ?_⟩
  obtain ⟨hx0, hm⟩ := hm
  obtain ⟨w1, w2, _⟩ := failed_nodes (S := S) (a : Int) e
  refine ⟨hx0.trans (Ext.same w1 (by rw [w2])), ?_⟩
  cases rr with
  | ok p => exact failed_ok hm.2.2.2 he
  | error q =>
    have h0 : S.failed a e = S := by unfold PSt.failed; rw [if_neg (by rw [hm.2.1]; exact hm.2.2)]
    rw [h0]; exact hm
def addKey (p : PV) (nd : Nat) (key : Int) : PV := md nd (fun x => { x with keys := x.keys ++ [key] }) p
theorem entry_eq (p : PV) (nd : Nat) (key it : Int) : addItem (addKey p nd key) nd it = addEntry p nd key it := by
  unfold addItem addKey md addEntry
  simp only
  congr 1
  apply List.ext_getElem?
  intro j
  simp only [List.getElem?_modify, Int.toNat_natCast]
  cases p.nodes[j]? with
  | none => rfl
  | some y => by_cases hj : nd = j <;> simp [hj]
def contD (s : ByteArray) (m nd sp' k d a0 a key : Nat) (t : ByteArray) : Rs PV → Option (Rs PV)
  | .error e => some (.error e)
  | .ok p1 => (match (sp s m).V (span0 sp' k a0 a) (d + 1) p1 with
    | none => none
    | some (.error e) => some (.error e)
    | some (.ok (it, p2)) => (sp s m).D nd sp' (k + 1) d t (addEntry p2 nd key it))
theorem dict_J2 {s : ByteArray} {m : Nat} (hs : s.size ≤ 65536) (hV : RV s m) (hC : RC s m) (hn : 3 * m + s.size + 40 ≤ n) {h0 : AHeap} {S0 : PSt} {b nd sp' k d a0 a : Nat} {last t : ByteArray} {p0 p1 : PV} {rr : Rs PV} {r : Rs PV}
    (hw0 : WF h0) (l : Lc h0 S0 h S b (span0 sp' k 0 0).enc T_api_Span) (hm : MidP S0 rr S) (hsrc : S.src = s) (is0 : Is S0 p0) (i0 : Inv s p0) (hk : ∃ x, p0.nodes[nd]? = some x ∧ x.kind = 10) (hkp : k ≤ p0.pos) (hd : d ≤ 32) {key : Nat}
    (hok : ∀ p, rr = .ok p → p = p1 ∧ (∀ ex, Adv s ex p0 p1) ∧ p1.pos = a ∧ p1.spans = p0.spans)
    (hr : contD s m nd sp' k d a0 a key t rr = some r) :
    Wp (rosettaref34_State_content_L0_J2_B (Cl_rosettaref34_State_value.at n) n (some (adr S.b)) nd sp' (d + 1 : Nat) last k (adr b) a0 t key) h (ResC h0 S0 nd r) := by
  unfold rosettaref34_State_content_L0_J2_B
  have st := l.st
  have ip := i0.pos
  obtain ⟨x, hx, hxk⟩ := hk
  have hnd : nd < p0.nodes.length := (List.getElem?_eq_some_iff.1 hx).1
  obtain ⟨y0, hy0, hy0'⟩ := node_get is0 hnd
  obtain ⟨y, hy, hyv⟩ := hm.1.nodes nd y0 hy0 (fun h => h)
  have hyl : y.kl.length ≤ 65536 := by
    have h3 := (i0.items _ (List.mem_of_getElem? hy0')).2
    have h2 : y.v.keys = y0.v.keys := by rw [hyv]
    have h4 : y.kl.length = y0.v.keys.length := by rw [← h2]; rfl
    omega
  simp only [Wp_bind, Wp_nn', Wp_ldI, Wp_ldS, Wp_ldV, Wp_ldB, Wp_idxS, Wp_sliceS, Wp_pure, plus_eq, Nat.zero_add, Nat.reduceAdd, Option.some.injEq, exists_eq_left', decide_eq_true_eq, st.ldErr, st.ldAt, st.ldSrc, st.ldNodes, st.ldSpans]
  refine chk_Wp ?_
  refine l.put hw0 (o := 5) (by simp [SpanV.enc]) rfl fun h2 l2 hg2 => ⟨fun q hq => ?_, ?_⟩
  · simp only [List.mem_cons, Option.some.injEq, List.not_mem_nil, or_false] at hq
    subst hq; exact hg2
  refine l2.put hw0 (o := 6) (by simp [SpanV.enc, splice]) rfl fun h3 l3 _ => ?_
  have henc : splice (splice (span0 sp' k 0 0).enc 5 [vi a0]) 6 [vi S.at'] = (span0 sp' k a0 S.at').enc := rfl
  rw [henc] at l3
  have st3 := l3.st
  have hlt := (List.getElem?_eq_some_iff.1 hy).1
  obtain ⟨bn, base, ha, _, _⟩ := st3.nodeBlk (by omega)
  have hlen := st3.nodes_len
  simp only [Wp_bind, Wp_nn', Wp_ldI, Wp_ldS, Wp_ldV, Wp_ldB, Wp_idxS, Wp_sliceS, Wp_pure, plus_eq, Nat.zero_add, Nat.reduceAdd, Option.some.injEq, exists_eq_left', decide_eq_true_eq, st3.ldErr, st3.ldAt, st3.ldSrc, st3.ldNodes, st3.ldSpans, Wp_idxA, ha, exists_eq_left', Int.toNat_natCast, st3.ldKeys hy ha]
  refine ⟨by omega, by omega, ?_⟩
  refine St.addKeyN st3 hy ha (by unfold bigN; omega) fun s' h4 hput => ?_
  refine ⟨by omega, by omega, ?_⟩
  refine hput.mono fun _ h5 hx5 => ?_
  obtain ⟨g', st5, f5⟩ := hx5
  have l5 := l3.go hw0 st5 f5
  have hb5 : (S.wNodes S.nsl S.ng (S.nodes.set nd { y with ks := s', kl := y.kl ++ [(key : Int)], kg := g' })).b = S.b := rfl
  have he5 : Ext (· = nd) S0 (S.wNodes S.nsl S.ng (S.nodes.set nd { y with ks := s', kl := y.kl ++ [(key : Int)], kg := g' })) := (hm.1.weak (fun _ h => h.elim)).trans Ext.set
  have herr5 : (S.wNodes S.nsl S.ng (S.nodes.set nd { y with ks := s', kl := y.kl ++ [(key : Int)], kg := g' })).err = S.err := rfl
  have hs5 : (S.wNodes S.nsl S.ng (S.nodes.set nd { y with ks := s', kl := y.kl ++ [(key : Int)], kg := g' })).src = s := hsrc
  cases rr with
  | error e =>
    have hr : some (.error e) = some r := hr
    cases hr
    have hf5 : Fail (S.wNodes S.nsl S.ng (S.nodes.set nd { y with ks := s', kl := y.kl ++ [(key : Int)], kg := g' })) e := hm.2
    generalize S.wNodes S.nsl S.ng (S.nodes.set nd { y with ks := s', kl := y.kl ++ [(key : Int)], kg := g' }) = S5 at *
    rw [← hb5]
    simp only [st5.ldErr, st5.ldAt, st5.ldSrc, st5.ldNodes, st5.ldSpans, Option.some.injEq, exists_eq_left']
    refine ite_yes (by rw [hf5.2.1]; simp; exact hf5.2.2) ?_
    rw [Wp_pure]
    exact ⟨S5, st5, l5.f, hf5, he5⟩
  | ok p =>
    obtain ⟨rfl, ap, hpa, hps⟩ := hok p rfl
    have is := hm.2
    have hat : S.at' = a := by rw [is.1, hpa]
    have a1 := ap (nd + 1)
    have hnd1 : nd < p.nodes.length := Nat.lt_of_lt_of_le hnd a1.nodes
    have is5 : Is (S.wNodes S.nsl S.ng (S.nodes.set nd { y with ks := s', kl := y.kl ++ [(key : Int)], kg := g' })) (addKey p nd key) := by
      refine ⟨is.1, ?_, is.2.2.1, is.2.2.2⟩
      exact map_set (f := fun x => { x with keys := x.keys ++ [(key : Int)] }) is hy rfl
    have am := Adv.modify (f := fun x => { x with keys := x.keys ++ [(key : Int)] }) i0 ap hnd (by simp)
    generalize S.wNodes S.nsl S.ng (S.nodes.set nd { y with ks := s', kl := y.kl ++ [(key : Int)], kg := g' }) = S5 at *
    rw [← hb5]
    have err5 : S5.err = 0 := is5.2.2.2
    simp only [st5.ldErr, st5.ldAt, st5.ldSrc, st5.ldNodes, st5.ldSpans, Option.some.injEq, exists_eq_left', err5]
    refine Wp_ite.2 ⟨fun e => by simp at e, fun _ => ?_⟩
    rw [hat] at l5
    refine J3_cont (kind := 10) hs hV hC hn hw0 l5 he5 hs5 is5 am.inv ⟨{ x with keys := x.keys ++ [(key : Int)] }, ?_, hxk⟩ (.inr rfl) ?_ hd ?_
    · have hpre := a1.pre nd hnd (by omega)
      show (p.nodes.modify nd _)[nd]? = _
      rw [List.getElem?_modify, hpre, hx]; simp
    · show k ≤ p.pos
      have := a1.pos; omega
    · have hc := (sp_comm s m).V (span0 sp' k a0 a) (d + 1) p nd (fun x => { x with keys := x.keys ++ [(key : Int)] }) hnd1
      show (match (sp s m).V (span0 sp' k a0 a) (d + 1) (md nd (fun x => { x with keys := x.keys ++ [(key : Int)] }) p) with
        | none => none
        | some (.error e) => some (.error e)
        | some (.ok (it, p2)) => Run s m 10 nd sp' (k + 1) d t (addItem p2 nd it)) = some r
      rw [hc]
      unfold contD at hr
      simp only at hr
      cases hv : (sp s m).V (span0 sp' k a0 a) (d + 1) p with
      | none => rw [hv] at hr; cases hr
      | some rv =>
        rw [hv] at hr
        cases rv with
        | error e => exact hr
        | ok q =>
          obtain ⟨it, p2⟩ := q
          simp only [Option.map_some, mapN]
          have := entry_eq p2 nd key it
          unfold addKey at this
          rw [this]
          unfold Run
          rw [if_neg (by decide)]
          exact hr
end Go.Sh
