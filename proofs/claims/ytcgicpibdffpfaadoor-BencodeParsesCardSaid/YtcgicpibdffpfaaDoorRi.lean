/-
Contracts of the reference's parser: the step of a value.
-/
import Derived.Test.YtcgicpibdffpfaaDoorRh
set_option linter.all false
namespace Go.Sh
open Go Go.Ago Go.Proofs
variable {h h' : AHeap} {S S' : PSt} {n : Nat}
theorem spText_size {s : ByteArray} {a a2 : Nat} {t : ByteArray} (ht : spText s a = .ok (t, a2)) : t.size ≤ s.size := by
  unfold spText at ht
  simp only at ht
  split at ht
  · cases ht
  · split at ht
    · cases ht
    · split at ht
      · cases ht
      · split at ht
        · split at ht
          · cases ht
          · simp only [Except.ok.injEq, Prod.mk.injEq] at ht
            rw [← ht.1, ← size_toList, ex_list, List.length_take, List.length_drop, size_toList]; omega
        · cases ht
theorem nodes_of {S S7 : PSt} {p q : PV} (a : Is S p) (b : Is S7 q) (h : q.nodes = p.nodes) : S7.nodes.map NodeR.v = S.nodes.map NodeR.v := by rw [a.2.1, b.2.1, h]
theorem Ext.vsame {ex : Nat → Prop} {S S7 : PSt} {p q : PV} (a : Is S p) (b : Is S7 q) (h1 : q.nodes = p.nodes) (h2 : q.spans = p.spans) : Ext ex S S7 := by
  have hv := nodes_of a b h1
  refine ⟨fun j y hy _ => ?_, ?_, ?_⟩
  · have b2 : (S7.nodes.map NodeR.v)[j]? = some y.v := by rw [hv, List.getElem?_map, hy]; rfl
    rw [List.getElem?_map] at b2
    cases hq : S7.nodes[j]? with
    | none => rw [hq] at b2; cases b2
    | some y' => rw [hq] at b2; exact ⟨y', rfl, Option.some.inj b2⟩
  · have := congrArg List.length hv
    simp at this; omega
  · rw [a.2.2.1, b.2.2.1, h2]; exact Nat.le_refl _
theorem J0_wp {G : Cl_rosettaref34_State_value} {s : ByteArray} {p : PV} {d i : Nat} {c : UInt8} (st : St h S) (is : Is S p) (hsrc : S.src = s) (hs : s.size ≤ 65536) (hn : s.size + 22 < n) (hp : p.nodes.length ≤ 4096)
    (hc : s.data.toList[p.pos]? = some c) {rr : Rs (Int × PV)} (hr : rr = if c = 105 then spInt s p d else spStr s p d) {Q : Int → AHeap → Prop}
    (hfin : ∀ nn h' S', St h' S' → Stp h S h' S' → Mid S rr nn S' → Wp (rosettaref34_State_value_J3_B G n (some (adr S'.b)) i nn) h' Q) :
    Wp (rosettaref34_State_value_J0_B G n (some (adr S.b)) d p.pos i 0 c.toNat) h Q := by
  unfold rosettaref34_State_value_J0_B
  have hlt := get_lt hc
  have hcc : ((c.toNat : Int) = 105) ↔ c = 105 := byte_eq c 105 (by omega)
  by_cases h1 : c = 105
  · rw [if_pos (decide_eq_true (hcc.2 h1))]
    rw [if_pos h1, spInt_T] at hr
    rw [Wp_bind]
    refine (ref_integer st is (by rw [hsrc]; exact hs) (by rw [hsrc, hc, h1]) (by rw [hsrc]; omega)).mono fun x h7 hx => ?_
    obtain ⟨S7, st7, f7, hx⟩ := hx
    rw [hsrc] at hx
    have hb := f7.b
    rw [← hb]
    simp only [Wp_bind, Wp_nn', Wp_ldI, Wp_ldS, Wp_ldV, Wp_ldB, Wp_idxS, Wp_sliceS, Wp_pure, plus_eq, Nat.zero_add, Nat.reduceAdd, Option.some.injEq, exists_eq_left', decide_eq_true_eq, st7.ldErr, st7.ldAt, st7.ldSrc, st7.ldNodes, st7.ldSpans]
    cases hT : spIntT s p with
    | error e =>
      rw [hT] at hx hr
      obtain ⟨_, hf, q1, q2⟩ := hx
      have hne : ¬ S7.err = 0 := by rw [hf.2.1]; exact hf.2.2
      rw [if_neg hne]
      rw [hr] at hfin
      exact hfin 0 h7 S7 st7 f7 ⟨hf, Ext.same q1 (by rw [q2])⟩
    | ok q =>
      obtain ⟨t, a⟩ := q
      rw [hT] at hx hr
      obtain ⟨rfl, is7⟩ := hx
      rw [if_pos is7.2.2.2]
      simp only at hr
      rw [hr] at hfin
      refine node_then (p := { p with pos := a }) hp st7 is7 2 x p.pos d fun nn h8 S8 st8 f8 hm => ?_
      rw [← f8.b]
      refine hfin nn h8 S8 st8 (f7.trans st.wf f8) ?_
      revert hm
      unfold Mid
      cases spNode { p with pos := a } ⟨2, x, false, [], []⟩ p.pos d with
      | ok q => exact id
      | error e => exact fun hm => ⟨hm.1, (Ext.vsame (ex := fun _ => False) is is7 rfl rfl).trans hm.2⟩
  · rw [if_neg (by simp; intro e; exact h1 (hcc.1 e))]
    rw [if_neg h1] at hr
    unfold spStr at hr
    rw [Wp_bind]
    refine (ref_text st is (by rw [hsrc]; exact hs) (by rw [hsrc]; omega) (by rw [hsrc]; omega)).mono fun x h7 hx => ?_
    obtain ⟨S7, st7, f7, hx⟩ := hx
    rw [hsrc] at hx
    have hb := f7.b
    have hxs : x.size ≤ s.size := by
      cases hT : spText s p.pos with
      | error e => rw [hT] at hx; exact hx.1
      | ok q =>
        obtain ⟨t, a⟩ := q
        rw [hT] at hx
        rw [hx.1]
        exact spText_size hT
    rw [Wp_bind]
    refine (valid01 (by omega) (by omega) st7.wf).mono fun v h8 hv => ?_
    obtain ⟨rfl, f8⟩ := hv
    obtain ⟨st8, f8⟩ := st7.pure f8
    have f08 := f7.trans st.wf f8
    rw [← hb]
    have J1 : ∀ k : Int, k = (if u8 x then 5 else 6) → Wp (rosettaref34_State_value_J1_B G n (some (adr S7.b)) d p.pos i 0 x k) h8 Q := by
      intro k hk
      unfold rosettaref34_State_value_J1_B
      simp only [Wp_bind, Wp_nn', Wp_ldI, Wp_ldS, Wp_ldV, Wp_ldB, Wp_idxS, Wp_sliceS, Wp_pure, plus_eq, Nat.zero_add, Nat.reduceAdd, Option.some.injEq, exists_eq_left', decide_eq_true_eq, st8.ldErr, st8.ldAt, st8.ldSrc, st8.ldNodes, st8.ldSpans]
      cases hT : spText s p.pos with
      | error e =>
        rw [hT] at hx hr
        obtain ⟨_, hf, q1, q2⟩ := hx
        have hne : ¬ S7.err = 0 := by rw [hf.2.1]; exact hf.2.2
        rw [if_neg hne]
        rw [hr] at hfin
        exact hfin 0 h8 S7 st8 f08 ⟨hf, Ext.same q1 (by rw [q2])⟩
      | ok q =>
        obtain ⟨t, a⟩ := q
        rw [hT] at hx hr
        obtain ⟨rfl, is7⟩ := hx
        rw [if_pos is7.2.2.2]
        simp only at hr
        rw [← hk] at hr
        rw [hr] at hfin
        refine node_then (p := { p with pos := a }) hp st8 is7 k x p.pos d fun nn h9 S9 st9 f9 hm => ?_
        rw [← f9.b]
        refine hfin nn h9 S9 st9 (f08.trans st.wf f9) ?_
        revert hm
        unfold Mid
        cases spNode { p with pos := a } ⟨k, x, false, [], []⟩ p.pos d with
        | ok q => exact id
        | error e => exact fun hm => ⟨hm.1, (Ext.vsame (ex := fun _ => False) is is7 rfl rfl).trans hm.2⟩
    cases hu : u8 x with
    | false =>
      refine ite_yes rfl ?_
      exact J1 6 (by rw [hu]; rfl)
    | true =>
      refine Wp_ite.2 ⟨fun e => by simp at e, fun _ => ?_⟩
      exact J1 5 (by rw [hu]; rfl)
theorem rvalue_step {s : ByteArray} {m : Nat} (hs : s.size ≤ 65536) (hC : RC s m) : RV s (m + 1) := by
  intro n hn h S p sn d r st hsrc is i hd hr
  obtain ⟨n, rfl⟩ : ∃ k, n = k + 1 := ⟨n - 1, by omega⟩
  rw [rosettaref34_State_value_succ]
  unfold rosettaref34_State_value_B
  rw [Wp_bind, Wp_new]
  refine ⟨rfl, ?_⟩
  simp only [sp, spV] at hr
  show Wp _ (h.new T_api_Span sn.enc) _
  obtain ⟨st1, f1⟩ := Stp.new st (e := T_api_Span) (cs := sn.enc)
  have l1 := LB.new (h := h) (e := T_api_Span) (cs := sn.enc)
  have hx1 : ∀ t, S.grp t ≤ h.next := st.le
  generalize hb0 : h.next = b0 at *
  generalize h.new T_api_Span sn.enc = h1 at *
  have hl : s.data.toList.length = s.size := size_toList s
  simp only [Wp_bind, Wp_nn', Wp_ldI, Wp_ldS, Wp_ldV, Wp_ldB, Wp_idxS, Wp_sliceS, Wp_pure, plus_eq, Nat.zero_add, Nat.reduceAdd, Option.some.injEq, exists_eq_left', decide_eq_true_eq, st1.ldErr, st1.ldAt, st1.ldSrc, st1.ldNodes, st1.ldSpans, is.1]
  have nofp : ¬ S.fp (b0 + 1) := by rintro ⟨t, ht⟩; have := hx1 t; omega
  refine l1.st st1.wf (by simp [SpanV.enc]) rfl fun h3 l3 f3 => ?_
  have fx : ∀ t, S.grp t = b0 + 1 → S.grp t = 0 := fun t ht => absurd ⟨t, ht.symm⟩ nofp
  have st3 : St h3 S := st1.fr f3 fx
  refine l3.st st3.wf (by simp [SpanV.enc, splice]) rfl fun h4 l4 f4 => ?_
  have st4 : St h4 S := st3.fr f4 fx
  have f04 : Stp h S h4 S := ⟨rfl, (f1.fr.fresh st.wf f3 fun g hg => .inr (by omega)).fresh st.wf f4 fun g hg => .inr (by omega), fun t => .inr (.inl ⟨t, rfl⟩)⟩
  simp only [Wp_bind, Wp_nn', Wp_ldI, Wp_ldS, Wp_ldV, Wp_ldB, Wp_idxS, Wp_sliceS, Wp_pure, plus_eq, Nat.zero_add, Nat.reduceAdd, Option.some.injEq, exists_eq_left', decide_eq_true_eq, st4.ldErr, st4.ldAt, st4.ldSrc, st4.ldNodes, st4.ldSpans]
  refine Wp_ldLs.2 ⟨({ sn with frm := p.pos, whole := true } : SpanV).tup, l4.lds (by simp [SpanV.enc, splice]) rfl, ?_⟩
  have hsp : S.spans = p.spans := is.2.2.1
  have isp := i.spans
  have ip := i.pos
  refine St.addSpan (x := { sn with frm := p.pos, whole := true }) st4 (by rw [hsp]; unfold bigN; omega) fun s' h5 hput => ?_
  refine hput.mono fun _ h6 hx => ?_
  obtain ⟨g', _, st6, f6⟩ := hx
  have f06 := f04.trans st.wf f6
  have is6 : Is (S.wSpans s' g' (S.spans ++ [{ sn with frm := p.pos, whole := true }])) { p with spans := p.spans ++ [{ sn with frm := p.pos, whole := true }] } := ⟨is.1, is.2.1, by show S.spans ++ _ = _; rw [hsp], is.2.2.2⟩
  have hs6 : (S.wSpans s' g' (S.spans ++ [{ sn with frm := p.pos, whole := true }])).src = s := hsrc
  have hb6 := f06.b
  have e06 : Ext (fun _ => False) S (S.wSpans s' g' (S.spans ++ [{ sn with frm := p.pos, whole := true }])) := ⟨fun j y hy _ => ⟨y, hy, rfl⟩, Nat.le_refl _, by show S.spans.length ≤ (S.spans ++ _).length; simp⟩
  have hi6 : p.spans.length < (S.wSpans s' g' (S.spans ++ [{ sn with frm := p.pos, whole := true }])).spans.length := by show p.spans.length < (S.spans ++ _).length; simp [hsp]
  generalize S.wSpans s' g' (S.spans ++ [{ sn with frm := p.pos, whole := true }]) = S6 at *
  have hlen : S.ssl.len = p.spans.length := by rw [st.spans_len, hsp]
  rw [← hb6, hlen]
  refine (ref_next st6 is6.2.2.2 hs6 is6.1).mono fun x h7 hx => ?_
  by_cases hle : s.size ≤ p.pos
  · rw [if_pos hle] at hr
    cases hr
    rw [List.getElem?_eq_none (by show s.data.toList.length ≤ p.pos; omega)] at hx
    obtain ⟨_, st7, f7⟩ := hx
    have fl : Fail ((S6.wOff s.size).wErr 4) (s.size, 4) := fail_two is6.2.2.2 (by simp)
    have e7 : Ext (fun _ => False) S ((S6.wOff s.size).wErr 4) := ⟨e06.nodes, e06.len, e06.spans⟩
    have w3 : ((S6.wOff s.size).wErr 4).b = S6.b := rfl
    rw [← w3]
    generalize (S6.wOff s.size).wErr 4 = S7 at *
    simp only [Wp_bind, Wp_nn', Wp_ldI, Wp_ldS, Wp_ldV, Wp_ldB, Wp_idxS, Wp_sliceS, Wp_pure, plus_eq, Nat.zero_add, Nat.reduceAdd, Option.some.injEq, exists_eq_left', decide_eq_true_eq, st7.ldErr, st7.ldAt, st7.ldSrc, st7.ldNodes, st7.ldSpans]
    refine ite_yes (by rw [fl.2.1]; rfl) ?_
    rw [Wp_pure]
    exact ⟨S7, st7, f06.trans st.wf f7, fl, e7⟩
  · rw [if_neg hle] at hr
    obtain ⟨c, hc⟩ := byte_at (s := s) (i := p.pos) (by omega)
    have hc' : s.data.toList[({ p with spans := p.spans ++ [{ sn with frm := p.pos, whole := true }] } : PV).pos]? = some c := hc
    rw [hc'] at hx
    obtain ⟨rfl, rfl⟩ := hx
    have err6 : S6.err = 0 := is6.2.2.2
    simp only [Wp_bind, Wp_nn', Wp_ldI, Wp_ldS, Wp_ldV, Wp_ldB, Wp_idxS, Wp_sliceS, Wp_pure, plus_eq, Nat.zero_add, Nat.reduceAdd, Option.some.injEq, exists_eq_left', decide_eq_true_eq, st6.ldErr, st6.ldAt, st6.ldSrc, st6.ldNodes, st6.ldSpans, err6]
    refine Wp_ite.2 ⟨fun e => by simp at e, fun _ => ?_⟩
    have fin : ∀ {rr : Rs (Int × PV)}, spRead s (sp s m) { p with spans := p.spans ++ [{ sn with frm := p.pos, whole := true }] } p.spans.length d = some rr → ∀ nn h' S', St h' S' → Stp h7 S6 h' S' → Mid S6 rr nn S' →
        Wp (rosettaref34_State_value_J3_B (Cl_rosettaref34_State_value.at n) n (some (adr S'.b)) (p.spans.length : Nat) nn) h' fun x h' => ResN h S r x h' := by
      intro rr h8 nn h' S' st' f' hm
      have hi : ∀ nn p2, rr = .ok (nn, p2) → p.spans.length < p2.spans.length := fun nn p2 e => (spRead_adv (sp_good s m) i (by rw [h8, e])).2
      have := J3_fin (n := n) (Cl_rosettaref34_State_value.at n) st.wf f06 e06 hi6 st' f' hi hm
      rw [h8] at hr
      cases rr with
      | error e => cases hr; exact this
      | ok q => cases hr; exact this
    have c2 : ((c.toNat : Int) = 108) ↔ c = 108 := byte_eq c 108 (by omega)
    have c3 : ((c.toNat : Int) = 100) ↔ c = 100 := byte_eq c 100 (by omega)
    have hrd : spRead s (sp s m) { p with spans := p.spans ++ [{ sn with frm := p.pos, whole := true }] } p.spans.length d = (if c = 105 then some (spInt s { p with spans := p.spans ++ [{ sn with frm := p.pos, whole := true }] } d) else if c = 108 then spOpen s (sp s m) { p with spans := p.spans ++ [{ sn with frm := p.pos, whole := true }] } p.spans.length d 9 else if c = 100 then spOpen s (sp s m) { p with spans := p.spans ++ [{ sn with frm := p.pos, whole := true }] } p.spans.length d 10 else some (spStr s { p with spans := p.spans ++ [{ sn with frm := p.pos, whole := true }] } d)) := by
      unfold spRead
      simp only [hc]
    have opn : ∀ kind : Int, (kind = 9 ∨ kind = 10) → spRead s (sp s m) { p with spans := p.spans ++ [{ sn with frm := p.pos, whole := true }] } p.spans.length d = spOpen s (sp s m) { p with spans := p.spans ++ [{ sn with frm := p.pos, whole := true }] } p.spans.length d kind →
        Wp (rosettaref34_State_value_J2_B (Cl_rosettaref34_State_value.at n) n (some (adr S6.b)) d p.pos (p.spans.length : Nat) kind) h7 fun x h' => ResN h S r x h' := by
      intro kind hk he
      cases ho : spOpen s (sp s m) { p with spans := p.spans ++ [{ sn with frm := p.pos, whole := true }] } p.spans.length d kind with
      | none => rw [he, ho] at hr; cases hr
      | some rr => exact J2_wp hs hC (by omega) st6 hs6 is6 i (by omega) hk hd ho (fin (he.trans ho))
    by_cases k2 : c = 108
    · have k3 : ¬ c = 100 := by rw [k2]; decide
      have k1 : ¬ c = 105 := by rw [k2]; decide
      rw [if_pos (c2.2 k2), if_neg (fun e => k3 (c3.1 e))]
      exact opn 9 (.inl rfl) (by rw [hrd, if_neg k1, if_pos k2])
    · rw [if_neg (fun e => k2 (c2.1 e))]
      by_cases k3 : c = 100
      · have k1 : ¬ c = 105 := by rw [k3]; decide
        rw [if_pos (c3.2 k3), if_pos (c3.2 k3)]
        exact opn 10 (.inr rfl) (by rw [hrd, if_neg k1, if_neg k2, if_pos k3])
      · rw [if_neg (fun e => k3 (c3.1 e))]
        rw [if_neg k2, if_neg k3] at hrd
        refine J0_wp (p := { p with spans := p.spans ++ [{ sn with frm := p.pos, whole := true }] }) st6 is6 hs6 hs (by omega) i.nodes hc' rfl (fin (hrd.trans ?_))
        by_cases k1 : c = 105
        · rw [if_pos k1, if_pos k1]
        · rw [if_neg k1, if_neg k1]
end Go.Sh
