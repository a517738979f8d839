/-
Contracts of the reference's parser: the content's step, all together, Parse.
-/
import Derived.Test.YtcgicpibdffpfaaDoorRk
set_option linter.all false
namespace Go.Sh
open Go Go.Ago Go.Proofs
variable {h h' : AHeap} {S S' : PSt} {n : Nat}
theorem dict_J1r {h0 : AHeap} {S0 : PSt} {b k a0 : Nat} {cs : List Value} {e : TypeId} {nd sp' d : Int} {last t : ByteArray} {rr : Rs PV} {key : Int} (hw0 : WF h0) (l : Lc h0 S0 h S b cs e) (hm : MidP S0 rr S) {Q : Unit ⊕ Unit → AHeap → Prop}
    (hq : ∀ S' h', Lc h0 S0 h' S' b cs e → S'.src = S.src → MidP S0 (if 0 < k ∧ ltB t last = true then orFail rr (a0, 16) else rr) S' → Wp (rosettaref34_State_content_L0_J2_B (Cl_rosettaref34_State_value.at n) n (some (adr S'.b)) nd sp' d last k (adr b) a0 t key) h' Q) :
    Wp (rosettaref34_State_content_L0_J1_B (Cl_rosettaref34_State_value.at n) n (some (adr S.b)) nd sp' d last k (adr b) a0 t key) h Q := by
  unfold rosettaref34_State_content_L0_J1_B
  by_cases hk0 : 0 < k
  · rw [if_pos (decide_eq_true (by omega))]
    by_cases hlt : ltB t last = true
    · rw [if_pos ⟨hk0, hlt⟩] at hq
      rw [show (ltS t last || eqS t last) = ltB t last from rfl, if_pos hlt, Wp_bind]
      refine (fail_mid l.st hm (by decide)).mono fun _ h2 hx => ?_
      obtain ⟨S2, st2, f2, hm2⟩ := hx
      rw [← f2.b]
      exact hq S2 h2 (l.go hw0 st2 f2) f2.src hm2
    · rw [if_neg (fun e => hlt e.2)] at hq
      rw [show (ltS t last || eqS t last) = ltB t last from rfl, if_neg hlt]
      exact hq S h l rfl hm
  · rw [if_neg (fun e => hk0 e.1)] at hq
    rw [if_neg (by simp; omega)]
    exact hq S h l rfl hm
theorem content_step {s : ByteArray} {m : Nat} (hs : s.size ≤ 65536) (hV : RV s m) (hC : RC s m) : RC s (m + 1) := by
  intro n hn h S p nd sp' k d last kind r st hsrc is i hk hk2 hkp hd hr
  obtain ⟨n, rfl⟩ : ∃ k, n = k + 1 := ⟨n - 1, by omega⟩
  have err0 := is.2.2.2
  have ip := i.pos
  have hw0 := st.wf
  rw [rosettaref34_State_content_L0_succ]
  unfold rosettaref34_State_content_L0_B
  simp only [Wp_bind, Wp_nn', Wp_ldI, Wp_ldS, Wp_ldV, Wp_ldB, Wp_idxS, Wp_sliceS, Wp_pure, plus_eq, Nat.zero_add, Nat.reduceAdd, Option.some.injEq, exists_eq_left', decide_eq_true_eq, st.ldErr, st.ldAt, st.ldSrc, st.ldNodes, st.ldSpans]
  rw [if_pos err0, Wp_bind]
  refine (ref_next st err0 hsrc is.1).mono fun x h1 hx => ?_
  unfold Run at hr
  cases hc : s.data.toList[p.pos]? with
  | none =>
    rw [hc] at hx
    obtain ⟨rfl, st1, f1⟩ := hx
    have hrr : r = .error (s.size, 4) := by
      split at hr <;> simp only [sp, spL, spD, hc] at hr <;> exact (Option.some.inj hr).symm
    subst hrr
    have fl : Fail ((S.wOff s.size).wErr 4) (s.size, 4) := fail_two err0 (by simp)
    have e1 : Ext (· = nd) S ((S.wOff s.size).wErr 4) := Ext.same rfl rfl
    have w3 : ((S.wOff s.size).wErr 4).b = S.b := rfl
    rw [← w3]
    generalize (S.wOff s.size).wErr 4 = S1 at *
    refine ite_yes (by simp) ?_
    simp only [Wp_bind, Wp_nn', Wp_ldI, Wp_ldS, Wp_ldV, Wp_ldB, Wp_idxS, Wp_sliceS, Wp_pure, plus_eq, Nat.zero_add, Nat.reduceAdd, Option.some.injEq, exists_eq_left', decide_eq_true_eq, st1.ldErr, st1.ldAt, st1.ldSrc, st1.ldNodes, st1.ldSpans]
    rw [if_neg (by rw [fl.2.1]; simp), Wp_pure]
    exact ⟨S1, st1, f1, fl, e1⟩
  | some c =>
    rw [hc] at hx
    obtain ⟨rfl, rfl⟩ := hx
    have hlt := get_lt hc
    have hcc : ((c.toNat : Int) = 101) ↔ c = 101 := byte_eq c 101 (by omega)
    by_cases h101 : c = 101
    · refine Wp_ite.2 ⟨fun e => by simp [hcc.2 h101] at e, fun _ => ?_⟩
      have hrr : r = .ok { p with pos := p.pos + 1 } := by
        split at hr <;> simp only [sp, spL, spD, hc, if_pos h101] at hr <;> exact (Option.some.inj hr).symm
      subst hrr
      rw [Wp_pure]
      exact ⟨S, st, Stp.refl st.wf, rfl, by rw [is.1]; simp, is.at (p.pos + 1)⟩
    · refine ite_yes (by simp; intro e; exact h101 (hcc.1 e)) ?_
      simp only [Wp_bind, Wp_nn', Wp_ldI, Wp_ldS, Wp_ldV, Wp_ldB, Wp_idxS, Wp_sliceS, Wp_pure, plus_eq, Nat.zero_add, Nat.reduceAdd, Option.some.injEq, exists_eq_left', decide_eq_true_eq, st.ldErr, st.ldAt, st.ldSrc, st.ldNodes, st.ldSpans]
      rw [if_pos err0]
      unfold rosettaref34_State_content_L0_J0_B
      rw [Wp_bind, Wp_new]
      refine ⟨rfl, ?_⟩
      have l1 := Lc.new st (cs := [vi 0, vi 0, vi 0, vi 0, vi 0, vi 0, vi 0, Value.bool false, Value.bool false]) (e := T_api_Span)
      generalize h1.new T_api_Span [vi 0, vi 0, vi 0, vi 0, vi 0, vi 0, vi 0, Value.bool false, Value.bool false] = h2 at *
      generalize h1.next = b at *
      rw [Wp_bind]
      refine l1.put hw0 (o := 0) (by simp) rfl fun h3 l3 _ => ?_
      have henc : splice [vi 0, vi 0, vi 0, vi 0, vi 0, vi 0, vi 0, Value.bool false, Value.bool false] 0 [vi 0, vi sp', vi k, vi 0, vi 0, vi 0, vi 0, Value.bool false, Value.bool false] = (span0 sp' k 0 0).enc := rfl
      rw [henc] at l3
      have st3 := l3.st
      obtain ⟨x, hxn, hxk⟩ := id hk
      have hnd : nd < p.nodes.length := (List.getElem?_eq_some_iff.1 hxn).1
      obtain ⟨y, hy, hy'⟩ := node_get is hnd
      have hyk : y.kind = kind := by
        rw [hxn] at hy'
        have h3 : x = y.v := Option.some.inj hy'
        rw [← hxk, h3]; rfl
      have hltn := (List.getElem?_eq_some_iff.1 hy).1
      obtain ⟨bn, base, ha, _, _⟩ := st3.nodeBlk (by omega)
      have hlen := st3.nodes_len
      have hkd := st3.ldKind hy ha
      rw [Nat.add_zero] at hkd
      simp only [Wp_bind, Wp_nn', Wp_ldI, Wp_ldS, Wp_ldV, Wp_ldB, Wp_idxS, Wp_sliceS, Wp_pure, plus_eq, Nat.zero_add, Nat.reduceAdd, Option.some.injEq, exists_eq_left', decide_eq_true_eq, st3.ldErr, st3.ldAt, st3.ldSrc, st3.ldNodes, st3.ldSpans, Wp_idxA, ha, exists_eq_left', Int.toNat_natCast, Nat.add_zero, hkd]
      refine ⟨by omega, by omega, ?_⟩
      rcases hk2 with hk9 | hk10
      · rw [if_neg (by rw [hyk, hk9]; decide)]
        rw [if_pos hk9] at hr
        simp only [sp, spL, hc, if_neg h101] at hr
        refine J3_cont (kind := 9) hs hV hC (by omega) hw0 l3 Ext.refl hsrc is i ⟨x, hxn, by rw [hxk, hk9]⟩ (.inl rfl) hkp hd ?_
        rw [← hr]
        rfl
      · rw [if_pos (by rw [hyk, hk10])]
        rw [if_neg (by rw [hk10]; decide)] at hr
        simp only [sp, spD, hc, if_neg h101] at hr
        simp only [Wp_bind, Wp_nn', Wp_ldI, Wp_ldS, Wp_ldV, Wp_ldB, Wp_idxS, Wp_sliceS, Wp_pure, plus_eq, Nat.zero_add, Nat.reduceAdd, Option.some.injEq, exists_eq_left', decide_eq_true_eq, st3.ldErr, st3.ldAt, st3.ldSrc, st3.ldNodes, st3.ldSpans, is.1]
        refine (ref_text st3 is (by rw [hsrc]; exact hs) (by rw [hsrc]; exact ip) (by rw [hsrc]; omega)).mono fun x4 h4 hx4 => ?_
        obtain ⟨S4, st4, f4, hx4⟩ := hx4
        have l4 := l3.go hw0 st4 f4
        rw [hsrc] at hx4
        rw [← f4.b]
        simp only [st4.ldErr, st4.ldAt, st4.ldSrc, st4.ldNodes, st4.ldSpans, Option.some.injEq, exists_eq_left']
        cases hT : spText s p.pos with
        | error e =>
          rw [hT] at hx4 hr
          cases hr
          obtain ⟨_, hf, q1, q2⟩ := hx4
          refine ite_yes (by rw [hf.2.1]; simp; exact hf.2.2) ?_
          rw [Wp_pure]
          exact ⟨S4, st4, l4.f, hf, Ext.same q1 (by rw [q2])⟩
        | ok q =>
          obtain ⟨t, a⟩ := q
          rw [hT] at hx4 hr
          obtain ⟨rfl, is4⟩ := hx4
          have hts := spText_size hT
          obtain ⟨ta1, ta2⟩ := spText_ok hT
          refine Wp_ite.2 ⟨fun e => by simp [is4.2.2.2] at e, fun _ => ?_⟩
          rw [Wp_bind]
          refine (ref_node st4 is4 i.nodes 5 x4 p.pos (d + 1)).mono fun key h5 hx5 => ?_
          obtain ⟨rfl, S5, st5, f5, hx5⟩ := hx5
          have l5 := l4.go hw0 st5 f5
          rw [Wp_bind]
          refine (valid01 (by omega) (by omega) st5.wf).mono fun v h6 hv => ?_
          obtain ⟨rfl, f6⟩ := hv
          obtain ⟨st6, f6⟩ := st5.pure f6
          have l6 := l5.go hw0 st6 f6
          rw [← f5.b]
          have hs6 : S5.src = s := f5.src.trans (f4.src.trans hsrc)
          simp only at hr
          have e4 : Ext (fun _ => False) S S4 := Ext.vsame is is4 rfl rfl
          have hm : MidP S (match spNode { p with pos := a } ⟨5, x4, false, [], []⟩ p.pos (d + 1) with | .error e => .error e | .ok (_, p1) => .ok p1) S5 := by
            cases hnode : spNode { p with pos := a } ⟨5, x4, false, [], []⟩ p.pos (d + 1) with
            | error e =>
              rw [hnode] at hx5
              exact ⟨e4.trans hx5.2, hx5.1⟩
            | ok q =>
              obtain ⟨key, p1⟩ := q
              rw [hnode] at hx5
              obtain ⟨rfl, rfl, _, _⟩ := spNode_ok hnode
              exact ⟨Ext.vapp is hx5.2 rfl rfl, hx5.2⟩
          have fin : ∀ rr : Rs PV, rr = (if u8 x4 = false then orFail (match spNode { p with pos := a } ⟨5, x4, false, [], []⟩ p.pos (d + 1) with | .error e => .error e | .ok (_, p1) => .ok p1) (p.pos, 11) else (match spNode { p with pos := a } ⟨5, x4, false, [], []⟩ p.pos (d + 1) with | .error e => .error e | .ok (_, p1) => .ok p1)) →
              ∀ S7 h7, Lc h1 S h7 S7 b (span0 sp' k 0 0).enc T_api_Span → S7.src = s → MidP S rr S7 →
              Wp (rosettaref34_State_content_L0_J1_B (Cl_rosettaref34_State_value.at n) n (some (adr S7.b)) nd sp' (d + 1 : Nat) last k (adr b) p.pos x4 (p.nodes.length : Nat)) h7 (ResC h1 S nd r) := by
            intro rr hrr S7 h7 l7 hs7 hm7
            refine dict_J1r hw0 l7 hm7 fun S8 h8 l8 hs8 hm8 => ?_
            refine dict_J2 (p0 := p) (p1 := { p with pos := a, nodes := p.nodes ++ [⟨5, x4, false, [], []⟩] }) hs hV hC (by omega) hw0 l8 hm8 (hs8.trans hs7) is i ⟨x, hxn, by rw [hxk, hk10]⟩ hkp hd (a0 := p.pos) (a := a) (key := p.nodes.length) ?_ ?_
            · intro p' hp'
              rw [hrr] at hp'
              cases hnode : spNode { p with pos := a } ⟨5, x4, false, [], []⟩ p.pos (d + 1) with
              | error e =>
                rw [hnode] at hp'
                simp only [orFail] at hp'
                split at hp'
                · split at hp' <;> simp at hp'
                · split at hp' <;> simp at hp'
              | ok q =>
                obtain ⟨key, p1⟩ := q
                rw [hnode] at hp'
                obtain ⟨rfl, rfl, h4', _⟩ := spNode_ok hnode
                simp only [orFail] at hp'
                split at hp'
                · split at hp' <;> simp at hp'
                · split at hp'
                  · simp at hp'
                  · cases hp'
                    exact ⟨rfl, fun ex => Adv.step i ta1 ta2 h4' (by simp), rfl, rfl⟩
            · rw [hrr]
              cases hnode : spNode { p with pos := a } ⟨5, x4, false, [], []⟩ p.pos (d + 1) with
              | error e =>
                rw [hnode] at hr
                simp only at hr
                have h9 : ∀ u w : Prop, ∀ [Decidable u] [Decidable w], contD s m nd sp' k d p.pos a p.nodes.length x4 (if w then orFail (if u then orFail (.error e) (p.pos, 11) else .error e) (p.pos, 16) else (if u then orFail (.error e) (p.pos, 11) else .error e)) = some (.error e) := by
                  intro u w _ _
                  by_cases h1 : u <;> by_cases h2 : w <;> simp [h1, h2, orFail, contD]
                simp only
                rw [h9]
                exact hr
              | ok q =>
                obtain ⟨key, p1⟩ := q
                rw [hnode] at hr
                obtain ⟨rfl, rfl, _, _⟩ := spNode_ok hnode
                simp only at hr ⊢
                by_cases hu : u8 x4 = false
                · rw [if_pos hu] at hr ⊢
                  rw [← hr]
                  by_cases hkl : 0 < k ∧ ltB x4 last = true
                  · rw [if_pos hkl]; rfl
                  · rw [if_neg hkl]; rfl
                · rw [if_neg hu] at hr ⊢
                  by_cases hkl : 0 < k ∧ ltB x4 last = true
                  · rw [if_pos hkl] at hr ⊢
                    exact hr
                  · rw [if_neg hkl] at hr ⊢
                    exact hr
          cases hu : u8 x4 with
          | false =>
            refine ite_yes rfl ?_
            rw [Wp_bind]
            refine (fail_mid st6 hm (by decide)).mono fun _ h7 hx7 => ?_
            obtain ⟨S7, st7, f7, hm7⟩ := hx7
            rw [← f7.b]
            exact fin _ (by rw [if_pos hu]) S7 h7 (l6.go hw0 st7 f7) (f7.src.trans hs6) hm7
          | true =>
            refine Wp_ite.2 ⟨fun e => by simp at e, fun _ => ?_⟩
            exact fin _ (by rw [if_neg (by rw [hu]; decide)]) S5 h6 l6 hs6 hm
theorem r_all {s : ByteArray} (hs : s.size ≤ 65536) : ∀ m, RV s m ∧ RC s m
  | 0 => ⟨fun _ _ _ _ _ _ _ _ _ _ _ _ _ hr => by simp [sp] at hr, fun _ _ _ _ _ _ _ _ _ _ _ _ _ _ _ _ _ _ _ _ hr => by unfold Run at hr; split at hr <;> simp [sp] at hr⟩
  | m + 1 => by
    obtain ⟨hV, hC⟩ := r_all hs m
    exact ⟨rvalue_step hs hC, content_step hs hV hC⟩
end Go.Sh
