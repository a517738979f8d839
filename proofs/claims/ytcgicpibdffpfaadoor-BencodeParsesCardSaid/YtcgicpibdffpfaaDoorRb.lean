/-
Contracts of the reference's functions that read strings and integers.
-/
import Derived.Test.YtcgicpibdffpfaaDoorRa
set_option linter.all false
namespace Go.Sh
open Go Go.Ago Go.Proofs
variable {h h' : AHeap} {S S' : PSt} {n : Nat}
def decCap (a : Nat) (D : List UInt8) : Nat := D.foldl (fun a b => min (10 * a + (b.toNat - 48)) 1000000) a
theorem decCap_eq : ∀ (D : List UInt8) (a : Nat), decCap (min a 1000000) D = min (decFrom a D) 1000000
  | [], a => rfl
  | b :: D, a => by
    have ih := decCap_eq D (10 * a + (b.toNat - 48))
    show decCap (min (10 * min a 1000000 + (b.toNat - 48)) 1000000) D = _
    rw [show min (10 * min a 1000000 + (b.toNat - 48)) 1000000 = min (10 * a + (b.toNat - 48)) 1000000 by omega, ih]
    rfl
theorem ref_digits {s : ByteArray} (hs : s.size ≤ 65536) : ∀ (n : Nat) (h : AHeap) (S : PSt) (a c : Nat) (a1 : Int), S.src = s → St h S → S.at' = a → a ≤ s.size → c ≤ 1000000 → s.size - a < n →
    Wp (rosettaref34_State_text_L0 n (some (adr S.b)) a1 c) h fun x h' => x = decCap c (digs (s.data.toList.drop a)) ∧ St h' (S.wAt (a + (digs (s.data.toList.drop a)).length : Nat)) ∧ Stp h S h' (S.wAt (a + (digs (s.data.toList.drop a)).length : Nat))
  | 0, _, _, _, _, _, _, _, _, _, _, hn => by omega
  | n + 1, h, S, a, c, a1, he, st, ha, hle, hcm, hn => by
    rw [rosettaref34_State_text_L0_succ]
    unfold rosettaref34_State_text_L0_B
    have stop : digs (s.data.toList.drop a) = [] → (c : Int) = decCap c (digs (s.data.toList.drop a)) ∧ St h (S.wAt (a + (digs (s.data.toList.drop a)).length : Nat)) ∧ Stp h S h (S.wAt (a + (digs (s.data.toList.drop a)).length : Nat)) := by
      intro hd
      have e : (S.wAt (a + (digs (s.data.toList.drop a)).length : Nat)) = S := by rw [hd]; simp [← ha, PSt.wAt]
      rw [e, hd]; exact ⟨rfl, st, Stp.refl st.wf⟩
    simp only [Wp_bind, Wp_nn', Wp_ldI, Wp_ldS, Wp_ldV, Wp_ldB, Wp_idxS, Wp_sliceS, Wp_pure, plus_eq, Nat.zero_add, Nat.reduceAdd, Option.some.injEq, exists_eq_left', decide_eq_true_eq, st.ldErr, st.ldAt, st.ldSrc, st.ldNodes, st.ldSpans, ha, he]
    refine Wp_ite.2 ⟨fun h1 => ?_, fun h1 => ?_⟩
    · have h1' : a < s.size := by omega
      have hc : s.data.toList[a]? = some s.data.toList[a] := List.getElem?_eq_getElem (by rwa [size_toList])
      generalize s.data.toList[a] = b at hc
      have hd := digs_cons hc
      rw [isDig_int] at hd
      simp only [Wp_bind, Wp_nn', Wp_ldI, Wp_ldS, Wp_ldV, Wp_ldB, Wp_idxS, Wp_sliceS, Wp_pure, plus_eq, Nat.zero_add, Nat.reduceAdd, Option.some.injEq, exists_eq_left', decide_eq_true_eq, st.ldErr, st.ldAt, st.ldSrc, st.ldNodes, st.ldSpans, ha, he, ba_get, Int.toNat_natCast, hc, Int.natCast_nonneg, true_and]
      refine Wp_ite.2 ⟨fun h2 => ?_, fun h2 => ?_⟩
      · simp only [Wp_bind, Wp_nn', Wp_ldI, Wp_ldS, Wp_ldV, Wp_ldB, Wp_idxS, Wp_sliceS, Wp_pure, plus_eq, Nat.zero_add, Nat.reduceAdd, Option.some.injEq, exists_eq_left', decide_eq_true_eq, st.ldErr, st.ldAt, st.ldSrc, st.ldNodes, st.ldSpans, ha, he, ba_get, Int.toNat_natCast, hc, Int.natCast_nonneg, true_and]
        refine Wp_ite.2 ⟨fun h3 => ?_, fun h3 => ?_⟩
        · simp only [h2, h3, decide_true, Bool.and_self, if_true] at hd
          unfold rosettaref34_State_text_L0_J0_B
          simp only [Wp_bind, Wp_nn', Wp_ldI, Wp_ldS, Wp_ldV, Wp_ldB, Wp_idxS, Wp_sliceS, Wp_pure, plus_eq, Nat.zero_add, Nat.reduceAdd, Option.some.injEq, exists_eq_left', decide_eq_true_eq, st.ldErr, st.ldAt, st.ldSrc, st.ldNodes, st.ldSpans, ha, he, ba_get, Int.toNat_natCast, hc, Int.natCast_nonneg, true_and]
          refine st.setAt fun h2' st2 f2 => ?_
          have e1 : IntKind.i64.wrap ((a : Int) + 1) = ((a + 1 : Nat) : Int) := by rw [w64 (by omega) (by omega)]; simp
          rw [e1] at st2 f2
          have e3 : IntKind.u8.wrap ((b.toNat : Int) - 48) = ((b.toNat - 48 : Nat) : Int) := by rw [IntWalk.u8_in _ (by omega)]; omega
          have e4 : (if 1000000 < IntKind.i64.wrap (IntKind.i64.wrap (10 * (c : Int)) + IntKind.i64.wrap (IntKind.u8.wrap ((b.toNat : Int) - 48))) then (1000000 : Int) else IntKind.i64.wrap (IntKind.i64.wrap (10 * (c : Int)) + IntKind.i64.wrap (IntKind.u8.wrap ((b.toNat : Int) - 48)))) = ((min (10 * c + (b.toNat - 48)) 1000000 : Nat) : Int) := by
            rw [e3, w64 (x := 10 * (c : Int)) (by omega) (by omega), w64 (x := ((b.toNat - 48 : Nat) : Int)) (by omega) (by omega), w64 (by omega) (by omega)]
            split <;> omega
          rw [e4]
          have ih := ref_digits hs n h2' (S.wAt ((a + 1 : Nat) : Int)) (a + 1) (min (10 * c + (b.toNat - 48)) 1000000) a1 he st2 rfl h1' (by omega) (by omega)
          refine ih.mono fun x h3 hx => ?_
          obtain ⟨hx1, s3, f3⟩ := hx
          have e2 : a + (digs (s.data.toList.drop a)).length = a + 1 + (digs (s.data.toList.drop (a + 1))).length := by rw [hd]; simp; omega
          rw [e2, hd]
          exact ⟨hx1, s3, f2.trans st.wf f3⟩
        · simp only [Wp_pure]
          exact stop (by rw [hd]; simp [h3])
      · simp only [Wp_pure]
        exact stop (by rw [hd]; simp [h2])
    · simp only [Wp_pure]
      exact stop (by rw [List.drop_eq_nil_of_le (by rw [size_toList]; omega)]; rfl)
def ResX (h : AHeap) (S : PSt) (p : PV) (r : Rs (ByteArray × Nat)) (x : ByteArray) (h' : AHeap) : Prop :=
  ∃ S', St h' S' ∧ Stp h S h' S' ∧ match r with
    | .ok (t, a) => x = t ∧ Is S' { p with pos := a }
    | .error e => x.size ≤ S.src.size ∧ Fail S' e ∧ S'.nodes = S.nodes ∧ S'.spans = S.spans
theorem fail_two {a : Nat} {e : Int} (h0 : S.err = 0) (he : e ≠ 0) : Fail ((S.wOff a).wErr e) (a, e) := ⟨rfl, rfl, he⟩
theorem ref_text_J0 {p : PV} {a1 : Nat} {D : List UInt8} (st : St h S) (is : Is S p) (hs : S.src.size ≤ 65536) (hp : p.pos = a1) (ha : a1 ≤ S.src.size) :
    Wp (rosettaref34_State_text_J0 n (some (adr S.b)) ((min (decVal D) 1000000 : Nat) : Int)) h (ResX h S p (spTail S.src a1 D)) := by
  unfold rosettaref34_State_text_J0 spTail
  have err0 := is.2.2.2
  rw [Wp_bind]
  refine (ref_next st err0 rfl (is.1.trans (by rw [hp]))).mono fun x h' hx => ?_
  have hz : (ofBytes []).size ≤ S.src.size := Nat.zero_le _
  cases hc : S.src.data.toList[a1]? with
  | none =>
    rw [hc] at hx
    obtain ⟨rfl, st1, f1⟩ := hx
    refine ite_yes (by simp) ?_
    have hb1 := f1.b
    have fl : Fail ((S.wOff S.src.size).wErr 4) (S.src.size, 4) := fail_two err0 (by decide)
    have q1 : ((S.wOff S.src.size).wErr 4).nodes = S.nodes := rfl
    have q2 : ((S.wOff S.src.size).wErr 4).spans = S.spans := rfl
    rw [← hb1]
    generalize (S.wOff S.src.size).wErr 4 = S1 at *
    simp only [Wp_bind, Wp_nn', Wp_ldI, Wp_ldS, Wp_ldV, Wp_ldB, Wp_idxS, Wp_sliceS, Wp_pure, plus_eq, Nat.zero_add, Nat.reduceAdd, Option.some.injEq, exists_eq_left', decide_eq_true_eq, st1.ldErr, st1.ldAt, st1.ldSrc, st1.ldNodes, st1.ldSpans]
    refine (ref_fail st1 _ _).mono fun _ h2 hx => ?_
    have he : ∀ a, S1.failed a 4 = S1 := fun a => by unfold PSt.failed; rw [if_neg (by rw [fl.2.1]; simp)]
    rw [he] at hx
    exact ⟨S1, hx.1, f1.trans st.wf hx.2, hz, fl, q1, q2⟩
  | some c =>
    rw [hc] at hx
    obtain ⟨rfl, rfl⟩ := hx
    have hlt := get_lt hc
    have hcc : ((c.toNat : Int) = 58) ↔ c = 58 := byte_eq c 58 (by omega)
    by_cases hc58 : c = 58
    · refine Wp_ite.2 ⟨fun e => by simp [hcc.2 hc58] at e, fun _ => ?_⟩
      simp only [if_pos hc58]
      simp only [Wp_bind, Wp_nn', Wp_ldI, Wp_ldS, Wp_ldV, Wp_ldB, Wp_idxS, Wp_sliceS, Wp_pure, plus_eq, Nat.zero_add, Nat.reduceAdd, Option.some.injEq, exists_eq_left', decide_eq_true_eq, st.ldErr, st.ldAt, st.ldSrc, st.ldNodes, st.ldSpans, is.1, hp]
      refine st.setAt fun h2' st2 f2 => ?_
      have e1 : IntKind.i64.wrap ((a1 : Int) + 1) = ((a1 + 1 : Nat) : Int) := by rw [w64 (by omega) (by omega)]; simp
      rw [e1] at st2 f2
      have is2 := is.at (a1 + 1)
      have hb : (S.wAt ((a1 + 1 : Nat) : Int)).b = S.b := rfl
      have hsr : (S.wAt ((a1 + 1 : Nat) : Int)).src = S.src := rfl
      have q1 : (S.wAt ((a1 + 1 : Nat) : Int)).nodes = S.nodes := rfl
      have q2 : (S.wAt ((a1 + 1 : Nat) : Int)).spans = S.spans := rfl
      generalize S.wAt ((a1 + 1 : Nat) : Int) = S2 at *
      rw [← hb]
      have hat : S2.at' = ((a1 + 1 : Nat) : Int) := is2.1
      have e2 : IntKind.i64.wrap ((S.src.size : Int) - ((a1 + 1 : Nat) : Int)) = (S.src.size - (a1 + 1) : Nat) := by rw [w64 (by omega) (by omega)]; omega
      simp only [st2.ldErr, st2.ldAt, st2.ldSrc, st2.ldNodes, st2.ldSpans, hsr, hat, e2, Option.some.injEq, exists_eq_left']
      refine Wp_ite.2 ⟨fun h5 => ?_, fun h5 => ?_⟩
      · rw [if_pos (by omega)]
        simp only [Wp_bind, Wp_nn', Wp_ldI, Wp_ldS, Wp_ldV, Wp_ldB, Wp_idxS, Wp_sliceS, Wp_pure, plus_eq, Nat.zero_add, Nat.reduceAdd, Option.some.injEq, exists_eq_left', decide_eq_true_eq, st2.ldErr, st2.ldAt, st2.ldSrc, st2.ldNodes, st2.ldSpans, hsr]
        refine (ref_fail st2 _ _).mono fun _ h3 hx => ?_
        obtain ⟨w1, w2, _⟩ := failed_nodes (S := S2) (S.src.size : Int) 4
        exact ⟨_, hx.1, f2.trans st.wf hx.2, hz, failed_ok is2.2.2.2 (by decide), w1.trans q1, w2.trans q2⟩
      · rw [if_neg (by omega)]
        have hv : min (decVal D) 1000000 = decVal D := by omega
        rw [hv]
        have e3 : IntKind.i64.wrap (((a1 + 1 : Nat) : Int) + (decVal D : Nat)) = ((a1 + 1 + decVal D : Nat) : Int) := by rw [w64 (by omega) (by omega)]; simp
        simp only [Wp_bind, Wp_nn', Wp_ldI, Wp_ldS, Wp_ldV, Wp_ldB, Wp_idxS, Wp_sliceS, Wp_pure, plus_eq, Nat.zero_add, Nat.reduceAdd, Option.some.injEq, exists_eq_left', decide_eq_true_eq, st2.ldErr, st2.ldAt, st2.ldSrc, st2.ldNodes, st2.ldSpans, hat, e3]
        refine st2.setAt fun h3 st3 f3 => ?_
        have is3 := is2.at (a1 + 1 + decVal D)
        have hb3 : (S2.wAt ((a1 + 1 + decVal D : Nat) : Int)).b = S2.b := rfl
        have hsr3 : (S2.wAt ((a1 + 1 + decVal D : Nat) : Int)).src = S.src := hsr
        have hat3 : (S2.wAt ((a1 + 1 + decVal D : Nat) : Int)).at' = ((a1 + 1 + decVal D : Nat) : Int) := rfl
        generalize S2.wAt ((a1 + 1 + decVal D : Nat) : Int) = S3 at *
        rw [← hb3]
        have e4 : IntKind.i64.wrap (((a1 + 1 + decVal D : Nat) : Int) - (decVal D : Nat)) = ((a1 + 1 : Nat) : Int) := by rw [w64 (by omega) (by omega)]; omega
        simp only [Wp_bind, Wp_nn', Wp_ldI, Wp_ldS, Wp_ldV, Wp_ldB, Wp_idxS, Wp_sliceS, Wp_pure, plus_eq, Nat.zero_add, Nat.reduceAdd, Option.some.injEq, exists_eq_left', decide_eq_true_eq, st3.ldErr, st3.ldAt, st3.ldSrc, st3.ldNodes, st3.ldSpans, hsr3, hat3, e4, Int.toNat_natCast]
        exact ⟨by omega, by omega, by omega, S3, st3, f2.trans st.wf f3, rfl, is3⟩
    · refine ite_yes (by simp; intro e; exact hc58 (hcc.1 e)) ?_
      simp only [if_neg hc58]
      simp only [Wp_bind, Wp_nn', Wp_ldI, Wp_ldS, Wp_ldV, Wp_ldB, Wp_idxS, Wp_sliceS, Wp_pure, plus_eq, Nat.zero_add, Nat.reduceAdd, Option.some.injEq, exists_eq_left', decide_eq_true_eq, st.ldErr, st.ldAt, st.ldSrc, st.ldNodes, st.ldSpans, is.1, hp]
      refine (ref_fail st _ _).mono fun _ h3 hx => ?_
      obtain ⟨w1, w2, _⟩ := failed_nodes (S := S) (a1 : Int) 4
      exact ⟨_, hx.1, hx.2, hz, failed_ok err0 (by decide), w1, w2⟩
end Go.Sh
