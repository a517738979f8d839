/-
Contract of the reference's function that reads an integer.
-/
import Derived.Test.YtcgicpibdffpfaaDoorRc
set_option linter.all false
namespace Go.Sh
open Go Go.Ago Go.Proofs
variable {h h' : AHeap} {S S' : PSt} {n : Nat}
def runE (L : List UInt8) : Nat := (L.takeWhile (fun b => !(b == 101))).length
theorem runE_le : ∀ (L : List UInt8), runE L ≤ L.length
  | [] => Nat.le_refl _
  | b :: L => by
    have ih := runE_le L
    unfold runE at ih ⊢
    rw [List.takeWhile_cons]
    split <;> simp <;> omega
theorem runE_cons {L : List UInt8} {i : Nat} {c : UInt8} (hc : L[i]? = some c) : runE (L.drop i) = if c = 101 then 0 else runE (L.drop (i + 1)) + 1 := by
  have hlt := (List.getElem?_eq_some_iff.1 hc).1
  have hd : L.drop i = c :: L.drop (i + 1) := by
    rw [List.drop_eq_getElem_cons hlt, (List.getElem?_eq_some_iff.1 hc).2]
  rw [hd]
  unfold runE
  rw [List.takeWhile_cons]
  by_cases h1 : c = 101
  · simp [h1]
  · simp [h1]
theorem findE : ∀ (L : List UInt8), L.findIdx? (fun b => b == 101) = if runE L < L.length then some (runE L) else none
  | [] => rfl
  | b :: L => by
    have ih := findE L
    rw [List.findIdx?_cons, ih]
    by_cases h1 : b = 101
    · simp [h1, runE]
    · have e : runE (b :: L) = runE L + 1 := by unfold runE; rw [List.takeWhile_cons]; simp [h1]
      rw [e]
      have h2 : (b == 101) = false := by simpa using h1
      rw [h2]
      simp only [Bool.false_eq_true, if_false]
      by_cases h3 : runE L < L.length
      · rw [if_pos h3, if_pos (by simp; omega)]; rfl
      · rw [if_neg h3, if_neg (by simp; omega)]; rfl
theorem runE_stop (L : List UInt8) (i : Nat) (c : UInt8) (hc : L[i + runE (L.drop i)]? = some c) : c = 101 := by
  induction hn : L.length - i generalizing i with
  | zero =>
    rw [List.drop_eq_nil_of_le (by omega)] at hc
    have := (List.getElem?_eq_some_iff.1 hc).1
    simp [runE] at this; omega
  | succ k ih =>
    have hlt : i < L.length := by omega
    have hd : L[i]? = some L[i] := List.getElem?_eq_getElem hlt
    generalize L[i] = d at hd
    rw [runE_cons hd] at hc
    by_cases h1 : d = 101
    · rw [if_pos h1, Nat.add_zero, hd] at hc
      rw [← Option.some.inj hc, h1]
    · rw [if_neg h1] at hc
      exact ih (i + 1) (by rw [show i + 1 + runE (L.drop (i + 1)) = i + (runE (L.drop (i + 1)) + 1) by omega]; exact hc) (by omega)
theorem ref_intLoop {s : ByteArray} (hs : s.size ≤ 65536) : ∀ (n : Nat) (h : AHeap) (S : PSt) (a : Nat) (a1 : Int), S.src = s → St h S → S.at' = a → a ≤ s.size → s.size - a < n →
    Wp (rosettaref34_State_integer_L0 n (some (adr S.b)) a1) h fun _ h' => St h' (S.wAt (a + runE (s.data.toList.drop a) : Nat)) ∧ Stp h S h' (S.wAt (a + runE (s.data.toList.drop a) : Nat))
  | 0, _, _, _, _, _, _, _, _, hn => by omega
  | n + 1, h, S, a, a1, he, st, ha, hle, hn => by
    rw [rosettaref34_State_integer_L0_succ]
    unfold rosettaref34_State_integer_L0_B
    have stop : runE (s.data.toList.drop a) = 0 → St h (S.wAt (a + runE (s.data.toList.drop a) : Nat)) ∧ Stp h S h (S.wAt (a + runE (s.data.toList.drop a) : Nat)) := by
      intro hd
      have e : (S.wAt (a + runE (s.data.toList.drop a) : Nat)) = S := by rw [hd]; simp [← ha, PSt.wAt]
      rw [e]; exact ⟨st, Stp.refl st.wf⟩
    simp only [Wp_bind, Wp_nn', Wp_ldI, Wp_ldS, Wp_ldV, Wp_ldB, Wp_idxS, Wp_sliceS, Wp_pure, plus_eq, Nat.zero_add, Nat.reduceAdd, Option.some.injEq, exists_eq_left', decide_eq_true_eq, st.ldErr, st.ldAt, st.ldSrc, st.ldNodes, st.ldSpans, ha, he]
    refine Wp_ite.2 ⟨fun h1 => ?_, fun h1 => ?_⟩
    · obtain ⟨c, hc⟩ := byte_at (s := s) (i := a) (by omega)
      have hd := runE_cons hc
      have hcc : ((c.toNat : Int) = 101) ↔ c = 101 := byte_eq c 101 (by omega)
      simp only [Wp_bind, Wp_nn', Wp_ldI, Wp_ldS, Wp_ldV, Wp_ldB, Wp_idxS, Wp_sliceS, Wp_pure, plus_eq, Nat.zero_add, Nat.reduceAdd, Option.some.injEq, exists_eq_left', decide_eq_true_eq, st.ldErr, st.ldAt, st.ldSrc, st.ldNodes, st.ldSpans, ha, he, ba_get, Int.toNat_natCast, hc, Int.natCast_nonneg, true_and]
      by_cases h2 : c = 101
      · refine Wp_ite.2 ⟨fun e => by simp [hcc.2 h2] at e, fun _ => ?_⟩
        rw [Wp_pure]
        exact stop (by rw [hd, if_pos h2])
      · rw [if_neg h2] at hd
        refine ite_yes (by simp; intro e; exact h2 (hcc.1 e)) ?_
        have e1 : IntKind.i64.wrap ((a : Int) + 1) = ((a + 1 : Nat) : Int) := by rw [w64 (by omega) (by omega)]; simp
        simp only [Wp_bind, Wp_nn', Wp_ldI, Wp_ldS, Wp_ldV, Wp_ldB, Wp_idxS, Wp_sliceS, Wp_pure, plus_eq, Nat.zero_add, Nat.reduceAdd, Option.some.injEq, exists_eq_left', decide_eq_true_eq, st.ldErr, st.ldAt, st.ldSrc, st.ldNodes, st.ldSpans, ha, e1]
        refine st.setAt fun h2' st2 f2 => ?_
        refine (ref_intLoop hs n h2' (S.wAt ((a + 1 : Nat) : Int)) (a + 1) a1 he st2 rfl (by omega) (by omega)).mono fun x h3 hx => ?_
        obtain ⟨s3, f3⟩ := hx
        have e2 : a + runE (s.data.toList.drop a) = a + 1 + runE (s.data.toList.drop (a + 1)) := by rw [hd]; omega
        rw [e2]
        exact ⟨s3, f2.trans st.wf f3⟩
    · simp only [Wp_pure]
      exact stop (by rw [List.drop_eq_nil_of_le (by rw [size_toList]; omega)]; rfl)
def spIntT (s : ByteArray) (p : PV) : Rs (ByteArray × Nat) :=
  match (s.data.toList.drop p.pos).findIdx? (fun b => b == 101) with
  | none => .error (s.size, 4)
  | some j => if intOK (s.extract (p.pos + 1) (p.pos + j)) then .ok (s.extract (p.pos + 1) (p.pos + j), p.pos + j + 1) else .error (p.pos, 12)
theorem spInt_T (s : ByteArray) (p : PV) (d : Nat) : spInt s p d = match spIntT s p with
    | .error e => .error e
    | .ok (t, a) => spNode { p with pos := a } ⟨2, t, false, [], []⟩ p.pos d := by
  unfold spInt spIntT
  cases (s.data.toList.drop p.pos).findIdx? (fun b => b == 101) with
  | none => rfl
  | some j =>
    simp only
    split <;> rfl
theorem ref_integer {p : PV} (st : St h S) (is : Is S p) (hs : S.src.size ≤ 65536) (hc : S.src.data.toList[p.pos]? = some 105) (hn : S.src.size + 1 < n) :
    Wp (rosettaref34_State_integer n (some (adr S.b))) h (ResX h S p (spIntT S.src p)) := by
  have hlt := get_lt hc
  have hl := size_toList S.src
  have hz : (ofBytes []).size ≤ S.src.size := Nat.zero_le _
  unfold rosettaref34_State_integer spIntT
  have hr := runE_cons hc
  rw [if_neg (by decide)] at hr
  have hrl := runE_le (S.src.data.toList.drop p.pos)
  rw [findE]
  rw [List.length_drop, hl] at hrl ⊢
  have hstop := runE_stop S.src.data.toList p.pos
  generalize hj : runE (S.src.data.toList.drop p.pos) = j at *
  have e1 : IntKind.i64.wrap ((p.pos : Int) + 1) = ((p.pos + 1 : Nat) : Int) := by rw [w64 (by omega) (by omega)]; simp
  simp only [Wp_bind, Wp_nn', Wp_ldI, Wp_ldS, Wp_ldV, Wp_ldB, Wp_idxS, Wp_sliceS, Wp_pure, plus_eq, Nat.zero_add, Nat.reduceAdd, Option.some.injEq, exists_eq_left', decide_eq_true_eq, st.ldErr, st.ldAt, st.ldSrc, st.ldNodes, st.ldSpans, is.1, e1]
  refine st.setAt fun h1 st1 f1 => ?_
  have is1 := is.at (p.pos + 1)
  have hsrc1 : (S.wAt ((p.pos + 1 : Nat) : Int)).src = S.src := rfl
  have hb1 : (S.wAt ((p.pos + 1 : Nat) : Int)).b = S.b := rfl
  have q1 : (S.wAt ((p.pos + 1 : Nat) : Int)).nodes = S.nodes := rfl
  have q2 : (S.wAt ((p.pos + 1 : Nat) : Int)).spans = S.spans := rfl
  generalize S.wAt ((p.pos + 1 : Nat) : Int) = S1 at *
  rw [← hb1]
  refine (ref_intLoop hs n h1 S1 (p.pos + 1) _ hsrc1 st1 is1.1 (by omega) (by omega)).mono fun _ h2 hx => ?_
  obtain ⟨st2, f2⟩ := hx
  have ej : p.pos + 1 + runE (S.src.data.toList.drop (p.pos + 1)) = p.pos + j := by omega
  rw [ej] at st2 f2
  have is2 := is1.at (p.pos + j)
  have hsrc2 : (S1.wAt ((p.pos + j : Nat) : Int)).src = S.src := hsrc1
  have hb2 : (S1.wAt ((p.pos + j : Nat) : Int)).b = S1.b := rfl
  have q3 : (S1.wAt ((p.pos + j : Nat) : Int)).nodes = S.nodes := q1
  have q4 : (S1.wAt ((p.pos + j : Nat) : Int)).spans = S.spans := q2
  generalize S1.wAt ((p.pos + j : Nat) : Int) = S2 at *
  rw [← hb2]
  have f02 := f1.trans st.wf f2
  refine (ref_next st2 is2.2.2.2 hsrc2 is2.1).mono fun y h3 hy => ?_
  cases hd : S.src.data.toList[p.pos + j]? with
  | none =>
    rw [hd] at hy
    obtain ⟨_, st3, f3⟩ := hy
    have hge : ¬ j < S.src.size - p.pos := by rw [List.getElem?_eq_none_iff, hl] at hd; omega
    rw [if_neg hge]
    have fl : Fail ((S2.wOff S.src.size).wErr 4) (S.src.size, 4) := fail_two is2.2.2.2 (by simp)
    have w1 : ((S2.wOff S.src.size).wErr 4).nodes = S.nodes := q3
    have w2 : ((S2.wOff S.src.size).wErr 4).spans = S.spans := q4
    have w3 : ((S2.wOff S.src.size).wErr 4).b = S2.b := rfl
    rw [← w3]
    generalize (S2.wOff S.src.size).wErr 4 = S3 at *
    simp only [Wp_bind, Wp_nn', Wp_ldI, Wp_ldS, Wp_ldV, Wp_ldB, Wp_idxS, Wp_sliceS, Wp_pure, plus_eq, Nat.zero_add, Nat.reduceAdd, Option.some.injEq, exists_eq_left', decide_eq_true_eq, st3.ldErr, st3.ldAt, st3.ldSrc, st3.ldNodes, st3.ldSpans]
    refine ite_yes (by rw [fl.2.1]; rfl) ?_
    rw [Wp_pure]
    exact ⟨S3, st3, f02.trans st.wf f3, hz, fl, w1, w2⟩
  | some c =>
    rw [hd] at hy
    obtain ⟨_, rfl⟩ := hy
    have hlt2 := get_lt hd
    rw [if_pos (by omega)]
    have err2 : S2.err = 0 := is2.2.2.2
    have e2 : IntKind.i64.wrap (((p.pos + j : Nat) : Int) + 1) = ((p.pos + j + 1 : Nat) : Int) := by rw [w64 (by omega) (by omega)]; simp
    have hat2 : S2.at' = ((p.pos + j : Nat) : Int) := is2.1
    simp only [Wp_bind, Wp_nn', Wp_ldI, Wp_ldS, Wp_ldV, Wp_ldB, Wp_idxS, Wp_sliceS, Wp_pure, plus_eq, Nat.zero_add, Nat.reduceAdd, Option.some.injEq, exists_eq_left', decide_eq_true_eq, st2.ldErr, st2.ldAt, st2.ldSrc, st2.ldNodes, st2.ldSpans, err2]
    refine Wp_ite.2 ⟨fun e => by simp at e, fun _ => ?_⟩
    simp only [Wp_bind, Wp_nn', Wp_ldI, Wp_ldS, Wp_ldV, Wp_ldB, Wp_idxS, Wp_sliceS, Wp_pure, plus_eq, Nat.zero_add, Nat.reduceAdd, Option.some.injEq, exists_eq_left', decide_eq_true_eq, st2.ldErr, st2.ldAt, st2.ldSrc, st2.ldNodes, st2.ldSpans, hsrc2, hat2, e2, Int.toNat_natCast]
    have hj1 : 1 ≤ j := by omega
    refine ⟨by omega, by omega, by omega, ?_⟩
    refine st2.setAt fun h4 st4 f4 => ?_
    have is4 := is2.at (p.pos + j + 1)
    have hb4 : (S2.wAt ((p.pos + j + 1 : Nat) : Int)).b = S2.b := rfl
    have q5 : (S2.wAt ((p.pos + j + 1 : Nat) : Int)).nodes = S.nodes := q3
    have q6 : (S2.wAt ((p.pos + j + 1 : Nat) : Int)).spans = S.spans := q4
    generalize S2.wAt ((p.pos + j + 1 : Nat) : Int) = S4 at *
    rw [← hb4]
    have hsz : (S.src.extract (p.pos + 1) (p.pos + j)).size ≤ S.src.size := by
      rw [← size_toList, ex_list, List.length_take, List.length_drop, hl]; omega
    refine (valid03 (by omega) (by omega)).mono fun x h5 hx => ?_
    obtain ⟨rfl, rfl⟩ := hx
    have f04 := f02.trans st.wf f4
    cases hv : intOK (S.src.extract (p.pos + 1) (p.pos + j)) with
    | false =>
      refine ite_yes rfl ?_
      simp only [Wp_bind, Wp_nn', Wp_ldI, Wp_ldS, Wp_ldV, Wp_ldB, Wp_idxS, Wp_sliceS, Wp_pure, plus_eq, Nat.zero_add, Nat.reduceAdd, Option.some.injEq, exists_eq_left', decide_eq_true_eq, Bool.false_eq_true, if_false]
      refine (ref_fail st4 _ _).mono fun _ h6 hx => ?_
      obtain ⟨w1, w2, _⟩ := failed_nodes (S := S4) (p.pos : Int) 12
      exact ⟨_, hx.1, f04.trans st.wf hx.2, hsz, failed_ok is4.2.2.2 (by simp), w1.trans q5, w2.trans q6⟩
    | true =>
      refine Wp_ite.2 ⟨fun e => by simp at e, fun _ => ?_⟩
      rw [Wp_pure, if_pos rfl]
      exact ⟨S4, st4, f04, rfl, is4⟩
end Go.Sh
