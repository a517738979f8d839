/-
Contracts of the reference's functions that read strings and integers, whole.
-/
import Derived.Test.YtcgicpibdffpfaaDoorRb
set_option linter.all false
namespace Go.Sh
open Go Go.Ago Go.Proofs
variable {h h' : AHeap} {S S' : PSt} {n : Nat}
theorem byte_at {s : ByteArray} {i : Nat} (h : i < s.size) : ∃ c, s.data.toList[i]? = some c := ⟨_, List.getElem?_eq_getElem (by rwa [size_toList])⟩
theorem ref_text {p : PV} (st : St h S) (is : Is S p) (hs : S.src.size ≤ 65536) (hp : p.pos ≤ S.src.size) (hn : S.src.size < n) :
    Wp (rosettaref34_State_text n (some (adr S.b))) h (ResX h S p (spText S.src p.pos)) := by
  have hsrc : S.src = S.src := rfl
  have err0 := is.2.2.2
  unfold rosettaref34_State_text
  simp only [Wp_bind, Wp_nn', Wp_ldI, Wp_ldS, Wp_ldV, Wp_ldB, Wp_idxS, Wp_sliceS, Wp_pure, plus_eq, Nat.zero_add, Nat.reduceAdd, Option.some.injEq, exists_eq_left', decide_eq_true_eq, st.ldAt, is.1]
  refine (ref_digits hs n h S p.pos 0 _ rfl st is.1 hp (by omega) (by omega)).mono fun x h1 hx => ?_
  obtain ⟨hx0, st1, f1⟩ := hx
  have hle := digs_le S.src.data.toList p.pos
  rw [size_toList] at hle
  generalize hD : digs (S.src.data.toList.drop p.pos) = D at *
  have hcap : decCap 0 D = min (decVal D) 1000000 := decCap_eq D 0
  rw [hcap] at hx0
  have hsrc1 : (S.wAt ((p.pos + D.length : Nat) : Int)).src = S.src := rfl
  have hat1 : (S.wAt ((p.pos + D.length : Nat) : Int)).at' = (p.pos + D.length : Nat) := rfl
  have herr1 : (S.wAt ((p.pos + D.length : Nat) : Int)).err = 0 := err0
  have hb1 : (S.wAt ((p.pos + D.length : Nat) : Int)).b = S.b := rfl
  have q1 : (S.wAt ((p.pos + D.length : Nat) : Int)).nodes = S.nodes := rfl
  have q2 : (S.wAt ((p.pos + D.length : Nat) : Int)).spans = S.spans := rfl
  generalize S.wAt ((p.pos + D.length : Nat) : Int) = S1 at *
  have is1 : Is S1 { p with pos := p.pos + D.length } := ⟨hat1, by rw [q1]; exact is.2.1, by rw [q2]; exact is.2.2.1, herr1⟩
  rw [← hb1]
  have hz : (ofBytes []).size ≤ S.src.size := Nat.zero_le _
  have spec : spText S.src p.pos = if D.length = 0 then .error (p.pos, 4) else if 1 < D.length ∧ S.src.data.toList[p.pos]? = some 48 then .error (p.pos, 12) else spTail S.src (p.pos + D.length) D := by
    unfold spText spTail; simp only [hD]; rfl
  rw [spec]
  clear spec
  simp only [Wp_bind, Wp_nn', Wp_ldI, Wp_ldS, Wp_ldV, Wp_ldB, Wp_idxS, Wp_sliceS, Wp_pure, plus_eq, Nat.zero_add, Nat.reduceAdd, Option.some.injEq, exists_eq_left', decide_eq_true_eq, st1.ldAt, hat1]
  by_cases hD0 : D.length = 0
  · rw [if_pos hD0, if_pos (by omega), Wp_bind]
    refine (ref_next st1 herr1 hsrc1 hat1).mono fun y h2 hy => ?_
    cases hc : S.src.data.toList[p.pos + D.length]? with
    | none =>
      rw [hc] at hy
      obtain ⟨_, st2, f2⟩ := hy
      have hsz : S.src.size ≤ p.pos + D.length := by
        rw [List.getElem?_eq_none_iff] at hc; exact hc
      have fl : Fail ((S1.wOff S.src.size).wErr 4) (p.pos, 4) := by
        refine ⟨?_, rfl, by simp⟩
        show ((S.src.size : Nat) : Int) = (p.pos : Int); omega
      have w1 : ((S1.wOff S.src.size).wErr 4).nodes = S.nodes := q1
      have w2 : ((S1.wOff S.src.size).wErr 4).spans = S.spans := q2
      have w3 : ((S1.wOff S.src.size).wErr 4).b = S1.b := rfl
      rw [← w3]
      generalize (S1.wOff S.src.size).wErr 4 = S2 at *
      simp only [Wp_bind, Wp_nn', Wp_ldI, Wp_ldS, Wp_ldV, Wp_ldB, Wp_idxS, Wp_sliceS, Wp_pure, plus_eq, Nat.zero_add, Nat.reduceAdd, Option.some.injEq, exists_eq_left', decide_eq_true_eq]
      refine (ref_fail st2 _ _).mono fun _ h3 hx => ?_
      have he : ∀ a, S2.failed a 4 = S2 := fun a => by unfold PSt.failed; rw [if_neg (by rw [fl.2.1]; simp)]
      rw [he] at hx
      exact ⟨S2, hx.1, (f1.trans st.wf f2).trans st.wf hx.2, hz, fl, w1, w2⟩
    | some c =>
      rw [hc] at hy
      obtain ⟨_, rfl⟩ := hy
      simp only [Wp_bind, Wp_nn', Wp_ldI, Wp_ldS, Wp_ldV, Wp_ldB, Wp_idxS, Wp_sliceS, Wp_pure, plus_eq, Nat.zero_add, Nat.reduceAdd, Option.some.injEq, exists_eq_left', decide_eq_true_eq]
      refine (ref_fail st1 _ _).mono fun _ h3 hx => ?_
      obtain ⟨w1, w2, _⟩ := failed_nodes (S := S1) (p.pos : Int) 4
      exact ⟨_, hx.1, f1.trans st.wf hx.2, hz, failed_ok herr1 (by simp), w1.trans q1, w2.trans q2⟩
  · rw [if_neg hD0, if_neg (by omega)]
    have tail : Wp (rosettaref34_State_text_J0 n (some (adr S1.b)) x) h1 (ResX h S p (spTail S.src (p.pos + D.length) D)) := by
      rw [hx0]
      refine (ref_text_J0 (a1 := p.pos + D.length) (D := D) st1 is1 (by rw [hsrc1]; exact hs) rfl (by rw [hsrc1]; omega)).mono fun y h2 hy => ?_
      rw [hsrc1] at hy
      obtain ⟨S', a1, a2, a3⟩ := hy
      refine ⟨S', a1, f1.trans st.wf a2, ?_⟩
      cases hr : spTail S.src (p.pos + D.length) D with
      | ok q => rw [hr] at a3; exact a3
      | error e =>
        rw [hr] at a3
        obtain ⟨b1, b2, b3, b4⟩ := a3
        rw [hsrc1] at b1
        exact ⟨b1, b2, b3.trans q1, b4.trans q2⟩
    obtain ⟨c, hc⟩ := byte_at (s := S.src) (i := p.pos) (by omega)
    simp only [Wp_bind, Wp_nn', Wp_ldI, Wp_ldS, Wp_ldV, Wp_ldB, Wp_idxS, Wp_sliceS, Wp_pure, plus_eq, Nat.zero_add, Nat.reduceAdd, Option.some.injEq, exists_eq_left', decide_eq_true_eq, st1.ldErr, st1.ldAt, st1.ldSrc, st1.ldNodes, st1.ldSpans, hsrc1, hat1, ba_get, Int.toNat_natCast, hc, Int.natCast_nonneg, true_and]
    have hcc : ((c.toNat : Int) = 48) ↔ c = 48 := byte_eq c 48 (by omega)
    have e1 : IntKind.i64.wrap ((p.pos : Int) + 1) = ((p.pos + 1 : Nat) : Int) := by rw [w64 (by omega) (by omega)]; simp
    by_cases hc48 : c = 48
    · rw [if_pos (hcc.2 hc48)]
      simp only [Wp_bind, Wp_nn', Wp_ldI, Wp_ldS, Wp_ldV, Wp_ldB, Wp_idxS, Wp_sliceS, Wp_pure, plus_eq, Nat.zero_add, Nat.reduceAdd, Option.some.injEq, exists_eq_left', decide_eq_true_eq, st1.ldErr, st1.ldAt, st1.ldSrc, st1.ldNodes, st1.ldSpans, hat1, e1]
      refine Wp_ite.2 ⟨fun h5 => ?_, fun h5 => ?_⟩
      · rw [if_pos ⟨by omega, by rw [hc48]⟩]
        simp only [Wp_bind, Wp_nn', Wp_ldI, Wp_ldS, Wp_ldV, Wp_ldB, Wp_idxS, Wp_sliceS, Wp_pure, plus_eq, Nat.zero_add, Nat.reduceAdd, Option.some.injEq, exists_eq_left', decide_eq_true_eq]
        refine (ref_fail st1 _ _).mono fun _ h3 hx => ?_
        obtain ⟨w1, w2, _⟩ := failed_nodes (S := S1) (p.pos : Int) 12
        exact ⟨_, hx.1, f1.trans st.wf hx.2, hz, failed_ok herr1 (by simp), w1.trans q1, w2.trans q2⟩
      · rw [if_neg (fun e => h5 (by omega))]
        exact tail
    · rw [if_neg (fun e => hc48 (hcc.1 e)), if_neg (fun e => hc48 e.2)]
      exact tail
theorem valid03_loop {s : ByteArray} (hs : s.size ≤ 65536) : ∀ (n i : Nat) (h : AHeap), i ≤ s.size → s.size - i < n →
    Wp (rosettaref03_Valid_L0 n s i) h fun x h' => h' = h ∧ x = if (s.data.toList.drop i).all isDig = true then .inl () else .inr false
  | 0, _, _, _, hn => by omega
  | n + 1, i, h, hi, hn => by
    rw [rosettaref03_Valid_L0_succ]
    unfold rosettaref03_Valid_L0_B
    simp only [Wp_bind, Wp_nn', Wp_ldI, Wp_ldS, Wp_ldV, Wp_ldB, Wp_idxS, Wp_sliceS, Wp_pure, plus_eq, Nat.zero_add, Nat.reduceAdd, Option.some.injEq, exists_eq_left', decide_eq_true_eq]
    refine Wp_ite.2 ⟨fun h1 => ?_, fun h1 => ?_⟩
    · have h1' : i < s.size := by omega
      have hc : s.data.toList[i]? = some s.data.toList[i] := List.getElem?_eq_getElem (by rwa [size_toList])
      generalize s.data.toList[i] = c at hc
      have had := all_drop hc
      rw [isDig_int] at had
      simp only [Wp_bind, Wp_nn', Wp_ldI, Wp_ldS, Wp_ldV, Wp_ldB, Wp_idxS, Wp_sliceS, Wp_pure, plus_eq, Nat.zero_add, Nat.reduceAdd, Option.some.injEq, exists_eq_left', decide_eq_true_eq, ba_get, Int.toNat_natCast, hc, Int.natCast_nonneg, true_and]
      refine Wp_ite.2 ⟨fun h2 => ?_, fun h2 => ?_⟩
      · have hb : (s.data.toList.drop i).all isDig = false := by rw [had]; simp; intro h3; omega
        rw [Wp_pure, hb]; exact ⟨rfl, rfl⟩
      · simp only [Wp_bind, Wp_nn', Wp_ldI, Wp_ldS, Wp_ldV, Wp_ldB, Wp_idxS, Wp_sliceS, Wp_pure, plus_eq, Nat.zero_add, Nat.reduceAdd, Option.some.injEq, exists_eq_left', decide_eq_true_eq, ba_get, Int.toNat_natCast, hc, Int.natCast_nonneg, true_and]
        refine Wp_ite.2 ⟨fun h3 => ?_, fun h3 => ?_⟩
        · have hb : (s.data.toList.drop i).all isDig = false := by rw [had]; simp; intro h3; omega
          rw [Wp_pure, hb]; exact ⟨rfl, rfl⟩
        · have e2 : IntKind.i64.wrap ((i : Int) + 1) = (i + 1 : Nat) := by rw [w64 (by omega) (by omega)]; omega
          rw [e2]
          refine (valid03_loop hs n (i + 1) h h1' (by omega)).mono fun x h2 hx => ?_
          have : (s.data.toList.drop i).all isDig = (s.data.toList.drop (i + 1)).all isDig := by
            rw [had]; simp; intro; omega
          rw [this]; exact hx
    · rw [Wp_pure, List.drop_eq_nil_of_le (by rw [size_toList]; omega)]
      exact ⟨rfl, rfl⟩
theorem valid03_J0 {s : ByteArray} (hs : s.size ≤ 65536) {a : Nat} (ha : a ≤ s.size) (hn : s.size < n) : Wp (rosettaref03_Valid_J0 n s a) h fun x h' => h' = h ∧ x = okT s.size (s.data.toList.drop a) := by
  unfold rosettaref03_Valid_J0
  have hl : (s.data.toList.drop a).length = s.size - a := by rw [List.length_drop, size_toList]
  simp only [decide_eq_true_eq]
  refine Wp_ite.2 ⟨fun h1 => ?_, fun h1 => ?_⟩
  · have h0 : (s.data.toList.drop a).length = 0 := by omega
    rw [Wp_pure]; exact ⟨rfl, by unfold okT; simp [h0]⟩
  · have e1 : IntKind.i64.wrap ((s.size : Int) - a) = (s.size - a : Nat) := by rw [w64 (by omega) (by omega)]; omega
    rw [e1]
    refine Wp_ite.2 ⟨fun h2 => ?_, fun h2 => ?_⟩
    · have h0 : ¬ (s.data.toList.drop a).length ≤ 400 := by omega
      rw [Wp_pure]; exact ⟨rfl, by unfold okT; rw [decide_eq_false (by rintro ⟨_, h6, _⟩; exact h0 h6)]; rfl⟩
    · have h3 : (s.data.toList.drop a).length ≠ 0 := by omega
      have h4 : (s.data.toList.drop a).length ≤ 400 := by omega
      obtain ⟨c, hc⟩ := byte_at (s := s) (i := a) (by omega)
      have hh : (s.data.toList.drop a).head? = some c := by rw [List.head?_drop]; exact hc
      have hcc : ((c.toNat : Int) = 48) ↔ c = 48 := byte_eq c 48 (by omega)
      have good : okT s.size (s.data.toList.drop a) = (s.data.toList.drop a).all isDig → Wp (M.bind (rosettaref03_Valid_L0 n s a) (sumElim (fun x1 => M.pure true) (fun x1 => M.pure x1))) h fun x h' => h' = h ∧ x = okT s.size (s.data.toList.drop a) := by
        intro hg
        rw [Wp_bind]
        refine (valid03_loop hs n a h ha (by omega)).mono fun x h2 hx => ?_
        obtain ⟨rfl, rfl⟩ := hx
        rw [hg]
        cases (s.data.toList.drop a).all isDig
        · exact ⟨_, _, rfl, rfl, rfl⟩
        · exact ⟨_, _, rfl, rfl, rfl⟩
      simp only [Wp_bind, Wp_nn', Wp_ldI, Wp_ldS, Wp_ldV, Wp_ldB, Wp_idxS, Wp_sliceS, Wp_pure, plus_eq, Nat.zero_add, Nat.reduceAdd, Option.some.injEq, exists_eq_left', decide_eq_true_eq, ba_get, Int.toNat_natCast, hc, Int.natCast_nonneg, true_and]
      by_cases h5 : c = 48
      · rw [if_pos (hcc.2 h5)]
        refine Wp_ite.2 ⟨fun h6 => ?_, fun h6 => ?_⟩
        · rw [Wp_pure]; exact ⟨rfl, by unfold okT; rw [hh, h5]; simp; intro _ _ hm; omega⟩
        · have := good (by unfold okT; rw [decide_eq_true ⟨h3, h4, fun e => h6 (by omega)⟩]; exact Bool.true_and _)
          simpa only [Wp_bind, Wp_nn', Wp_ldI, Wp_ldS, Wp_ldV, Wp_ldB, Wp_idxS, Wp_sliceS, Wp_pure, plus_eq, Nat.zero_add, Nat.reduceAdd, Option.some.injEq, exists_eq_left', decide_eq_true_eq] using this
      · rw [if_neg (fun e => h5 (hcc.1 e))]
        have := good (by unfold okT; rw [decide_eq_true ⟨h3, h4, fun e => h5 (Option.some.inj (hh.symm.trans e.1))⟩]; exact Bool.true_and _)
        simpa only [Wp_bind, Wp_nn', Wp_ldI, Wp_ldS, Wp_ldV, Wp_ldB, Wp_idxS, Wp_sliceS, Wp_pure, plus_eq, Nat.zero_add, Nat.reduceAdd, Option.some.injEq, exists_eq_left', decide_eq_true_eq] using this
theorem valid03 {s : ByteArray} (hs : s.size ≤ 65536) (hn : s.size < n) : Wp (rosettaref03_Valid n s) h fun x h' => h' = h ∧ x = intOK s := by
  unfold rosettaref03_Valid
  have hl : s.data.toList.length = s.size := size_toList s
  have e0 : intOK s = okT s.size (if 1 < s.data.toList.length ∧ s.data.toList.head? = some 45 then s.data.toList.tail else s.data.toList) := rfl
  rw [e0, hl]
  refine Wp_ite.2 ⟨fun h1 => ?_, fun h1 => ?_⟩
  · have h1 := of_decide_eq_true h1
    have hc : s.data.toList[0]? = some s.data.toList[0] := List.getElem?_eq_getElem (by omega)
    generalize s.data.toList[0] = c at hc
    have hh : s.data.toList.head? = some c := by rw [List.head?_eq_getElem?]; exact hc
    have hcc : ((c.toNat : Int) = 45) ↔ c = 45 := byte_eq c 45 (by omega)
    rw [hh]
    simp only [Wp_bind, Wp_nn', Wp_ldI, Wp_ldS, Wp_ldV, Wp_ldB, Wp_idxS, Wp_sliceS, Wp_pure, plus_eq, Nat.zero_add, Nat.reduceAdd, Option.some.injEq, exists_eq_left', decide_eq_true_eq, ba_get, Int.toNat_zero, hc, Int.le_refl, true_and]
    refine Wp_ite.2 ⟨fun h2 => ?_, fun h2 => ?_⟩
    · have h3 := hcc.1 h2
      refine (valid03_J0 (a := 1) hs (by omega) hn).mono fun x h' hx => ⟨hx.1, ?_⟩
      rw [hx.2, h3]
      by_cases h4 : 1 < s.size
      · rw [if_pos ⟨h4, rfl⟩, List.drop_one]
      · rw [if_neg (fun e => h4 e.1)]
        have h5 : s.data.toList = [45] := by
          match hL : s.data.toList with
          | [] => rw [hL] at hl; simp at hl; omega
          | [d] => rw [hL] at hc; simp at hc; rw [hc, h3]
          | d :: e :: _ => rw [hL] at hl; simp at hl; omega
        rw [h5]
        unfold okT
        simp [isDig]
    · refine (valid03_J0 (a := 0) hs (by omega) hn).mono fun x h' hx => ⟨hx.1, ?_⟩
      rw [hx.2, if_neg (fun e => h2 (hcc.2 e.2)), List.drop_zero]
  · have h1 : ¬ (0 : Int) < s.size := fun e => h1 (decide_eq_true e)
    refine (valid03_J0 (a := 0) hs (by omega) hn).mono fun x h' hx => ⟨hx.1, ?_⟩
    rw [hx.2, if_neg (fun e => by omega), List.drop_zero]
end Go.Sh
