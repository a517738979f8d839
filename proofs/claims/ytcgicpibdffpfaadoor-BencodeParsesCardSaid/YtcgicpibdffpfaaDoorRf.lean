/-
Contracts of the reference's reader of code points: At, Decode, Valid.
-/
import Derived.Test.YtcgicpibdffpfaaDoorRe
set_option linter.all false
namespace Go.Sh
open Go Go.Ago Go.Proofs
variable {h h' : AHeap} {n : Nat}
theorem wOf_le {s : ByteArray} {i : Nat} (hi : i < s.size) : wOf s i ≤ 4 := by
  by_cases h0 : 1 ≤ wOf s i
  · have hw : wOf s i = wid (Utf8.decode s i) := rfl
    have := (wid_dec (decide (i + 1 < s.size)) (decide (i + 2 < s.size)) (decide (i + 3 < s.size)) (UInt8.toNat_lt (s.get! i)) (UInt8.toNat_lt (s.get! (i + 1))) (UInt8.toNat_lt (s.get! (i + 2))) (UInt8.toNat_lt (s.get! (i + 3))) h0).1 (by rw [← decode_dec, hw])
    unfold Fw at this
    omega
  · omega
theorem at_cells (s : ByteArray) (i k : Nat) : Go.Sh.At (s.data.toList.map vb) i ((s.data.toList.drop i).take k) := fun j d hd => by
  rw [List.getElem?_take] at hd
  split at hd
  · rw [List.getElem?_drop] at hd
    rw [List.getElem?_map, hd]; rfl
  · cases hd
theorem at_L0 {s : ByteArray} {i b : Nat} (hi : i < s.size) (hs : s.size ≤ 65536) (l : LB h b (s.data.toList.map vb) T_u8) : ∀ (n k : Nat), 1 ≤ k → k ≤ 5 → (wOf s i = 0 ∨ k ≤ wOf s i) → 12 ≤ n + k →
    Wp (rosettaref01_At_L0 n i ⟨some ⟨b, 0, none⟩, s.size, 0⟩ k) h fun x h' => h' = h ∧ ∃ v : Int, x = if wOf s i = 0 then .inl () else .inr (v, (wOf s i : Int))
  | 0, k, _, hk, _, hn => by omega
  | n + 1, k, h1, hk, hw, hn => by
    rw [rosettaref01_At_L0_succ]
    unfold rosettaref01_At_L0_B
    have w4 := wOf_le hi
    have e1 : IntKind.i64.wrap ((i : Int) + k) = ((i + k : Nat) : Int) := by rw [w64 (by omega) (by omega)]; simp
    rw [e1]
    refine Wp_ite.2 ⟨fun e => ?_, fun e => ?_⟩
    · have e := of_decide_eq_true e
      refine Wp_ite.2 ⟨fun e2 => ?_, fun e2 => ?_⟩
      · have e2 := of_decide_eq_true e2
        simp only at e2
        unfold rosettaref01_At_L0_J0_B
        rw [e1, Wp_bind]
        have hz : (s.data.toList.drop i).length = s.size - i := by rw [List.length_drop, size_toList]
        refine Wp_sliceL (by omega) (by omega) (by simp only; omega) (by unfold elemOk; simp only [l.get]; simp [Nat.beq_refl]) ?_
        have hsl : (⟨Option.map (fun x => x.plus ((i : Int).toNat * 1)) (some (⟨b, 0, none⟩ : Addr)), ((i + k : Nat) : Int).toNat - (i : Int).toNat, 0 - (if (0 : Nat) = 0 then 0 else (i : Int).toNat)⟩ : Sl) = ⟨some ⟨b, i, none⟩, k, 0⟩ := by
          simp [plus_eq]; omega
        show Wp (M.bind (rosettaref01_begins n ⟨_, _, _⟩) _) h _
        rw [hsl, Wp_bind]
        have hlen : ((s.data.toList.drop i).take k).length = k := by rw [List.length_take, hz]; omega
        have hok := okSeq_w hi h1 (by omega : k ≤ 4)
        have hat := at_cells s i k
        cases hp : (s.data.toList.drop i).take k with
        | nil => rw [hp] at hlen; simp at hlen; omega
        | cons c T =>
          rw [hp] at hlen hok hat
          simp only [List.length_cons] at hlen
          refine (bg l hat (by omega) (by omega) (by omega)).mono fun x h' hx => ?_
          obtain ⟨he, hx⟩ := hx
          have he := he.symm
          subst he
          by_cases hwk : wOf s i = k
          · have := hx.2 (hok.2 hwk).2
            rw [if_pos (decide_eq_true this), Wp_pure]
            refine ⟨rfl, x.1, ?_⟩
            rw [if_neg (by omega), this, hwk]
          · have hne : ¬ x.2 = (k : Int) := fun e => hwk (hok.1 ⟨by omega, hx.1 e⟩)
            rw [if_neg (by simpa using hne)]
            have e3 : IntKind.i64.wrap ((k : Int) + 1) = ((k + 1 : Nat) : Int) := by rw [w64 (by omega) (by omega)]; simp
            rw [e3]
            exact at_L0 hi hs l n (k + 1) (by omega) (by omega) (by omega) (by omega)
      · simp only [decide_eq_true_eq] at e2
        have h0 : wOf s i = 0 := by
          rcases hw with h | h
          · exact h
          · by_cases hz : wOf s i = 0
            · exact hz
            · have := ((okSeq_w (n := wOf s i) hi (by omega) w4).2 rfl).1; omega
        rw [Wp_pure]; exact ⟨rfl, 0, by rw [if_pos h0]⟩
    · simp only [decide_eq_true_eq] at e
      have h0 : wOf s i = 0 := by omega
      rw [Wp_pure]; exact ⟨rfl, 0, by rw [if_pos h0]⟩
theorem at_wp {s : ByteArray} {i : Nat} (hi : i < s.size) (hs : s.size ≤ 65536) (hn : 12 ≤ n) (hw : WF h) : Wp (rosettaref01_At n s i) h fun x h' => x.2 = (wOf s i : Int) ∧ Fr (fun _ => False) h h' := by
  unfold rosettaref01_At
  have f1 := Fr.new (e := T_u8) (cs := s.data.toList.map vb) hw
  have l1 := LB.new (h := h) (e := T_u8) (cs := s.data.toList.map vb)
  rw [Wp_bind]
  have hb : Wp (bytesNew T_u8 s) h fun x h' => x = ⟨some ⟨h.next, 0, none⟩, s.size, 0⟩ ∧ h' = h.new T_u8 (s.data.toList.map vb) :=
    ⟨_, _, by unfold bytesNew; rw [if_pos (by unfold bigN; omega)]; rfl, rfl, rfl⟩
  refine hb.mono fun x h1 hx => ?_
  obtain ⟨rfl, rfl⟩ := hx
  rw [Wp_bind]
  refine (at_L0 hi hs l1 n 1 (by omega) (by omega) (by omega) (by omega)).mono fun x h' hx => ?_
  obtain ⟨rfl, v, rfl⟩ := hx
  by_cases h0 : wOf s i = 0
  · rw [if_pos h0]
    simp only [sumElim]
    rw [Wp_pure]; exact ⟨by rw [h0]; rfl, f1⟩
  · rw [if_neg h0]
    simp only [sumElim]
    rw [Wp_pure]; exact ⟨rfl, f1⟩
/-- A slice that a call built since the heap h0. -/
structure Own (h0 h : AHeap) (s : Sl) (e : TypeId) (k : Nat) : Prop where
  fr : Fr (fun _ => False) h0 h
  own : ∃ cs g, OSl h s 1 e cs g ∧ (g = 0 ∨ h0.next < g)
  len : s.len = k
theorem Own.nil {h0 : AHeap} (hw : WF h0) {e : TypeId} : Own h0 h0 sl0 e 0 := ⟨Fr.refl hw, ⟨[], 0, OSl.nil, .inl rfl⟩, rfl⟩
theorem Own.go {h0 h h' : AHeap} {s : Sl} {e : TypeId} {k : Nat} (o : Own h0 h s e k) (hw : WF h0) (f : Fr (fun _ => False) h h') : Own h0 h' s e k := by
  obtain ⟨cs, g, o1, o2⟩ := o.own
  exact ⟨o.fr.fresh hw f (fun _ h => h.elim), ⟨cs, g, o1.fr f (fun h => h.elim), o2⟩, o.len⟩
theorem Own.app1 {h0 h : AHeap} {s : Sl} {e : TypeId} {k : Nat} {v : Value} (hw : WF h0) (o : Own h0 h s e k) (hb : k + 1 ≤ bigN) {Q : Sl → AHeap → Prop} (hq : ∀ s' h', Own h0 h' s' e (k + 1) → Q s' h') :
    Wp (Ago.app false s 1 e 1 [v]) h Q := by
  obtain ⟨cs, g, o1, hg⟩ := o.own
  have hl := o.len
  refine OSl.app o1 o.fr.wf (by omega) (by simp) (by omega) fun s' h' g' h1 h2 h3 h4 f => hq s' h' ⟨o.fr.trans hw f fun g2 e h0' => ?_, ⟨_, g', by simpa using h3, ?_⟩, by omega⟩
  · rcases hg with e2 | e2
    · exact absurd (e.trans e2) h0'
    · exact .inr (by omega)
  · have := o.fr.next
    rcases h4 with ⟨e, _⟩ | e
    · rcases hg with e2 | e2
      · exact .inl (by omega)
      · exact .inr (by omega)
    · exact .inr (by omega)
theorem ck_step {s : ByteArray} {i : Nat} (hi : i < s.size) : ckAt s (s.size + 1) i = if wOf s i = 0 then some i else ckAt s (s.size + 1) (i + wOf s i) := by
  have hwp := width_pos s i hi
  rw [ckAt, if_pos hi]
  unfold wOf
  by_cases hb : (Utf8.decode s i).1 = 65533 ∧ (Utf8.decode s i).2 = 1
  · rw [if_pos hb, if_pos hb, if_pos rfl]
  · rw [if_neg hb, if_neg hb, if_neg (by omega)]
    exact ck_more s _ _ _ (by omega) (by omega)
theorem decode_L0 {s : ByteArray} (hs : s.size ≤ 65536) {h0 : AHeap} (hw : WF h0) : ∀ (n i k : Nat) (h : AHeap) (sl : Sl), Own h0 h sl T_i32 k → k ≤ i → i ≤ s.size → s.size - i + 20 < n →
    Wp (rosettaref01_Decode_L0 n s sl i) h fun x h' => Fr (fun _ => False) h0 h' ∧ match ckAt s (s.size + 1) i with
      | none => ∃ sl', x = .inl sl'
      | some p => ∃ sl', x = .inr (sl', (p : Int))
  | 0, _, _, _, _, _, _, _, hn => by omega
  | n + 1, i, k, h, sl, o, hk, hi, hn => by
    have hsucc : rosettaref01_Decode_L0 (n + 1) = rosettaref01_Decode_L0_B (rosettaref01_Decode_L0 n) n := rfl
    rw [hsucc]
    unfold rosettaref01_Decode_L0_B
    refine Wp_ite.2 ⟨fun e => ?_, fun e => ?_⟩
    · have e := of_decide_eq_true e
      have hlt : i < s.size := by omega
      rw [Wp_bind]
      refine (at_wp hlt hs (by omega) o.fr.wf).mono fun x h1 hx => ?_
      obtain ⟨hx, f1⟩ := hx
      have o1 := o.go hw f1
      rw [ck_step hlt]
      by_cases h0 : wOf s i = 0
      · rw [if_pos (decide_eq_true (by omega)), Wp_pure, if_pos h0]
        exact ⟨o1.fr, sl, rfl⟩
      · rw [if_neg (by simp; omega), if_neg h0, Wp_bind]
        refine o1.app1 hw (by unfold bigN; omega) fun s' h2 o2 => ?_
        have w4 := wOf_le hlt
        have hle := ((okSeq_w (n := wOf s i) hlt (by omega) w4).2 rfl).1
        have e1 : IntKind.i64.wrap ((i : Int) + x.2) = ((i + wOf s i : Nat) : Int) := by rw [hx, w64 (by omega) (by omega)]; simp
        rw [e1]
        exact decode_L0 hs hw n (i + wOf s i) (k + 1) h2 s' o2 (by omega) hle (by omega)
    · simp only [decide_eq_true_eq] at e
      rw [Wp_pure, ckAt, if_neg (by omega)]
      exact ⟨o.fr, sl, rfl⟩
theorem valid01 {s : ByteArray} (hs : s.size ≤ 65536) (hn : s.size + 20 < n) (hw : WF h) : Wp (rosettaref01_Valid n s) h fun x h' => x = u8 s ∧ Fr (fun _ => False) h h' := by
  unfold rosettaref01_Valid rosettaref01_Decode
  simp only [Wp_bind]
  refine (decode_L0 hs hw n 0 0 h sl0 (Own.nil hw) (by omega) (by omega) (by omega)).mono fun x h' hx => ?_
  obtain ⟨f, hx⟩ := hx
  unfold u8
  cases hc : ckAt s (s.size + 1) 0 with
  | none =>
    rw [hc] at hx
    obtain ⟨sl', rfl⟩ := hx
    simp only [sumElim, Wp_pure]
    exact ⟨rfl, f⟩
  | some p =>
    rw [hc] at hx
    obtain ⟨sl', rfl⟩ := hx
    simp only [sumElim, Wp_pure]
    exact ⟨decide_eq_false (by omega), f⟩
end Go.Sh
