/-
Contracts of the reference's reader of code points.
-/
import Derived.Test.YtcgicpibdffpfaaDoorRu
import Derived.Test.YtcgicpibdffpfaaDoorAw
import Derived.Test.YtcgicpibdffpfaaDoorLl
set_option linter.all false
namespace Go.Sh
open Go Go.Ago Go.Proofs
variable {h h' : AHeap} {n : Nat}
theorem w64n {x : Nat} (h : x ≤ 9223372036854775807) : IntKind.i64.wrap (x : Int) = x := w64 (by omega) (by omega)
/-- The bytes T stand in block b from the offset o on. -/
def At (cs : List Value) (o : Nat) (T : List UInt8) : Prop := ∀ (j : Nat) (d : UInt8), T[j]? = some d → cs[o + j]? = some (vb d)
theorem At.tail {cs : List Value} {o : Nat} {d : UInt8} {T : List UInt8} (a : At cs o (d :: T)) : At cs (o + 1) T := fun j e he => by
  have := a (j + 1) e (by rw [List.getElem?_cons_succ]; exact he)
  rwa [show o + 1 + j = o + (j + 1) by omega]
theorem At.ld {b o : Nat} {cs : List Value} {d : UInt8} {T : List UInt8} (l : LB h b cs T_u8) (a : At cs o (d :: T)) : h.ldI .u8 b o = some (d.toNat : Int) :=
  l.ld (lf := .int .u8) (v := vb d) (by simpa using a 0 d rfl) rfl
theorem bg_L0 {b o m cp : Nat} {cs : List Value} (l : LB h b cs T_u8) {a1 lo hi : Int} (hm : m ≤ 4) : ∀ (T : List UInt8) (n i v : Nat), At cs (o + i) T → i + T.length = m → T.length < n → (v + 1) * 64 ^ T.length ≤ 1099511627776 →
    Wp (rosettaref01_begins_L0 n ⟨some ⟨b, o, none⟩, m, cp⟩ a1 v lo hi i) h fun x h' => h' = h ∧ x = if T.all cont = true then .inl ((cvAll v T : Nat) : Int) else .inr (0, 0)
  | _, 0, _, _, _, _, hn, _ => by omega
  | [], n + 1, i, v, _, hi', hn, hv => by
    rw [rosettaref01_begins_L0_succ]
    unfold rosettaref01_begins_L0_B
    simp only [List.length_nil, Nat.add_zero] at hi'
    refine Wp_ite.2 ⟨fun e => by simp at e; omega, fun _ => ?_⟩
    rw [Wp_pure]; exact ⟨rfl, rfl⟩
  | d :: T, n + 1, i, v, ha, hi', hn, hv => by
    rw [rosettaref01_begins_L0_succ]
    unfold rosettaref01_begins_L0_B
    simp only [List.length_cons] at hi' hn hv
    have hld := ha.ld l
    have hlt := d.toNat_lt
    refine ite_yes (by simp; omega) ?_
    simp only [Wp_bind, Wp_nn', Wp_ldI, Wp_ldS, Wp_ldV, Wp_ldB, Wp_idxS, Wp_sliceS, Wp_pure, plus_eq, Nat.zero_add, Nat.reduceAdd, Option.some.injEq, exists_eq_left', decide_eq_true_eq, Wp_idxA, exists_eq_left', Int.toNat_natCast, Nat.mul_one, hld]
    refine ⟨by omega, by omega, ?_⟩
    refine Wp_ite.2 ⟨fun h1 => ?_, fun h1 => ?_⟩
    · have hc : cont d = false := decide_eq_false (by omega)
      rw [Wp_pure]; exact ⟨rfl, by rw [List.all_cons, hc]; rfl⟩
    · simp only [Wp_bind, Wp_nn', Wp_ldI, Wp_ldS, Wp_ldV, Wp_ldB, Wp_idxS, Wp_sliceS, Wp_pure, plus_eq, Nat.zero_add, Nat.reduceAdd, Option.some.injEq, exists_eq_left', decide_eq_true_eq, Wp_idxA, exists_eq_left', Int.toNat_natCast, Nat.mul_one, hld]
      refine ⟨by omega, by omega, ?_⟩
      refine Wp_ite.2 ⟨fun h2 => ?_, fun h2 => ?_⟩
      · have hc : cont d = false := decide_eq_false (by omega)
        rw [Wp_pure]; exact ⟨rfl, by rw [List.all_cons, hc]; rfl⟩
      · have hc : cont d = true := decide_eq_true (by omega)
        unfold rosettaref01_begins_L0_J0_B
        have hv1 : v + 1 ≤ 1099511627776 := Nat.le_trans (Nat.le_mul_of_pos_right _ (Nat.pow_pos (by omega))) hv
        have e1 : IntKind.i64.wrap (IntKind.i64.wrap (IntKind.i64.wrap (64 * (v : Int)) + IntKind.i64.wrap ((d.toNat : Nat) : Int)) - 128) = ((64 * v + (d.toNat - 128) : Nat) : Int) := by
          rw [w64 (x := 64 * (v : Int)) (by omega) (by omega), w64 (x := ((d.toNat : Nat) : Int)) (by omega) (by omega), w64 (x := 64 * (v : Int) + (d.toNat : Nat)) (by omega) (by omega), w64 (by omega) (by omega)]; omega
        have e2 : IntKind.i64.wrap ((i : Int) + 1) = ((i + 1 : Nat) : Int) := by rw [w64 (by omega) (by omega)]; simp
        simp only [Wp_bind, Wp_nn', Wp_ldI, Wp_ldS, Wp_ldV, Wp_ldB, Wp_idxS, Wp_sliceS, Wp_pure, plus_eq, Nat.zero_add, Nat.reduceAdd, Option.some.injEq, exists_eq_left', decide_eq_true_eq, Wp_idxA, exists_eq_left', Int.toNat_natCast, Nat.mul_one, hld, e1, e2]
        refine ⟨by omega, by omega, ?_⟩
        refine (bg_L0 l hm T n (i + 1) (64 * v + (d.toNat - 128)) ha.tail (by omega) (by omega) ?_).mono fun x h' hx => ⟨hx.1, ?_⟩
        · have h9 : (64 * v + (d.toNat - 128) + 1) * 64 ^ T.length ≤ ((v + 1) * 64) * 64 ^ T.length := Nat.mul_le_mul_right _ (by omega)
          have h10 : ((v + 1) * 64) * 64 ^ T.length = (v + 1) * 64 ^ (T.length + 1) := by rw [Nat.pow_succ, Nat.mul_assoc, Nat.mul_comm 64]
          rw [h10] at h9
          exact Nat.le_trans h9 hv
        · have hcv : cvAll v (d :: T) = cvAll (64 * v + (d.toNat - 128)) T := by unfold cvAll; rw [List.foldl_cons]
          rw [hx.2, List.all_cons, hc, Bool.true_and, hcv]
theorem bg_L1 {z : Nat} {lo hi : Int} (hz : z ≤ 4) : ∀ (n i : Nat) (low high : Int), z - i < n → i ≤ 4 →
    Wp (rosettaref01_begins_L1 n z lo hi low high i) h fun x h' => h' = h ∧ (z ≤ i → x = (low, high))
  | 0, _, _, _, hn, _ => by omega
  | n + 1, i, low, high, hn, hi4 => by
    rw [rosettaref01_begins_L1_succ]
    unfold rosettaref01_begins_L1_B
    refine Wp_ite.2 ⟨fun e => ?_, fun _ => ?_⟩
    · have e := of_decide_eq_true e
      have e2 : IntKind.i64.wrap ((i : Int) + 1) = ((i + 1 : Nat) : Int) := by rw [w64 (by omega) (by omega)]; simp
      rw [e2]
      exact (bg_L1 hz n (i + 1) _ _ (by omega) (by omega)).mono fun x h' hx => ⟨hx.1, fun hzi => by omega⟩
    · rw [Wp_pure]; exact ⟨rfl, fun _ => rfl⟩
theorem bg_J3 {b o m cp : Nat} {cs : List Value} (l : LB h b cs T_u8) {T : List UInt8} (ha : At cs (o + 1) T) (hm : 1 + T.length = m) (hm4 : m ≤ 4) {z v lo hi : Nat} (hz : z ≤ 4) (hv : v ≤ 31) (hn : 6 ≤ n) :
    Wp (rosettaref01_begins_J3 n ⟨some ⟨b, o, none⟩, m, cp⟩ z v lo hi) h fun x h' => h' = h ∧ (x.2 = (m : Int) ↔ (z = m ∧ T.all cont = true ∧ goodV lo hi (cvAll v T))) := by
  unfold rosettaref01_begins_J3
  have zero : ¬ (z = m ∧ T.all cont = true ∧ goodV lo hi (cvAll v T)) → Wp (M.pure ((0 : Int), (0 : Int))) h fun x h' => h' = h ∧ (x.2 = (m : Int) ↔ (z = m ∧ T.all cont = true ∧ goodV lo hi (cvAll v T))) := by
    intro hno
    rw [Wp_pure]
    exact ⟨rfl, fun e => by simp only at e; omega, fun e => absurd e hno⟩
  refine Wp_ite.2 ⟨fun e => ?_, fun e => ?_⟩
  · have e := of_decide_eq_true e
    exact zero (fun q => by have := q.1; simp only at e; omega)
  · rw [Wp_bind]
    have hpow : (v + 1) * 64 ^ T.length ≤ 1099511627776 := by
      have h1 : 64 ^ T.length ≤ 64 ^ 3 := Nat.pow_le_pow_right (by omega) (by omega)
      exact Nat.le_trans (Nat.mul_le_mul (show v + 1 ≤ 32 by omega) h1) (by decide)
    refine (bg_L0 (a1 := z) (lo := lo) (hi := hi) l hm4 T n 1 v ha hm (by omega) hpow).mono fun x h' hx => ?_
    obtain ⟨rfl, rfl⟩ := hx
    by_cases hall : T.all cont = true
    · rw [if_pos hall]
      simp only [sumElim]
      rw [Wp_bind]
      refine (bg_L1 (lo := lo) (hi := hi) hz n m _ _ (by omega) hm4).mono fun y h2 hy => ?_
      obtain ⟨rfl, hy⟩ := hy
      by_cases hzm : z = m
      · have hy := hy (by omega)
        subst hy
        simp only
        refine Wp_ite.2 ⟨fun e => zero (fun q => ?_), fun e1 => Wp_ite.2 ⟨fun e => zero (fun q => ?_), fun e2 => Wp_ite.2 ⟨fun e3 => Wp_ite.2 ⟨fun e => zero (fun q => ?_), fun e4 => ?_⟩, fun e3 => ?_⟩⟩⟩
        · have e := of_decide_eq_true e; have := q.2.2.1; omega
        · have e := of_decide_eq_true e; have := q.2.2.2.1; omega
        · have e := of_decide_eq_true e; have e3 := of_decide_eq_true e3; exact q.2.2.2.2 ⟨by omega, by omega⟩
        · simp only [decide_eq_true_eq] at e1 e2 e3 e4
          rw [Wp_pure]
          exact ⟨rfl, fun _ => ⟨hzm, hall, by omega, by omega, by omega⟩, fun _ => by simp only; omega⟩
        · simp only [decide_eq_true_eq] at e1 e2 e3
          rw [Wp_pure]
          exact ⟨rfl, fun _ => ⟨hzm, hall, by omega, by omega, by omega⟩, fun _ => by simp only; omega⟩
      · have zz : Wp (M.pure (y.1, (z : Int))) h2 fun x h' => h' = h2 ∧ (x.2 = (m : Int) ↔ (z = m ∧ T.all cont = true ∧ goodV lo hi (cvAll v T))) := by
          rw [Wp_pure]; exact ⟨rfl, fun e => absurd (by simp only at e; omega) hzm, fun e => absurd e.1 hzm⟩
        have zo := zero (fun q => hzm q.1)
        exact Wp_ite.2 ⟨fun _ => zo, fun _ => Wp_ite.2 ⟨fun _ => zo, fun _ => Wp_ite.2 ⟨fun _ => Wp_ite.2 ⟨fun _ => zo, fun _ => zz⟩, fun _ => zz⟩⟩⟩
    · rw [if_neg hall]
      simp only [sumElim]
      exact zero (fun q => hall q.2.1)
theorem bg {b o m cp : Nat} {cs : List Value} (l : LB h b cs T_u8) {c : UInt8} {T : List UInt8} (ha : At cs o (c :: T)) (hm : 1 + T.length = m) (hm4 : m ≤ 4) (hn : 6 ≤ n) :
    Wp (rosettaref01_begins n ⟨some ⟨b, o, none⟩, m, cp⟩) h fun x h' => h' = h ∧ (x.2 = (m : Int) ↔ okSeq (c :: T)) := by
  have hld := ha.ld l
  have hlt := c.toNat_lt
  have J3 := @bg_J3 h n b o m cp cs l T ha.tail hm hm4
  have hT : T = [] ↔ m = 1 := ⟨fun e => by rw [e] at hm; simpa using hm.symm, fun e => List.eq_nil_of_length_eq_zero (by omega)⟩
  unfold rosettaref01_begins
  simp only [Wp_bind, Wp_nn', Wp_ldI, Wp_ldS, Wp_ldV, Wp_ldB, Wp_idxS, Wp_sliceS, Wp_pure, plus_eq, Nat.zero_add, Nat.reduceAdd, Option.some.injEq, exists_eq_left', decide_eq_true_eq, Wp_idxA, exists_eq_left', Int.toNat_zero, Nat.zero_mul, Nat.add_zero, hld, w64n (show c.toNat ≤ 9223372036854775807 by omega)]
  refine ⟨by omega, by omega, ?_⟩
  have J0 : ¬ (T = [] ∧ c.toNat < 128) → Wp (rosettaref01_begins_J0 n ⟨some ⟨b, o, none⟩, m, cp⟩ (c.toNat : Nat) 0 0 0 0) h fun x h' => h' = h ∧ (x.2 = (m : Int) ↔ okSeq (c :: T)) := by
    intro hno
    unfold rosettaref01_begins_J0 rosettaref01_begins_J1 rosettaref01_begins_J2
    have none' : ¬ (192 ≤ c.toNat ∧ c.toNat < 248) → Wp (rosettaref01_begins_J3 n ⟨some ⟨b, o, none⟩, m, cp⟩ 0 0 0 0) h fun x h' => h' = h ∧ (x.2 = (m : Int) ↔ okSeq (c :: T)) := by
      intro hb
      refine (J3 (z := 0) (v := 0) (lo := 0) (hi := 0) (by omega) (by omega) hn).mono fun x h' hx => ⟨hx.1, hx.2.trans ⟨fun e => by omega, fun e => ?_⟩⟩
      rcases e with e | ⟨_, e | e | e⟩
      · exact absurd e hno
      · exact absurd ⟨by omega, by omega⟩ hb
      · exact absurd ⟨by omega, by omega⟩ hb
      · exact absurd ⟨by omega, by omega⟩ hb
    by_cases h1 : 192 ≤ c.toNat ∧ c.toNat < 248
    · by_cases h2 : c.toNat < 224
      · have w : IntKind.i64.wrap ((c.toNat : Int) - 192) = ((c.toNat - 192 : Nat) : Int) := by rw [w64 (by omega) (by omega)]; omega
        rw [if_pos (decide_eq_true (by omega)), if_pos (decide_eq_true (by omega)), if_neg (by simp; omega), if_neg (by simp; omega), w]
        refine (J3 (z := 2) (v := c.toNat - 192) (lo := 128) (hi := 2047) (by omega) (by omega) hn).mono fun x h' hx => ⟨hx.1, hx.2.trans ⟨fun e => ?_, fun e => ?_⟩⟩
        · exact .inr ⟨e.2.1, .inl ⟨by omega, by omega, h2, e.2.2⟩⟩
        · rcases e with e | ⟨e0, e | e | e⟩
          · exact absurd e hno
          · exact ⟨by omega, e0, e.2.2.2⟩
          · omega
          · omega
      · by_cases h3 : c.toNat < 240
        · have w : IntKind.i64.wrap ((c.toNat : Int) - 224) = ((c.toNat - 224 : Nat) : Int) := by rw [w64 (by omega) (by omega)]; omega
          rw [if_pos (decide_eq_true (by omega)), if_neg (by simp; omega), if_pos (decide_eq_true (by omega)), if_pos (decide_eq_true (by omega)), if_neg (by simp; omega), w]
          refine (J3 (z := 3) (v := c.toNat - 224) (lo := 2048) (hi := 65535) (by omega) (by omega) hn).mono fun x h' hx => ⟨hx.1, hx.2.trans ⟨fun e => ?_, fun e => ?_⟩⟩
          · exact .inr ⟨e.2.1, .inr (.inl ⟨by omega, by omega, h3, e.2.2⟩)⟩
          · rcases e with e | ⟨e0, e | e | e⟩
            · exact absurd e hno
            · omega
            · exact ⟨by omega, e0, e.2.2.2⟩
            · omega
        · have w : IntKind.i64.wrap ((c.toNat : Int) - 240) = ((c.toNat - 240 : Nat) : Int) := by rw [w64 (by omega) (by omega)]; omega
          rw [if_pos (decide_eq_true (by omega)), if_neg (by simp; omega), if_pos (decide_eq_true (by omega)), if_neg (by simp; omega), if_pos (decide_eq_true (by omega)), if_pos (decide_eq_true (by omega)), w]
          refine (J3 (z := 4) (v := c.toNat - 240) (lo := 65536) (hi := 1114111) (by omega) (by omega) hn).mono fun x h' hx => ⟨hx.1, hx.2.trans ⟨fun e => ?_, fun e => ?_⟩⟩
          · exact .inr ⟨e.2.1, .inr (.inr ⟨by omega, by omega, by omega, e.2.2⟩)⟩
          · rcases e with e | ⟨e0, e | e | e⟩
            · exact absurd e hno
            · omega
            · omega
            · exact ⟨by omega, e0, e.2.2.2⟩
    · have nn := none' h1
      refine Wp_ite.2 ⟨fun a1 => Wp_ite.2 ⟨fun a2 => ?_, fun a2 => ?_⟩, fun a1 => ?_⟩
      · simp only [decide_eq_true_eq] at a1 a2; exact absurd ⟨by omega, by omega⟩ h1
      · refine Wp_ite.2 ⟨fun a3 => Wp_ite.2 ⟨fun a4 => ?_, fun a4 => ?_⟩, fun a3 => ?_⟩
        · simp only [decide_eq_true_eq] at a1 a4; exact absurd ⟨by omega, by omega⟩ h1
        · refine Wp_ite.2 ⟨fun a5 => Wp_ite.2 ⟨fun a6 => ?_, fun a6 => nn⟩, fun a5 => nn⟩
          simp only [decide_eq_true_eq] at a1 a6; exact absurd ⟨by omega, by omega⟩ h1
        · simp only [decide_eq_true_eq] at a1 a2 a3; omega
      · refine Wp_ite.2 ⟨fun a3 => ?_, fun a3 => Wp_ite.2 ⟨fun a5 => ?_, fun a5 => nn⟩⟩
        · simp only [decide_eq_true_eq] at a1 a3; omega
        · simp only [decide_eq_true_eq] at a1 a5; omega
  refine Wp_ite.2 ⟨fun a1 => Wp_ite.2 ⟨fun a2 => ?_, fun a2 => ?_⟩, fun a1 => ?_⟩
  · have hm1 : m = 1 := by omega
    rw [Wp_pure]
    exact ⟨rfl, fun _ => .inl ⟨hT.2 hm1, by omega⟩, fun _ => by simp only; omega⟩
  · exact J0 (fun e => a2 (by rw [hT.1 e.1]; rfl))
  · exact J0 (fun e => a1 (by omega))
end Go.Sh
