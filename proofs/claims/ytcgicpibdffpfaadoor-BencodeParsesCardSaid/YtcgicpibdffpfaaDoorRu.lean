/-
Code points at the head of a list of bytes: two ways to say it. No theorem about the program stands here.
-/
import Derived.Test.YtcgicpibdffpfaaDoorShLib
set_option linter.all false
namespace Go.Sh
open Go Go.Ago Go.Proofs
def cont (b : UInt8) : Bool := decide (128 ≤ b.toNat ∧ b.toNat ≤ 191)
def cvAll (v : Nat) (T : List UInt8) : Nat := T.foldl (fun v b => 64 * v + (b.toNat - 128)) v
def goodV (lo hi V : Nat) : Prop := lo ≤ V ∧ V ≤ hi ∧ ¬ (55296 ≤ V ∧ V ≤ 57343)
def okSeq : List UInt8 → Prop
  | [] => False
  | c :: T => (T = [] ∧ c.toNat < 128) ∨ (T.all cont = true ∧ ((T.length = 1 ∧ 192 ≤ c.toNat ∧ c.toNat < 224 ∧ goodV 128 2047 (cvAll (c.toNat - 192) T))
    ∨ (T.length = 2 ∧ 224 ≤ c.toNat ∧ c.toNat < 240 ∧ goodV 2048 65535 (cvAll (c.toNat - 224) T)) ∨ (T.length = 3 ∧ 240 ≤ c.toNat ∧ c.toNat < 248 ∧ goodV 65536 1114111 (cvAll (c.toNat - 240) T))))
def wOf (s : ByteArray) (i : Nat) : Nat := if (Utf8.decode s i).1 = 65533 ∧ (Utf8.decode s i).2 = 1 then 0 else (Utf8.decode s i).2
def dec (z1 z2 z3 : Bool) (b0 b1 b2 b3 : Nat) : Nat × Nat :=
  if b0 < 128 then (b0, 1)
  else if b0 / 32 == 6 && (z1 && b1 / 64 == 2) then (if (b0 % 32) * 64 + b1 % 64 ≥ 128 then ((b0 % 32) * 64 + b1 % 64, 2) else (65533, 1))
  else if b0 / 16 == 14 && (z1 && b1 / 64 == 2) && (z2 && b2 / 64 == 2) then
    (if (b0 % 16) * 4096 + (b1 % 64) * 64 + b2 % 64 ≥ 2048 && Utf8.valid ((b0 % 16) * 4096 + (b1 % 64) * 64 + b2 % 64 : Nat) then ((b0 % 16) * 4096 + (b1 % 64) * 64 + b2 % 64, 3) else (65533, 1))
  else if b0 / 8 == 30 && (z1 && b1 / 64 == 2) && (z2 && b2 / 64 == 2) && (z3 && b3 / 64 == 2) then
    (if (b0 % 8) * 262144 + (b1 % 64) * 4096 + (b2 % 64) * 64 + b3 % 64 ≥ 65536 && Utf8.valid ((b0 % 8) * 262144 + (b1 % 64) * 4096 + (b2 % 64) * 64 + b3 % 64 : Nat) then ((b0 % 8) * 262144 + (b1 % 64) * 4096 + (b2 % 64) * 64 + b3 % 64, 4) else (65533, 1))
  else (65533, 1)
theorem decode_dec (s : ByteArray) (i : Nat) : Utf8.decode s i = dec (decide (i + 1 < s.size)) (decide (i + 2 < s.size)) (decide (i + 3 < s.size)) (s.get! i).toNat (s.get! (i + 1)).toNat (s.get! (i + 2)).toNat (s.get! (i + 3)).toNat := rfl
def wid (r : Nat × Nat) : Nat := if r.1 = 65533 ∧ r.2 = 1 then 0 else r.2
def Fw (z1 z2 z3 : Bool) (b0 b1 b2 b3 n : Nat) : Prop :=
  (n = 1 ∧ b0 < 128) ∨ (n = 2 ∧ z1 = true ∧ (128 ≤ b1 ∧ b1 ≤ 191) ∧ 192 ≤ b0 ∧ b0 < 224 ∧ 128 ≤ 64 * (b0 - 192) + (b1 - 128))
  ∨ (n = 3 ∧ z1 = true ∧ z2 = true ∧ (128 ≤ b1 ∧ b1 ≤ 191) ∧ (128 ≤ b2 ∧ b2 ≤ 191) ∧ 224 ≤ b0 ∧ b0 < 240 ∧ 2048 ≤ 64 * (64 * (b0 - 224) + (b1 - 128)) + (b2 - 128) ∧ ¬ (55296 ≤ 64 * (64 * (b0 - 224) + (b1 - 128)) + (b2 - 128) ∧ 64 * (64 * (b0 - 224) + (b1 - 128)) + (b2 - 128) ≤ 57343))
  ∨ (n = 4 ∧ z1 = true ∧ z2 = true ∧ z3 = true ∧ (128 ≤ b1 ∧ b1 ≤ 191) ∧ (128 ≤ b2 ∧ b2 ≤ 191) ∧ (128 ≤ b3 ∧ b3 ≤ 191) ∧ 240 ≤ b0 ∧ b0 < 248 ∧ 65536 ≤ 64 * (64 * (64 * (b0 - 240) + (b1 - 128)) + (b2 - 128)) + (b3 - 128) ∧ 64 * (64 * (64 * (b0 - 240) + (b1 - 128)) + (b2 - 128)) + (b3 - 128) ≤ 1114111)
theorem valid_iff (r : Nat) : Utf8.valid (r : Int) = true ↔ r < 55296 ∨ (57344 ≤ r ∧ r ≤ 1114111) := by
  unfold Utf8.valid
  rw [Bool.or_eq_true, Bool.and_eq_true, Bool.and_eq_true]
  constructor
  · rintro (⟨_, e⟩ | ⟨e, e2⟩)
    · have := of_decide_eq_true e; omega
    · have := of_decide_eq_true e; have := of_decide_eq_true e2; omega
  · rintro (e | ⟨e, e2⟩)
    · exact .inl ⟨decide_eq_true (by omega), decide_eq_true (by omega)⟩
    · exact .inr ⟨decide_eq_true (by omega), decide_eq_true (by omega)⟩
set_option maxRecDepth 100000 in
theorem wid_dec (z1 z2 z3 : Bool) {b0 b1 b2 b3 n : Nat} (h0 : b0 < 256) (h1 : b1 < 256) (h2 : b2 < 256) (h3 : b3 < 256) (hn : 1 ≤ n) : wid (dec z1 z2 z3 b0 b1 b2 b3) = n ↔ Fw z1 z2 z3 b0 b1 b2 b3 n := by
  unfold dec Fw
  by_cases k0 : b0 < 128
  · rw [if_pos k0]
    unfold wid
    rw [if_neg (by simp only; omega)]
    simp only
    omega
  · rw [if_neg k0]
    simp only [Bool.and_eq_true, beq_iff_eq, decide_eq_true_eq, valid_iff]
    split
    · rename_i k1
      split
      · rename_i k2
        unfold wid
        rw [if_neg (by simp only; omega)]
        simp only
        constructor
        · intro e; right; left; exact ⟨e.symm, k1.2.1, by omega, by omega, by omega, by omega⟩
        · intro e; omega
      · rename_i k2
        unfold wid
        rw [if_pos (by simp)]
        constructor
        · intro e; omega
        · intro e; omega
    · rename_i k1
      split
      · rename_i k2
        split
        · rename_i k3
          unfold wid
          rw [if_neg (by simp)]
          simp only
          constructor
          · intro e; right; right; left; exact ⟨e.symm, k2.1.2.1, k2.2.1, by omega, by omega, by omega, by omega, by omega, by omega⟩
          · intro e; omega
        · rename_i k3
          unfold wid
          rw [if_pos (by simp)]
          constructor
          · intro e; omega
          · intro e; omega
      · rename_i k2
        split
        · rename_i k3
          split
          · rename_i k4
            unfold wid
            rw [if_neg (by simp)]
            simp only
            constructor
            · intro e; right; right; right; exact ⟨e.symm, k3.1.1.2.1, k3.1.2.1, k3.2.1, by omega, by omega, by omega, by omega, by omega, by omega, by omega⟩
            · intro e; omega
          · rename_i k4
            unfold wid
            rw [if_pos (by simp)]
            constructor
            · intro e; omega
            · intro e; omega
        · rename_i k3
          unfold wid
          rw [if_pos (by simp)]
          constructor
          · intro e; omega
          · intro e
            rcases e with e | ⟨e0, e1, e⟩ | ⟨e0, e1, e2, e⟩ | ⟨e0, e1, e2, e3, e⟩
            · omega
            · exact absurd ⟨by omega, e1, by omega⟩ k1
            · exact absurd ⟨⟨by omega, e1, by omega⟩, e2, by omega⟩ k2
            · exact absurd ⟨⟨⟨by omega, e1, by omega⟩, e2, by omega⟩, e3, by omega⟩ k3
theorem get_some {s : ByteArray} {j : Nat} (h : j < s.size) : s.data.toList[j]? = some (s.get! j) := by
  obtain ⟨d⟩ := s
  have h' : j < d.size := h
  show d.toList[j]? = some d[j]!
  rw [getElem!_pos d j h']
  simp [h']
theorem drop_cons {L : List UInt8} {i : Nat} {c : UInt8} (hc : L[i]? = some c) : L.drop i = c :: L.drop (i + 1) := by
  have hlt := (List.getElem?_eq_some_iff.1 hc).1
  rw [List.drop_eq_getElem_cons hlt, (List.getElem?_eq_some_iff.1 hc).2]
theorem okSeq_w {s : ByteArray} {i n : Nat} (hi : i < s.size) (h1 : 1 ≤ n) (h4 : n ≤ 4) : (i + n ≤ s.size ∧ okSeq ((s.data.toList.drop i).take n)) ↔ wOf s i = n := by
  have hw : wOf s i = wid (Utf8.decode s i) := rfl
  rw [hw, decode_dec, wid_dec _ _ _ (UInt8.toNat_lt _) (UInt8.toNat_lt _) (UInt8.toNat_lt _) (UInt8.toNat_lt _) h1]
  unfold Fw
  by_cases hz : i + n ≤ s.size
  · have g0 := drop_cons (get_some (s := s) (j := i) (by omega))
    rcases (show n = 1 ∨ n = 2 ∨ n = 3 ∨ n = 4 by omega) with rfl | rfl | rfl | rfl
    · rw [g0]
      simp [okSeq, cont, cvAll, goodV, hz]
    · have g1 := drop_cons (get_some (s := s) (j := i + 1) (by omega))
      rw [g0, g1]
      simp [okSeq, cont, cvAll, goodV, hz]
      omega
    · have g1 := drop_cons (get_some (s := s) (j := i + 1) (by omega))
      have g2 : s.data.toList.drop (i + 1 + 1) = s.get! (i + 2) :: s.data.toList.drop (i + 2 + 1) := drop_cons (get_some (s := s) (j := i + 2) (by omega))
      rw [g0, g1, g2]
      simp [okSeq, cont, cvAll, goodV, hz]
      omega
    · have g1 := drop_cons (get_some (s := s) (j := i + 1) (by omega))
      have g2 : s.data.toList.drop (i + 1 + 1) = s.get! (i + 2) :: s.data.toList.drop (i + 2 + 1) := drop_cons (get_some (s := s) (j := i + 2) (by omega))
      have g3 : s.data.toList.drop (i + 2 + 1) = s.get! (i + 3) :: s.data.toList.drop (i + 3 + 1) := drop_cons (get_some (s := s) (j := i + 3) (by omega))
      rw [g0, g1, g2, g3]
      simp [okSeq, cont, cvAll, goodV, hz]
      omega
  · constructor
    · intro e; exact absurd e.1 hz
    · intro e
      simp only [decide_eq_true_eq] at e
      omega
end Go.Sh
