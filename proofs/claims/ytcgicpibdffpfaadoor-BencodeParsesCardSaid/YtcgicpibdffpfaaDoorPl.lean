/-
The plain parser at the sources of the law on limits. No theorem about the program stands here.
-/
import Derived.Test.YtcgicpibdffpfaaDoorPlain
set_option linter.all false
namespace Go.Sh
open Go Go.Ago Go.Proofs
def src1 (n : Nat) : List UInt8 := List.replicate n 108 ++ List.replicate n 101
def items2 : Nat → List UInt8
  | 0 => []
  | m + 1 => 48 :: 58 :: items2 m
def src2 (m : Nat) : List UInt8 := 108 :: (items2 m ++ [101])
def isOK : Option (Rs PV) → Bool
  | some (.ok _) => true
  | _ => false
def isErr (a : Nat) (e : Int) : Option (Rs PV) → Bool
  | some (.error q) => decide (q.1 = a ∧ q.2 = e)
  | _ => false
def deepOK (n : Nat) : Bool := if 33 < n then isErr 33 5 (spParse (ofBytes (src1 n)) 200) else isOK (spParse (ofBytes (src1 n)) 200)
theorem deep_all : (List.range 10).all (fun k => deepOK (28 + k)) = true := by kernel_rfl
theorem isOK_get {r : Option (Rs PV)} (h : isOK r = true) : ∃ p, r = some (.ok p) := by
  unfold isOK at h; split at h
  · exact ⟨_, rfl⟩
  · cases h
theorem isErr_get {a : Nat} {e : Int} {r : Option (Rs PV)} (h : isErr a e r = true) : r = some (.error (a, e)) := by
  unfold isErr at h
  split at h
  · rename_i q
    have := of_decide_eq_true h
    obtain ⟨a', e'⟩ := q
    simp at this
    rw [this.1, this.2]
  · cases h
theorem deep (n : Nat) (h1 : 28 ≤ n) (h2 : n ≤ 37) : (33 < n → spParse (ofBytes (src1 n)) 200 = some (.error (33, 5))) ∧ (¬ 33 < n → ∃ p, spParse (ofBytes (src1 n)) 200 = some (.ok p)) := by
  have h := List.all_eq_true.1 deep_all (n - 28) (by simp; omega)
  rw [show 28 + (n - 28) = n by omega] at h
  unfold deepOK at h
  refine ⟨fun hn => ?_, fun hn => ?_⟩
  · rw [if_pos hn] at h; exact isErr_get h
  · rw [if_neg hn] at h; exact isOK_get h
theorem items2_len : ∀ m, (items2 m).length = 2 * m
  | 0 => rfl
  | m + 1 => by simp [items2, items2_len m]; omega
theorem items2_get : ∀ (m j : Nat), j < m → ∀ (t : List UInt8), (items2 m ++ t)[2 * j]? = some 48 ∧ (items2 m ++ t)[2 * j + 1]? = some 58
  | 0, j, h, t => by omega
  | m + 1, 0, h, t => ⟨rfl, rfl⟩
  | m + 1, j + 1, h, t => by
    have ih := items2_get m j (by omega) t
    rw [show 2 * (j + 1) = 2 * j + 1 + 1 by omega]
    exact ih
theorem src2_len (m : Nat) : (src2 m).length = 2 * m + 2 := by simp [src2, items2_len]
theorem src2_get {m j : Nat} (h : j < m) : (src2 m)[1 + 2 * j]? = some 48 ∧ (src2 m)[2 + 2 * j]? = some 58 := by
  obtain ⟨a, b⟩ := items2_get m j h [101]
  refine ⟨?_, ?_⟩
  · rw [show 1 + 2 * j = 2 * j + 1 by omega]; exact a
  · rw [show 2 + 2 * j = 2 * j + 1 + 1 by omega]; exact b
theorem src2_end (m : Nat) : (src2 m)[1 + 2 * m]? = some 101 := by
  rw [show 1 + 2 * m = 2 * m + 1 by omega]
  show (items2 m ++ [101])[2 * m]? = some 101
  rw [List.getElem?_append_right (by rw [items2_len]; omega), items2_len]; simp
theorem text2 {s : ByteArray} {m j : Nat} (hs : s.data.toList = src2 m) (hj : j < m) : ∃ t, spText s (1 + 2 * j) = .ok (t, 3 + 2 * j) := by
  obtain ⟨g1, g2⟩ := src2_get hj
  have hd : (s.data.toList.drop (1 + 2 * j)) = 48 :: 58 :: (s.data.toList.drop (3 + 2 * j)) := by
    rw [hs]
    have l1 := (List.getElem?_eq_some_iff.1 g1).1
    have l2 := (List.getElem?_eq_some_iff.1 g2).1
    rw [List.drop_eq_getElem_cons l1, (List.getElem?_eq_some_iff.1 g1).2, show 1 + 2 * j + 1 = 2 + 2 * j by omega, List.drop_eq_getElem_cons l2, (List.getElem?_eq_some_iff.1 g2).2, show 2 + 2 * j + 1 = 3 + 2 * j by omega]
  have hdig : digs (s.data.toList.drop (1 + 2 * j)) = [48] := by rw [hd]; rfl
  unfold spText
  simp only [hdig]
  rw [if_neg (by simp), if_neg (by simp), hs, show 1 + 2 * j + ([48] : List UInt8).length = 2 + 2 * j from (by show 1 + 2 * j + 1 = _; omega), g2]
  simp only
  rw [if_pos trivial, if_neg (by simp [decVal, decFrom])]
  rw [show 2 + 2 * j + 1 + decVal [48] = 3 + 2 * j by simp [decVal, decFrom]; omega]
  exact ⟨_, rfl⟩
theorem many {s : ByteArray} {m : Nat} (hs : s.data.toList = src2 m) : ∀ (k j fuel : Nat) (p : PV), j + k = m → p.pos = 1 + 2 * j → p.nodes.length = 1 + j → k + 2 ≤ fuel →
    (m ≤ 4095 → ∃ p2, (sp s fuel).L 0 0 j 0 p = some (.ok p2) ∧ p2.pos = 2 * m + 2) ∧ (4096 ≤ m → j ≤ 4095 → (sp s fuel).L 0 0 j 0 p = some (.error (8191, 7)))
  | k, j, 0, p, _, _, _, hf => by omega
  | 0, j, fuel + 1, p, hj, hp, hn, hf => by
    have hj : j = m := by omega
    subst hj
    simp only [sp, spL]
    rw [hs, hp, src2_end]
    simp only [if_true]
    exact ⟨fun _ => ⟨_, rfl, by simp only; omega⟩, fun h1 h2 => by omega⟩
  | k + 1, j, fuel + 1, p, hj, hp, hn, hf => by
    obtain ⟨fuel, rfl⟩ : ∃ f, fuel = f + 1 := ⟨fuel - 1, by omega⟩
    have hjm : j < m := by omega
    obtain ⟨g1, g2⟩ := src2_get hjm
    obtain ⟨t, ht⟩ := text2 hs hjm
    have hsz : s.size = 2 * m + 2 := by rw [← size_toList, hs, src2_len]
    have hL : (sp s (fuel + 1 + 1)).L 0 0 j 0 p = (match (sp s (fuel + 1)).V (span0 0 j 0 0) 1 p with
        | none => none
        | some (.error e) => some (.error e)
        | some (.ok (it, p2)) => (sp s (fuel + 1)).L 0 0 (j + 1) 0 (addItem p2 0 it)) := by
      show spL s (sp s (fuel + 1)) 0 0 j 0 p = _
      unfold spL
      rw [hs, hp, g1]
      rfl
    have hV : (sp s (fuel + 1)).V (span0 0 j 0 0) 1 p = (match spNode { pos := 3 + 2 * j, nodes := p.nodes, spans := p.spans ++ [{ span0 0 j 0 0 with frm := p.pos, whole := true }] } ⟨if u8 t then 5 else 6, t, false, [], []⟩ p.pos 1 with
        | .error e => some (.error e)
        | .ok (n, p2) => some (.ok (n, { p2 with spans := p2.spans.modify p.spans.length fun x => { x with node := n, to := p2.pos } }))) := by
      show spV s (sp s fuel) (span0 0 j 0 0) 1 p = _
      unfold spV
      rw [if_neg (by omega)]
      unfold spRead
      simp only
      rw [hs, hp, g1]
      simp only
      rw [if_neg (by decide), if_neg (by decide), if_neg (by decide)]
      unfold spStr
      simp only [hp, ht]
      generalize spNode _ _ _ _ = z
      cases z <;> rfl
    rw [hL, hV]
    unfold spNode
    rw [if_neg (by omega)]
    simp only [hn]
    by_cases h4 : 4096 ≤ 1 + j
    · rw [if_pos h4]
      refine ⟨fun h => by omega, fun h1 h2 => ?_⟩
      have : p.pos = 8191 := by omega
      simp only [this]
    · rw [if_neg h4]
      simp only
      have ih := many hs k (j + 1) (fuel + 1) (addItem { pos := 3 + 2 * j, nodes := p.nodes ++ [⟨if u8 t then 5 else 6, t, false, [], []⟩], spans := (p.spans ++ [{ span0 0 j 0 0 with frm := p.pos, whole := true }]).modify p.spans.length fun x => { x with node := ((1 + j : Nat) : Int), to := ((3 + 2 * j : Nat) : Int) } } 0 ((1 + j : Nat) : Int))
        (by omega) (by show 3 + 2 * j = _; omega) (by simp [addItem, hn]; omega) (by omega)
      refine ⟨fun h => ih.1 h, fun h1 h2 => ih.2 h1 (by omega)⟩
theorem many_parse {m : Nat} (hm : m ≤ 5000) : (m ≤ 4095 → ∃ p, spParse (ofBytes (src2 m)) 6000 = some (.ok p)) ∧ (4096 ≤ m → spParse (ofBytes (src2 m)) 6000 = some (.error (8191, 7))) := by
  have hs : (ofBytes (src2 m)).data.toList = src2 m := rfl
  have hsz : (ofBytes (src2 m)).size = 2 * m + 2 := by rw [← size_toList, hs, src2_len]
  generalize ofBytes (src2 m) = s at *
  have h0 : s.data.toList[0]? = some 108 := by rw [hs]; rfl
  have key : (sp s 6000).V (span0 (-1) 0 0 0) 0 ⟨0, [], []⟩ = (match (sp s 5999).L 0 0 0 0 { pos := 1, nodes := [⟨9, ofBytes [], false, [], []⟩], spans := [{ span0 (-1) 0 0 0 with frm := 0, whole := true }] } with
      | none => none
      | some (.error e) => some (.error e)
      | some (.ok p2) => some (.ok (0, { p2 with spans := p2.spans.modify 0 fun x => { x with node := 0, to := p2.pos } }))) := by
    show spV s (sp s 5999) (span0 (-1) 0 0 0) 0 ⟨0, [], []⟩ = _
    unfold spV
    rw [if_neg (by show ¬ s.size ≤ 0; omega)]
    unfold spRead
    simp only [h0]
    rw [if_neg (by decide), if_pos trivial]
    unfold spOpen spNode
    rw [if_neg (by omega), if_neg (by simp)]
    simp only [if_true, List.nil_append, List.length_nil]
    generalize (sp s 5999).L 0 0 0 0 _ = z
    cases z with
    | none => rfl
    | some z => cases z <;> rfl
  obtain ⟨a, b⟩ := many hs m 0 5999 { pos := 1, nodes := [⟨9, ofBytes [], false, [], []⟩], spans := [{ span0 (-1) 0 0 0 with frm := 0, whole := true }] } (by omega) rfl rfl (by omega)
  unfold spParse
  rw [if_neg (by omega), key]
  refine ⟨fun h => ?_, fun h => ?_⟩
  · obtain ⟨p2, h1, h2⟩ := a h
    erw [h1]
    simp only
    rw [if_neg (by omega)]
    exact ⟨_, rfl⟩
  · erw [b h (by omega)]
theorem long_parse {s : ByteArray} (h : 65536 < s.size) (m : Nat) : spParse s m = some (.error (0, 6)) := by
  unfold spParse; rw [if_pos h]
end Go.Sh
