/-
The law on limits: it answers true for every pair of numbers.
-/
import Derived.Test.YtcgicpibdffpfaaDoorAw
import Derived.Test.YtcgicpibdffpfaaDoorPl
set_option linter.all false
namespace Go.Sh
open Go Go.Ago Go.Proofs
variable {h h' : AHeap}
def vb (b : UInt8) : Value := .int .u8 b.toNat
theorem bytesOf_map : ∀ (l : List UInt8), bytesOf (l.map vb) = some l
  | [] => rfl
  | b :: l => by
    simp only [List.map_cons, vb, bytesOf]
    rw [bytesOf_map l]
    simp
theorem Wp_strOf {h : AHeap} {s : Sl} {l : List UInt8} {Q : ByteArray → AHeap → Prop} (hc : cellsAt h s.a s.len = some (l.map vb)) (hq : Q (ofBytes l) h) : Wp (strOf s) h Q :=
  ⟨ofBytes l, h, by unfold strOf; rw [hc]; simp only [bytesOf_map], hq⟩
/-- A slice of bytes that a call built: since the heap h0. -/
structure Byt (h0 h : AHeap) (s : Sl) (l : List UInt8) : Prop where
  fr : Fr (fun _ => False) h0 h
  own : ∃ g, OSl h s 1 T_u8 (l.map vb) g ∧ (g = 0 ∨ h0.next < g)
  cap : s.cap = 0
theorem Byt.len {h0 h : AHeap} {s : Sl} {l : List UInt8} (b : Byt h0 h s l) : s.len = l.length := by
  obtain ⟨g, o, _⟩ := b.own
  have := o.1
  simpa using this.symm
theorem Byt.str {h0 h : AHeap} {s : Sl} {l : List UInt8} (b : Byt h0 h s l) {Q : ByteArray → AHeap → Prop} (hq : Q (ofBytes l) h) : Wp (strOf s) h Q := by
  obtain ⟨g, o, _⟩ := b.own
  have := o.read
  rw [Nat.mul_one] at this
  exact Wp_strOf this hq
theorem Byt.app {h0 h : AHeap} {s : Sl} {l new : List UInt8} {n : Nat} (hw : WF h0) (b : Byt h0 h s l) (hn : n ≠ 0) (hl : new.length = n) (hb : l.length + n ≤ bigN) {Q : Sl → AHeap → Prop} (hq : ∀ s' h', Byt h0 h' s' (l ++ new) → Q s' h') :
    Wp (Ago.app false s 1 T_u8 n (new.map vb)) h Q := by
  obtain ⟨g, o, hg⟩ := b.own
  refine OSl.app o b.fr.wf hn (by simp [hl]) (by rw [b.len]; exact hb) fun s' h' g' h1 h2 h3 h4 f => hq s' h' ⟨b.fr.trans hw f fun g2 e h0' => ?_, ⟨g', by simpa using h3, ?_⟩, h2⟩
  · rcases hg with e2 | e2
    · exact absurd (e.trans e2) h0'
    · exact .inr (by omega)
  · have := b.fr.next
    rcases h4 with ⟨e, _⟩ | e
    · rcases hg with e2 | e2
      · exact .inl (by omega)
      · exact .inr (by omega)
    · exact .inr (by omega)
/-- 'b[:0]', and an append to it. -/
theorem Byt.cut {h0 h : AHeap} {s : Sl} {l new : List UInt8} {n : Nat} (hw : WF h0) (b : Byt h0 h s l) (hne : l ≠ []) (hn : n ≠ 0) (hl : new.length = n) (hb : n ≤ bigN) {Q : Sl → AHeap → Prop} (hq : ∀ s' h', Byt h0 h' s' new → Q s' h') :
    Wp (M.bind (sliceL s 0 0 T_u8 1) fun x0 => Ago.app false x0 1 T_u8 n (new.map vb)) h Q := by
  obtain ⟨g, o, hg⟩ := b.own
  obtain ⟨o1, o2⟩ := o
  have hlen := b.len
  rcases o2 with ⟨rfl, _⟩ | ⟨h2, h3, _, bk, base, h5, h6, h7⟩
  · exact absurd (List.eq_nil_of_length_eq_zero hlen.symm) hne
  · have hpos : l.length ≠ 0 := fun e => hne (List.eq_nil_of_length_eq_zero e)
    rw [Wp_bind]
    refine Wp_sliceL (by omega) (by omega) (by omega) (by unfold elemOk; rw [h5]; simp only [h6]; simp [Nat.beq_refl]) ?_
    have hx : (⟨s.a.map (·.plus ((0 : Int).toNat * 1)), (0 : Int).toNat - (0 : Int).toNat, s.cap - (if s.cap = 0 then 0 else (0 : Int).toNat)⟩ : Sl) = ⟨some ⟨bk, 0, none⟩, 0, 0⟩ := by
      rw [h5, b.cap]; simp [plus_eq]
    rw [hx]
    have hnx := b.fr.wf.get h.next (Nat.le_refl _)
    have hgn : g ≠ 0 := by omega
    have hwf := b.fr.wf
    refine ⟨⟨some ⟨h.next, 0, none⟩, n, 0⟩, { h with
              get := fun j => cond (Nat.beq j h.next) (some (.cells (new.map vb) g base T_u8)) (match h.get j with
                | some (.cells c' g' base' elem') => cond (Nat.beq g' g && Nat.blt base (base' + c'.length)) none (some (.cells c' g' base' elem'))
                | o => o)
              next := h.next + 1
              tip := fun g' => cond (Nat.beq g' g) (base + new.length) (h.tip g')
              used := fun j => cond (Nat.beq j h.next) true (h.used j) }, ?_, ?_⟩
    · unfold Ago.app app0
      simp only [Bool.false_and]
      rw [if_neg hn, if_neg (by simp [hl, hb])]
      simp only [cellsAt, h6, Nat.zero_mul, Nat.zero_le, Nat.add_zero, if_true, Nat.zero_add, List.take_zero, List.nil_append, ne_eq, not_true_eq_false, false_and, if_false]
      rw [if_pos ⟨hgn, trivial⟩, if_neg (by rw [h7]; simp [o1, hlen]; omega)]
      simp
      funext j
      cases h.get j with
      | none => rfl
      | some o => cases o <;> rfl
    · refine hq _ _ ⟨?_, ⟨g, ⟨by simp [hl], .inr ⟨by omega, by simp; omega, .inl rfl, h.next, base, rfl, by simp [Ago.beq_self], by simp [Ago.beq_self]⟩⟩, hg⟩, rfl⟩
      refine b.fr.trans hw (Y := (· = g)) ?_ fun g2 e h0' => ?_
      · refine ⟨⟨fun j hj => ?_, fun j hj => ?_, fun j c g' b' e' hj => ?_⟩, Nat.le_succ _, ?_, ?_, ?_, ?_⟩
        · simp at hj; simp [Ago.beq_ne (show j ≠ h.next by omega), hwf.get j (by omega)]
        · simp at hj; simp [Ago.beq_ne (show j ≠ h.next by omega)]; exact hwf.used j (by omega)
        · simp only at hj
          by_cases hjn : j = h.next
          · subst hjn; simp [Ago.beq_self] at hj; simp; omega
          · simp only [Ago.beq_ne hjn, cond_false] at hj
            split at hj
            · rename_i c2 g2 b2 e2 hq2
              have := hwf.grp _ _ _ _ _ hq2
              cases hc : (Nat.beq g2 g && Nat.blt base (b2 + c2.length)) <;> rw [hc] at hj <;> simp at hj
              simp; omega
            · rename_i o ho
              have := hwf.grp _ _ _ _ _ hj
              simp; omega
        · intro j c g' b' e' hj hx
          have hjn : j ≠ h.next := fun e => by subst e; rw [hnx] at hj; cases hj
          have hgg : g' ≠ g := fun e => hgn (by rw [← e]; exact hx e)
          simp [Ago.beq_ne hjn, hj, Ago.beq_ne hgg]
        · intro g' _ hx
          have hgg : g' ≠ g := fun e => hgn (by rw [← e]; exact hx e)
          simp [Ago.beq_ne hgg]
        · intro j hj; simp [Ago.beq_ne (show j ≠ h.next by omega)]
        · intro j hj hx; simp [Ago.beq_ne (show j ≠ h.next by omega), hx]
      · rcases hg with e2 | e2
        · exact absurd (e.trans e2) h0'
        · exact .inr (by omega)
theorem Byt.nil {h0 : AHeap} (hw : WF h0) : Byt h0 h0 sl0 [] := ⟨Fr.refl hw, ⟨0, OSl.nil, .inl rfl⟩, rfl⟩
theorem loop0 {h0 : AHeap} (hw : WF h0) {N : Nat} (hN : N ≤ 5000) {a0 a1 : Int} : ∀ (n i : Nat) (h : AHeap) (s : Sl) (l : List UInt8), Byt h0 h s l → l.length ≤ 20000 + i → i ≤ N → N - i < n →
    Wp (rosettalaw34_BencodeLimits_L0 n a0 a1 s N i) h fun x h' => Byt h0 h' x (l ++ List.replicate (N - i) 108)
  | 0, _, _, _, _, _, _, _, hn => by omega
  | n + 1, i, h, s, l, b, hl, hi, hn => by
    rw [rosettalaw34_BencodeLimits_L0_succ]
    unfold rosettalaw34_BencodeLimits_L0_B
    simp only [decide_eq_true_eq]
    refine Wp_ite.2 ⟨fun h1 => ?_, fun h1 => ?_⟩
    · rw [Wp_bind]
      refine Byt.app (new := [108]) (n := 1) hw b (by omega) rfl (by unfold bigN; omega) fun s' h' b' => ?_
      rw [w64 (by omega) (by omega), show ((i : Int) + 1) = ((i + 1 : Nat) : Int) by omega]
      refine (loop0 hw hN n (i + 1) h' s' _ b' (by simp; omega) (by omega) (by omega)).mono fun x h2 hx => ?_
      rw [List.append_assoc] at hx
      rw [show N - i = N - (i + 1) + 1 by omega, List.replicate_succ]; exact hx
    · rw [Wp_pure, show N - i = 0 by omega]; simpa using b
theorem loop1 {h0 : AHeap} (hw : WF h0) {N : Nat} (hN : N ≤ 5000) {a0 a1 : Int} : ∀ (n i : Nat) (h : AHeap) (s : Sl) (l : List UInt8), Byt h0 h s l → l.length ≤ 20000 + i → i ≤ N → N - i < n →
    Wp (rosettalaw34_BencodeLimits_L1 n a0 a1 s N i) h fun x h' => Byt h0 h' x (l ++ List.replicate (N - i) 101)
  | 0, _, _, _, _, _, _, _, hn => by omega
  | n + 1, i, h, s, l, b, hl, hi, hn => by
    rw [rosettalaw34_BencodeLimits_L1_succ]
    unfold rosettalaw34_BencodeLimits_L1_B
    simp only [decide_eq_true_eq]
    refine Wp_ite.2 ⟨fun h1 => ?_, fun h1 => ?_⟩
    · rw [Wp_bind]
      refine Byt.app (new := [101]) (n := 1) hw b (by omega) rfl (by unfold bigN; omega) fun s' h' b' => ?_
      rw [w64 (by omega) (by omega), show ((i : Int) + 1) = ((i + 1 : Nat) : Int) by omega]
      refine (loop1 hw hN n (i + 1) h' s' _ b' (by simp; omega) (by omega) (by omega)).mono fun x h2 hx => ?_
      rw [List.append_assoc] at hx
      rw [show N - i = N - (i + 1) + 1 by omega, List.replicate_succ]; exact hx
    · rw [Wp_pure, show N - i = 0 by omega]; simpa using b
theorem loop2 {h0 : AHeap} (hw : WF h0) {N : Nat} (hN : N ≤ 5000) {a0 : Int} : ∀ (n i : Nat) (h : AHeap) (s : Sl) (l : List UInt8), Byt h0 h s l → l.length ≤ 20000 + 2 * i → i ≤ N → N - i < n →
    Wp (rosettalaw34_BencodeLimits_L2 n a0 s N i) h fun x h' => Byt h0 h' x (l ++ items2 (N - i))
  | 0, _, _, _, _, _, _, _, hn => by omega
  | n + 1, i, h, s, l, b, hl, hi, hn => by
    rw [rosettalaw34_BencodeLimits_L2_succ]
    unfold rosettalaw34_BencodeLimits_L2_B
    simp only [decide_eq_true_eq]
    refine Wp_ite.2 ⟨fun h1 => ?_, fun h1 => ?_⟩
    · rw [Wp_bind]
      refine Byt.app (new := [48, 58]) (n := 2) hw b (by omega) rfl (by unfold bigN; omega) fun s' h' b' => ?_
      rw [w64 (by omega) (by omega), show ((i : Int) + 1) = ((i + 1 : Nat) : Int) by omega]
      refine (loop2 hw hN n (i + 1) h' s' _ b' (by simp; omega) (by omega) (by omega)).mono fun x h2 hx => ?_
      rw [List.append_assoc] at hx
      rw [show N - i = N - (i + 1) + 1 by omega]; exact hx
    · rw [Wp_pure, show N - i = 0 by omega]; simpa [items2] using b
theorem limits_J1 {n : Nat} (hn : 70000 ≤ n) {h : AHeap} (hw : WF h) : Wp (rosettalaw34_BencodeLimits_J1 n) h fun x _ => x = true := by
  unfold rosettalaw34_BencodeLimits_J1
  rw [Wp_bind]
  refine Wp_mkS (by omega) (by omega) (by unfold bigN; omega) ?_
  have ht : (65537 : Int).toNat = 65537 := rfl
  rw [ht, flat_one]
  have f1 := Fr.new (e := T_u8) (cs := List.replicate 65537 (.int .u8 0)) hw
  have l1 := LB.new (h := h) (e := T_u8) (cs := List.replicate 65537 (.int .u8 0))
  generalize h.new T_u8 (List.replicate 65537 (.int .u8 0)) = h1 at *
  rw [Wp_bind]
  have hz : (ofBytes (List.replicate 65537 0)).size = 65537 := by rw [← size_toList]; show (List.replicate 65537 (0 : UInt8)).length = _; rw [List.length_replicate]
  refine Wp_strOf (l := List.replicate 65537 0) ?_ ?_
  · have hm : (List.replicate 65537 (0 : UInt8)).map vb = List.replicate 65537 (.int .u8 0) := by rw [List.map_replicate]; rfl
    rw [hm]
    unfold cellsAt
    simp only [l1.get, Nat.zero_add, List.length_replicate, Nat.le_refl, if_true, List.drop_zero]
    rw [List.take_of_length_le (by rw [List.length_replicate]; exact Nat.le_refl _)]
  · have hp := long_parse (s := ofBytes (List.replicate 65537 0)) (by rw [hz]; omega) 0
    rw [Wp_bind]
    refine (bencode_Parse_wp f1.wf (by rw [hz]; omega) hp).mono fun x h2 hx => ?_
    obtain ⟨f2, rfl, _⟩ := hx
    refine ite_yes (by simp) (ite_yes (by simp) ?_)
    rw [Wp_bind]
    refine (awake_wp f2.wf (by omega)).mono fun x h2 hx => ?_
    rw [Wp_pure]; exact hx.1
theorem limits_J0 {n : Nat} (hn : 70000 ≤ n) {h0 h : AHeap} {s : Sl} {l : List UInt8} (hw : WF h0) (b : Byt h0 h s l) (hl : l ≠ []) {m : Nat} (h1 : 4090 ≤ m) (h2 : m ≤ 4101) :
    Wp (rosettalaw34_BencodeLimits_J0 n m s) h fun x _ => x = true := by
  unfold rosettalaw34_BencodeLimits_J0
  have split2 : ∀ {α : Type} {k : Sl → M α} {Q : α → AHeap → Prop}, Wp (M.bind (M.bind (sliceL s 0 0 T_u8 1) fun x0 => Ago.app false x0 1 T_u8 1 [Value.int IntKind.u8 108]) k) h Q → Wp (M.bind (sliceL s 0 0 T_u8 1) fun x0 => M.bind (Ago.app false x0 1 T_u8 1 [Value.int IntKind.u8 108]) k) h Q := by
    intro α k Q hq
    simp only [Wp_bind] at hq ⊢
    exact hq
  refine split2 ?_
  rw [Wp_bind]
  refine Byt.cut (new := [108]) (n := 1) hw b hl (by omega) rfl (by unfold bigN; omega) fun s1 h3 b1 => ?_
  rw [Wp_bind]
  refine (loop2 hw (N := m) (by omega) n 0 h3 s1 _ b1 (by simp) (by omega) (by omega)).mono fun s2 h4 b2 => ?_
  rw [Wp_bind]
  refine Byt.app (new := [101]) (n := 1) hw b2 (by omega) rfl (by simp [items2_len]; unfold bigN; omega) fun s3 h5 b3 => ?_
  rw [Wp_bind]
  refine b3.str ?_
  have hsrc : [108] ++ items2 (m - 0) ++ [101] = src2 m := by simp [src2]
  rw [hsrc]
  have hz : (ofBytes (src2 m)).size = 2 * m + 2 := by rw [← size_toList]; exact src2_len m
  obtain ⟨p1, p2⟩ := many_parse (m := m) (by omega)
  have hwr : IntKind.i64.wrap ((m : Int) + 1) = (m + 1 : Nat) := by rw [w64 (by omega) (by omega)]; simp
  rw [Wp_bind, hwr]
  by_cases hm : 4096 ≤ m
  · refine (bencode_Parse_wp b3.fr.wf (by rw [hz]; omega) (p2 hm)).mono fun x h6 hx => ?_
    obtain ⟨f6, rfl, _⟩ := hx
    refine ite_yes (by simp; omega) ?_
    refine Wp_ite.2 ⟨fun e => by simp at e, fun _ => Wp_ite.2 ⟨fun e => by simp at e, fun _ => ?_⟩⟩
    refine Wp_ite.2 ⟨fun e => by simp at e; omega, fun _ => limits_J1 hn f6.wf⟩
  · obtain ⟨p, hp⟩ := p1 (by omega)
    refine (bencode_Parse_wp b3.fr.wf (by rw [hz]; omega) hp).mono fun x h6 hx => ?_
    obtain ⟨f6, S, _, _, rfl, _⟩ := hx
    refine Wp_ite.2 ⟨fun e => by simp at e; omega, fun _ => ?_⟩
    refine ite_yes (by simp; omega) ?_
    exact Wp_ite.2 ⟨fun e => by simp at e, fun _ => limits_J1 hn f6.wf⟩
theorem wf_u8 {n : Int} (h : (Lit.int .u8 n).wf = true) : 0 ≤ n ∧ n ≤ 255 := by
  have e := Bool.and_eq_true_iff.1 h
  exact ⟨of_decide_eq_true e.1, of_decide_eq_true e.2⟩
theorem wf_u16 {n : Int} (h : (Lit.int .u16 n).wf = true) : 0 ≤ n ∧ n ≤ 65535 := by
  have e := Bool.and_eq_true_iff.1 h
  exact ⟨of_decide_eq_true e.1, of_decide_eq_true e.2⟩
theorem limits_wp (a0 a1 : Int) (h0 : 0 ≤ a0 ∧ a0 ≤ 255) (h1 : 0 ≤ a1 ∧ a1 ≤ 65535) (h : AHeap) (hw : WF h) : Wp (rosettalaw34_BencodeLimits 100000 a0 a1) h fun x _ => x = true := by
  obtain ⟨N, hN, n1, n2⟩ : ∃ N : Nat, IntKind.i64.wrap (28 + IntKind.i64.wrap (a0.tmod 10)) = (N : Int) ∧ 28 ≤ N ∧ N ≤ 37 := by
    rw [Int.tmod_eq_emod_of_nonneg h0.1]
    have b1 := Int.emod_nonneg a0 (show (10 : Int) ≠ 0 by decide)
    have b2 := Int.emod_lt_of_pos a0 (show (0 : Int) < 10 by decide)
    generalize a0 % 10 = r at *
    rw [w64 (x := r) (by omega) (by omega), w64 (by omega) (by omega)]
    exact ⟨(28 + r).toNat, by omega, by omega, by omega⟩
  obtain ⟨m, hm, m1, m2⟩ : ∃ m : Nat, IntKind.i64.wrap (4090 + IntKind.i64.wrap (a1.tmod 12)) = (m : Int) ∧ 4090 ≤ m ∧ m ≤ 4101 := by
    rw [Int.tmod_eq_emod_of_nonneg h1.1]
    have b1 := Int.emod_nonneg a1 (show (12 : Int) ≠ 0 by decide)
    have b2 := Int.emod_lt_of_pos a1 (show (0 : Int) < 12 by decide)
    generalize a1 % 12 = r at *
    rw [w64 (x := r) (by omega) (by omega), w64 (by omega) (by omega)]
    exact ⟨(4090 + r).toNat, by omega, by omega, by omega⟩
  unfold rosettalaw34_BencodeLimits
  simp only [hN, hm]
  have hbig : 70000 ≤ 100000 := by omega
  generalize 100000 = n at *
  rw [Wp_bind, Wp_ckM]
  refine ⟨rfl, ?_⟩
  rw [Wp_bind, Wp_ckM]
  refine ⟨rfl, ?_⟩
  rw [Wp_bind]
  refine (loop0 hw (N := N) (by omega) n 0 h sl0 [] (Byt.nil hw) (by simp) (by omega) (by omega)).mono fun s1 h1 b1 => ?_
  rw [Wp_bind]
  refine (loop1 hw (N := N) (by omega) n 0 h1 s1 _ b1 (by simp; omega) (by omega) (by omega)).mono fun s2 h2 b2 => ?_
  rw [Wp_bind]
  refine b2.str ?_
  have hsrc : [] ++ List.replicate (N - 0) 108 ++ List.replicate (N - 0) 101 = src1 N := by simp [src1]
  rw [hsrc] at b2 ⊢
  have hz : (ofBytes (src1 N)).size = 2 * N := by rw [← size_toList]; show (src1 N).length = _; simp [src1]; omega
  have hne : src1 N ≠ [] := fun e => by have := congrArg List.length e; simp [src1] at this; omega
  obtain ⟨p1, p2⟩ := deep N n1 n2
  rw [Wp_bind]
  by_cases hN : 33 < N
  · refine (bencode_Parse_wp b2.fr.wf (by rw [hz]; omega) (p1 hN)).mono fun x h6 hx => ?_
    obtain ⟨f6, rfl, _⟩ := hx
    refine keep_doc f6.wf fun b h7 f7 _ _ _ => ?_
    have b3 : Byt h h7 s2 (src1 N) := by
      have hno : ∀ {h a b : AHeap}, Fr (fun _ => False) h a → Fr (fun _ => False) a b → WF h → Fr (fun _ => False) h b := fun fa fb hw => fa.trans hw fb fun _ e _ => e.elim
      obtain ⟨g, o, hg⟩ := b2.own
      have f67 := hno f6 f7 b2.fr.wf
      exact ⟨hno b2.fr f67 hw, ⟨g, o.fr f67 (fun e => e.elim), hg⟩, b2.cap⟩
    refine ite_yes (by simp; omega) ?_
    refine Wp_ite.2 ⟨fun e => by simp at e, fun _ => Wp_ite.2 ⟨fun e => by simp at e, fun _ => ?_⟩⟩
    exact Wp_ite.2 ⟨fun e => by simp at e; omega, fun _ => limits_J0 hbig hw b3 hne m1 m2⟩
  · obtain ⟨p, hp⟩ := p2 hN
    refine (bencode_Parse_wp b2.fr.wf (by rw [hz]; omega) hp).mono fun x h6 hx => ?_
    obtain ⟨f6, S, _, _, rfl, _⟩ := hx
    refine keep_doc f6.wf fun b h7 f7 _ _ _ => ?_
    have b3 : Byt h h7 s2 (src1 N) := by
      have hno : ∀ {h a b : AHeap}, Fr (fun _ => False) h a → Fr (fun _ => False) a b → WF h → Fr (fun _ => False) h b := fun fa fb hw => fa.trans hw fb fun _ e _ => e.elim
      obtain ⟨g, o, hg⟩ := b2.own
      have f67 := hno f6 f7 b2.fr.wf
      exact ⟨hno b2.fr f67 hw, ⟨g, o.fr f67 (fun e => e.elim), hg⟩, b2.cap⟩
    refine Wp_ite.2 ⟨fun e => by simp at e; omega, fun _ => ?_⟩
    refine ite_yes (by simp; omega) ?_
    exact Wp_ite.2 ⟨fun e => by simp at e, fun _ => limits_J0 hbig hw b3 hne m1 m2⟩
end Go.Sh
