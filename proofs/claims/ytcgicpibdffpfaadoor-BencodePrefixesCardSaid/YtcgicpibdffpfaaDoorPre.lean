/-
The plain parser at the beginnings of a source. No theorem about the program stands here.
-/
import Derived.Test.YtcgicpibdffpfaaDoorPlain
set_option linter.all false
namespace Go.Sh
open Go Go.Ago Go.Proofs
structure Pfx (t s : ByteArray) : Prop where
  size : t.size ≤ s.size
  list : t.data.toList = s.data.toList.take t.size
  ex : ∀ x y, y ≤ t.size → t.extract x y = s.extract x y
theorem Pfx.get {t s : ByteArray} (f : Pfx t s) {i : Nat} (hi : i < t.size) : t.data.toList[i]? = s.data.toList[i]? := by
  rw [f.list, List.getElem?_take, if_pos hi]
theorem Pfx.up {t s : ByteArray} (f : Pfx t s) {i : Nat} {c : UInt8} (hc : t.data.toList[i]? = some c) : s.data.toList[i]? = some c := by
  rw [← f.get (get_lt hc)]; exact hc
theorem Pfx.drop {t s : ByteArray} (f : Pfx t s) (a : Nat) : t.data.toList.drop a = (s.data.toList.drop a).take (t.size - a) := by
  rw [f.list, List.drop_take]
theorem takeWhile_take (p : UInt8 → Bool) : ∀ (n : Nat) (L : List UInt8), (L.take n).takeWhile p = (L.takeWhile p).take n
  | 0, L => by simp
  | n + 1, [] => by simp
  | n + 1, x :: L => by
    rw [List.take_succ_cons, List.takeWhile_cons, List.takeWhile_cons, takeWhile_take p n L]
    split <;> simp
theorem Pfx.digs {t s : ByteArray} (f : Pfx t s) (a : Nat) : Go.Sh.digs (t.data.toList.drop a) = (Go.Sh.digs (s.data.toList.drop a)).take (t.size - a) := by
  unfold Go.Sh.digs
  rw [f.drop, takeWhile_take]
theorem spText_eq (s : ByteArray) (a : Nat) : spText s a = if (digs (s.data.toList.drop a)).length = 0 then .error (a, 4) else if 1 < (digs (s.data.toList.drop a)).length ∧ s.data.toList[a]? = some 48 then .error (a, 12)
    else match s.data.toList[a + (digs (s.data.toList.drop a)).length]? with
    | none => .error (s.size, 4)
    | some c => if c = 58 then (if s.size - (a + (digs (s.data.toList.drop a)).length + 1) < decVal (digs (s.data.toList.drop a)) then .error (s.size, 4) else .ok (s.extract (a + (digs (s.data.toList.drop a)).length + 1) (a + (digs (s.data.toList.drop a)).length + 1 + decVal (digs (s.data.toList.drop a))), a + (digs (s.data.toList.drop a)).length + 1 + decVal (digs (s.data.toList.drop a))))
      else .error (a + (digs (s.data.toList.drop a)).length, 4) := rfl
theorem digs_len (s : ByteArray) (a : Nat) : (digs (s.data.toList.drop a)).length ≤ s.size - a := by
  have := (List.takeWhile_sublist isDig (l := s.data.toList.drop a)).length_le
  simpa [digs, size_toList] using this
theorem Pfx.text_up {t s : ByteArray} (f : Pfx t s) {a : Nat} {r : ByteArray × Nat} (h : spText t a = .ok r) : spText s a = .ok r := by
  rw [spText_eq] at h ⊢
  have hd := f.digs a
  split at h
  · cases h
  · rename_i h0
    split at h
    · cases h
    · rename_i h1
      split at h
      · cases h
      · rename_i c hc
        have hlt := get_lt hc
        have hD : Go.Sh.digs (t.data.toList.drop a) = Go.Sh.digs (s.data.toList.drop a) := by
          rw [hd] at hlt ⊢
          rw [List.length_take] at hlt
          exact List.take_of_length_le (by omega)
        rw [hD] at h0 h1 h hc hlt
        rw [f.get (by omega)] at h1
        rw [if_neg h0, if_neg h1, f.up hc]
        simp only
        split at h
        · rename_i h58
          rw [if_pos h58]
          split at h
          · cases h
          · rename_i hv
            rw [← h]
            have := f.size
            rw [if_neg (by omega), f.ex _ _ (by omega)]
        · cases h
theorem Pfx.text_down {t s : ByteArray} (f : Pfx t s) {a a2 : Nat} {x : ByteArray} (ha : a ≤ t.size) (h : spText s a = .ok (x, a2)) : spText t a = if a2 ≤ t.size then .ok (x, a2) else .error (t.size, 4) := by
  rw [spText_eq] at h ⊢
  have hd := f.digs a
  have hl := digs_len s a
  split at h
  · cases h
  · rename_i h0
    split at h
    · cases h
    · rename_i h1
      split at h
      · cases h
      · rename_i c hc
        have hlt := get_lt hc
        split at h
        · rename_i h58
          split at h
          · cases h
          · rename_i hv
            simp only [Except.ok.injEq, Prod.mk.injEq] at h
            obtain ⟨hx, ha2⟩ := h
            have hlen : (Go.Sh.digs (t.data.toList.drop a)).length = min (t.size - a) (Go.Sh.digs (s.data.toList.drop a)).length := by rw [hd, List.length_take]
            by_cases hin : a + (Go.Sh.digs (s.data.toList.drop a)).length < t.size
            · have hD : Go.Sh.digs (t.data.toList.drop a) = Go.Sh.digs (s.data.toList.drop a) := by
                rw [hd]; exact List.take_of_length_le (by omega)
              rw [hD, if_neg h0, if_neg (by rw [f.get (by omega)]; exact h1), f.get hin, hc]
              simp only [if_pos h58]
              by_cases h2 : a2 ≤ t.size
              · rw [if_pos h2, if_neg (by omega), f.ex _ _ (by omega), hx, ha2]
              · rw [if_neg h2, if_pos (by omega)]
            · rw [if_neg (show ¬ a2 ≤ t.size by omega)]
              by_cases hz : (Go.Sh.digs (t.data.toList.drop a)).length = 0
              · rw [if_pos hz]
                have : a = t.size := by omega
                rw [this]
              · rw [if_neg hz, if_neg (by
                  intro ⟨q1, q2⟩
                  exact h1 ⟨by omega, f.up q2⟩), List.getElem?_eq_none (by rw [size_toList]; omega)]
        · cases h
theorem find_app {L : List UInt8} {n j : Nat} {p : UInt8 → Bool} (h : (L.take n).findIdx? p = some j) : L.findIdx? p = some j := by
  have e : L = L.take n ++ L.drop n := (List.take_append_drop n L).symm
  rw [e, List.findIdx?_append, h]; rfl
theorem find_down {L : List UInt8} {n j : Nat} {p : UInt8 → Bool} (h : L.findIdx? p = some j) : (L.take n).findIdx? p = if j < n then some j else none := by
  cases hq : (L.take n).findIdx? p with
  | some i =>
    have := find_app hq
    rw [h] at this
    cases this
    have := findIdx_lt hq
    rw [List.length_take] at this
    rw [if_pos (by omega)]
  | none =>
    by_cases hj : j < n
    · exfalso
      rw [List.findIdx?_eq_some_iff_getElem] at h
      obtain ⟨h1, h2, _⟩ := h
      rw [List.findIdx?_eq_none_iff] at hq
      have hm : L[j] ∈ L.take n := by
        rw [List.mem_iff_getElem?]
        exact ⟨j, by rw [List.getElem?_take, if_pos hj]; exact List.getElem?_eq_getElem h1⟩
      have := hq _ hm
      rw [h2] at this; cases this
    · rw [if_neg hj]
theorem Pfx.int_up {t s : ByteArray} (f : Pfx t s) {p : PV} {d : Nat} {r : Int × PV} (h : spInt t p d = .ok r) : spInt s p d = .ok r := by
  unfold spInt at h ⊢
  rw [f.drop] at h
  split at h
  · cases h
  · rename_i j hj
    rw [find_app hj]
    have hl := findIdx_lt hj
    rw [List.length_take, List.length_drop, size_toList] at hl
    rw [f.ex _ _ (by omega)] at h
    exact h
theorem Pfx.int_down {t s : ByteArray} (f : Pfx t s) {p p2 : PV} {d : Nat} {n : Int} (h : spInt s p d = .ok (n, p2)) : spInt t p d = if p2.pos ≤ t.size then .ok (n, p2) else .error (t.size, 4) := by
  unfold spInt at h ⊢
  rw [f.drop]
  split at h
  · cases h
  · rename_i j hj
    rw [find_down hj]
    split at h
    · rename_i hv
      obtain ⟨rfl, rfl, _, _⟩ := spNode_ok h
      by_cases hin : j < t.size - p.pos
      · rw [if_pos hin]
        simp only
        rw [f.ex _ _ (by omega), if_pos hv, if_pos (by show p.pos + j + 1 ≤ t.size; omega)]
        exact h
      · rw [if_neg hin, if_neg (by show ¬ p.pos + j + 1 ≤ t.size; omega)]
    · cases h
theorem Pfx.str_up {t s : ByteArray} (f : Pfx t s) {p : PV} {d : Nat} {r : Int × PV} (h : spStr t p d = .ok r) : spStr s p d = .ok r := by
  unfold spStr at h ⊢
  split at h
  · cases h
  · rename_i x a hx
    rw [f.text_up hx]; exact h
theorem Pfx.str_down {t s : ByteArray} (f : Pfx t s) {p p2 : PV} {d : Nat} {n : Int} (hp : p.pos ≤ t.size) (h : spStr s p d = .ok (n, p2)) : spStr t p d = if p2.pos ≤ t.size then .ok (n, p2) else .error (t.size, 4) := by
  unfold spStr at h ⊢
  split at h
  · cases h
  · rename_i x a hx
    obtain ⟨rfl, rfl, _, _⟩ := spNode_ok h
    rw [f.text_down hp hx]
    by_cases ha : a ≤ t.size
    · rw [if_pos ha, if_pos (by exact ha)]; exact h
    · rw [if_neg ha, if_neg (by exact ha)]
theorem up_all {t s : ByteArray} (f : Pfx t s) : ∀ m,
    (∀ sn d p r, (sp t m).V sn d p = some (.ok r) → (sp s m).V sn d p = some (.ok r)) ∧
    (∀ nd sp' k d p r, (sp t m).L nd sp' k d p = some (.ok r) → (sp s m).L nd sp' k d p = some (.ok r)) ∧
    (∀ nd sp' k d last p r, (sp t m).D nd sp' k d last p = some (.ok r) → (sp s m).D nd sp' k d last p = some (.ok r))
  | 0 => ⟨fun _ _ _ _ h => by simp [sp] at h, fun _ _ _ _ _ _ h => by simp [sp] at h, fun _ _ _ _ _ _ _ h => by simp [sp] at h⟩
  | m + 1 => by
    obtain ⟨uV, uL, uD⟩ := up_all f m
    have opn : ∀ {p : PV} {sp' d : Nat} {kind : Int} {r : Int × PV}, spOpen t (sp t m) p sp' d kind = some (.ok r) → spOpen s (sp s m) p sp' d kind = some (.ok r) := by
      intro p sp' d kind r h
      unfold spOpen at h ⊢
      split at h
      · cases h
      · rename_i n p1 hn
        by_cases hk : kind = 9
        · simp only [if_pos hk] at h ⊢
          split at h
          · cases h
          · cases h
          · rename_i p2 h2
            rw [uL _ _ _ _ _ _ h2]; exact h
        · simp only [if_neg hk] at h ⊢
          split at h
          · cases h
          · cases h
          · rename_i p2 h2
            rw [uD _ _ _ _ _ _ _ h2]; exact h
    refine ⟨fun sn d p r h => ?_, fun nd sp' k d p r h => ?_, fun nd sp' k d last p r h => ?_⟩
    · simp only [sp, spV] at h ⊢
      have hs := f.size
      split at h
      · cases h
      · rw [if_neg (by omega)]
        have key : ∀ {q : PV} {r : Int × PV}, spRead t (sp t m) q p.spans.length d = some (.ok r) → spRead s (sp s m) q p.spans.length d = some (.ok r) := by
          intro q r h
          unfold spRead at h ⊢
          split at h
          · cases h
          · rename_i c hc
            rw [f.up hc]
            simp only
            split at h
            · rename_i h1
              rw [if_pos h1, f.int_up (Option.some.inj h)]
            · rename_i h1
              rw [if_neg h1]
              split at h
              · rename_i h2
                rw [if_pos h2]; exact opn h
              · rename_i h2
                rw [if_neg h2]
                split at h
                · rename_i h3
                  rw [if_pos h3]; exact opn h
                · rename_i h3
                  rw [if_neg h3, f.str_up (Option.some.inj h)]
        split at h
        · cases h
        · cases h
        · rename_i n1 p1 h1
          rw [key h1]; exact h
    · simp only [sp, spL] at h ⊢
      split at h
      · cases h
      · rename_i c hc
        rw [f.up hc]
        simp only
        split at h
        · rename_i h1
          rw [if_pos h1]; exact h
        · rename_i h1
          rw [if_neg h1]
          split at h
          · cases h
          · cases h
          · rename_i it p1 h2
            rw [uV _ _ _ _ h2]; exact uL _ _ _ _ _ _ h
    · simp only [sp, spD] at h ⊢
      split at h
      · cases h
      · rename_i c hc
        rw [f.up hc]
        simp only
        split at h
        · rename_i h1
          rw [if_pos h1]; exact h
        · rename_i h1
          rw [if_neg h1]
          split at h
          · cases h
          · rename_i x a hx
            rw [f.text_up hx]
            simp only
            split at h
            · cases h
            · rename_i key p1 hk
              split at h
              · cases h
              · rename_i h2
                rw [if_neg h2]
                split at h
                · cases h
                · rename_i h3
                  rw [if_neg h3]
                  split at h
                  · cases h
                  · cases h
                  · rename_i it p2 h4
                    rw [uV _ _ _ _ h4]; exact uD _ _ _ _ _ _ _ h
theorem down_all {t s : ByteArray} (f : Pfx t s) : ∀ m,
    (∀ sn d p n p2, Inv s p → p.pos ≤ t.size → (sp s m).V sn d p = some (.ok (n, p2)) → (sp t m).V sn d p = some (if p2.pos ≤ t.size then .ok (n, p2) else .error (t.size, 4))) ∧
    (∀ (nd : Nat) sp' k d p p2, Inv s p → nd < p.nodes.length → p.pos ≤ t.size → (sp s m).L nd sp' k d p = some (.ok p2) → (sp t m).L nd sp' k d p = some (if p2.pos ≤ t.size then .ok p2 else .error (t.size, 4))) ∧
    (∀ (nd : Nat) sp' k d last p p2, Inv s p → nd < p.nodes.length → p.pos ≤ t.size → (sp s m).D nd sp' k d last p = some (.ok p2) → (sp t m).D nd sp' k d last p = some (if p2.pos ≤ t.size then .ok p2 else .error (t.size, 4)))
  | 0 => ⟨fun _ _ _ _ _ _ _ h => by simp [sp] at h, fun _ _ _ _ _ _ _ _ _ h => by simp [sp] at h, fun _ _ _ _ _ _ _ _ _ _ h => by simp [sp] at h⟩
  | m + 1 => by
    obtain ⟨uV, uL, uD⟩ := down_all f m
    have g := sp_good s m
    refine ⟨fun sn d p n p2 i hp h => ?_, fun nd sp' k d p p2 i hn hp h => ?_, fun nd sp' k d last p p2 i hn hp h => ?_⟩
    · have adv := ((sp_good s (m + 1)).V _ _ _ _ _ i h).1 0
      simp only [sp, spV] at h ⊢
      have hs := f.size
      split at h
      · cases h
      · rename_i hle
        by_cases hk : t.size ≤ p.pos
        · rw [if_pos hk]
          have := adv.pos
          rw [if_neg (by omega)]
        · rw [if_neg hk]
          have key : ∀ {n : Int} {q2 : PV}, spRead s (sp s m) { p with spans := p.spans ++ [{ sn with frm := p.pos, whole := true }] } p.spans.length d = some (.ok (n, q2)) →
              spRead t (sp t m) { p with spans := p.spans ++ [{ sn with frm := p.pos, whole := true }] } p.spans.length d = some (if q2.pos ≤ t.size then .ok (n, q2) else .error (t.size, 4)) := by
            intro n q2 h
            have opn : ∀ {kind : Int}, spOpen s (sp s m) { p with spans := p.spans ++ [{ sn with frm := p.pos, whole := true }] } p.spans.length d kind = some (.ok (n, q2)) →
                spOpen t (sp t m) { p with spans := p.spans ++ [{ sn with frm := p.pos, whole := true }] } p.spans.length d kind = some (if q2.pos ≤ t.size then .ok (n, q2) else .error (t.size, 4)) := by
              intro kind h
              unfold spOpen at h ⊢
              split at h
              · cases h
              · rename_i n1 p1 hn
                obtain ⟨rfl, rfl, h1, _⟩ := spNode_ok hn
                have i1 := inv_open (x := { sn with frm := p.pos, whole := true }) (kind := kind) i (by omega) h1
                by_cases hk9 : kind = 9
                · simp only [if_pos hk9] at h ⊢
                  split at h
                  · cases h
                  · cases h
                  · rename_i p3 h3
                    cases h
                    have := uL p.nodes.length _ _ _ _ _ i1 (by simp) (by show p.pos + 1 ≤ t.size; omega) h3
                    erw [this]
                    by_cases hc : q2.pos ≤ t.size
                    · simp only [if_pos hc]
                    · simp only [if_neg hc]
                · simp only [if_neg hk9] at h ⊢
                  split at h
                  · cases h
                  · cases h
                  · rename_i p3 h3
                    cases h
                    have := uD p.nodes.length _ _ _ _ _ _ i1 (by simp) (by show p.pos + 1 ≤ t.size; omega) h3
                    erw [this]
                    by_cases hc : q2.pos ≤ t.size
                    · simp only [if_pos hc]
                    · simp only [if_neg hc]
            unfold spRead at h ⊢
            split at h
            · cases h
            · rename_i c hc
              rw [f.get (by show p.pos < t.size; omega), hc]
              simp only
              split at h
              · rename_i h1
                rw [if_pos h1, f.int_down (Option.some.inj h)]
              · rename_i h1
                rw [if_neg h1]
                split at h
                · rename_i h2
                  rw [if_pos h2]; exact opn h
                · rename_i h2
                  rw [if_neg h2]
                  split at h
                  · rename_i h3
                    rw [if_pos h3]; exact opn h
                  · rename_i h3
                    rw [if_neg h3, f.str_down (p := { p with spans := p.spans ++ [{ sn with frm := p.pos, whole := true }] }) hp (Option.some.inj h)]
          split at h
          · cases h
          · cases h
          · rename_i n1 q1 h1
            cases h
            rw [key h1]
            by_cases hc : q1.pos ≤ t.size
            · simp only [if_pos hc]
            · simp only [if_neg hc]
    · have adv := (sp_good s (m + 1)).L _ _ _ _ _ _ i hn h
      simp only [sp, spL] at h ⊢
      split at h
      · cases h
      · rename_i c hc
        by_cases hk : p.pos < t.size
        · rw [f.get hk, hc]
          simp only
          split at h
          · rename_i h1
            cases h
            rw [if_pos h1, if_pos (by exact hk)]
          · rename_i h1
            rw [if_neg h1]
            split at h
            · cases h
            · cases h
            · rename_i it p1 h2
              rw [uV _ _ _ _ _ i hp h2]
              obtain ⟨a, _⟩ := g.V _ _ _ _ _ i h2
              have am := Adv.modify (f := fun x => { x with items := x.items ++ [it] }) i a hn (by simp)
              have hn' := Nat.lt_of_lt_of_le hn am.nodes
              have adv2 := g.L _ _ _ _ _ _ am.inv hn' h
              by_cases hc2 : p1.pos ≤ t.size
              · simp only [if_pos hc2]
                exact uL nd _ _ _ _ _ am.inv hn' hc2 h
              · have h3 : p1.pos < p2.pos := adv2.pos
                simp only [if_neg hc2]
                rw [if_neg (by omega)]
        · rw [List.getElem?_eq_none (by rw [size_toList]; omega)]
          have := adv.pos
          rw [if_neg (by omega)]
    · have adv := (sp_good s (m + 1)).D _ _ _ _ _ _ _ i hn h
      simp only [sp, spD] at h ⊢
      split at h
      · cases h
      · rename_i c hc
        by_cases hk : p.pos < t.size
        · rw [f.get hk, hc]
          simp only
          split at h
          · rename_i h1
            cases h
            rw [if_pos h1, if_pos (by exact hk)]
          · rename_i h1
            rw [if_neg h1]
            split at h
            · cases h
            · rename_i x a hx
              obtain ⟨e1, e2⟩ := spText_ok hx
              rw [f.text_down hp hx]
              split at h
              · cases h
              · rename_i key p1 hk'
                obtain ⟨rfl, rfl, n1, n2⟩ := spNode_ok hk'
                have a1 : ∀ ex, Adv s ex p { p with pos := a, nodes := p.nodes ++ [⟨5, x, false, [], []⟩] } := fun ex => Adv.step i e1 e2 n1 (by simp)
                split at h
                · cases h
                · rename_i h2
                  split at h
                  · cases h
                  · rename_i h3
                    split at h
                    · cases h
                    · cases h
                    · rename_i it p3 h4
                      obtain ⟨a3, _⟩ := g.V _ _ _ _ _ (a1 0).inv h4
                      have am := Adv.modify (f := fun x => { x with keys := x.keys ++ [(p.nodes.length : Int)], items := x.items ++ [it] }) i (fun ex => (a1 ex).trans (a3 ex)) hn (by simp)
                      have hn' := Nat.lt_of_lt_of_le hn am.nodes
                      have adv2 := g.D _ _ _ _ _ _ _ am.inv hn' h
                      have p3p : p3.pos < p2.pos := adv2.pos
                      have a3p : a < p3.pos := (a3 0).pos
                      by_cases ha : a ≤ t.size
                      · simp only [if_pos ha, hk']
                        rw [if_neg h2, if_neg h3, uV _ _ _ _ _ (a1 0).inv ha h4]
                        by_cases hc2 : p3.pos ≤ t.size
                        · simp only [if_pos hc2]
                          exact uD nd _ _ _ _ _ _ am.inv hn' hc2 h
                        · simp only [if_neg hc2]
                          rw [if_neg (by omega)]
                      · simp only [if_neg ha]
                        rw [if_neg (by omega)]
        · rw [List.getElem?_eq_none (by rw [size_toList]; omega)]
          have := adv.pos
          rw [if_neg (by omega)]
theorem exl (s : ByteArray) (a b : Nat) : (s.extract a b).data.toList = (s.data.toList.drop a).take (b - a) := by simp [ByteArray.data_extract]
theorem pfx_extract {s : ByteArray} {k : Nat} (hk : k ≤ s.size) : Pfx (s.extract 0 k) s := by
  have hl : (s.extract 0 k).data.toList = s.data.toList.take k := by rw [ByteArray.data_extract]; simp
  have hz : (s.extract 0 k).size = k := by rw [← size_toList, hl, List.length_take, size_toList]; omega
  refine ⟨by omega, by rw [hl, hz], fun x y hy => ?_⟩
  apply ByteArray.ext
  apply Array.toList_inj.1
  rw [exl (s.extract 0 k), exl s x y, hl, List.drop_take, List.take_take]
  congr 1
  omega
theorem pfx_append (t u : ByteArray) : Pfx t (t ++ u) := by
  have hl : (t ++ u).data.toList = t.data.toList ++ u.data.toList := by rw [ByteArray.data_append]; simp
  refine ⟨by rw [ByteArray.size_append]; omega, by rw [hl, ← size_toList, List.take_left], fun x y hy => ?_⟩
  apply ByteArray.ext
  apply Array.toList_inj.1
  rw [exl, exl, hl]
  by_cases hx : x ≤ t.size
  · rw [List.drop_append_of_le_length (by rw [size_toList]; exact hx), List.take_append_of_le_length (by rw [List.length_drop, size_toList]; omega)]
  · have h0 : y - x = 0 := by omega
    rw [h0]; simp
/-- A proper beginning of an accepted source ends too early. -/
theorem spParse_down {s : ByteArray} {m k : Nat} {p : PV} (hs : s.size ≤ 65536) (h : spParse s m = some (.ok p)) (hk : k < s.size) : spParse (s.extract 0 k) m = some (.error (k, 4)) := by
  have f := pfx_extract (s := s) (k := k) (by omega)
  have hz : (s.extract 0 k).size = k := by
    have hl : (s.extract 0 k).data.toList = s.data.toList.take k := by rw [ByteArray.data_extract]; simp
    rw [← size_toList, hl, List.length_take, size_toList]; omega
  unfold spParse at h ⊢
  rw [if_neg (by omega)] at h
  rw [if_neg (by omega)]
  have i0 : Inv s ⟨0, [], []⟩ := ⟨by simp, by simp, by simp, by simp⟩
  split at h
  · cases h
  · cases h
  · rename_i n p1 h1
    split at h
    · cases h
    · rename_i h2
      have := (down_all f m).1 _ _ _ _ _ i0 (by simp) h1
      rw [hz, if_neg (by omega)] at this
      rw [this]
/-- A continuation of an accepted source is rejected at its first byte. -/
theorem spParse_up {s u : ByteArray} {m : Nat} {p : PV} (hs : s.size ≤ 65536) (hu : (s ++ u).size ≤ 65536) (h : spParse s m = some (.ok p)) (hne : u.size ≠ 0) : spParse (s ++ u) m = some (.error (s.size, 4)) := by
  have f := pfx_append s u
  have hz : (s ++ u).size = s.size + u.size := ByteArray.size_append
  unfold spParse at h ⊢
  rw [if_neg (by omega)] at h
  rw [if_neg (by omega)]
  have i0 : Inv s ⟨0, [], []⟩ := ⟨by simp, by simp, by simp, by simp⟩
  split at h
  · cases h
  · cases h
  · rename_i n p1 h1
    split at h
    · cases h
    · rename_i h2
      have a := (sp_good s m).V _ _ _ _ _ i0 h1
      have hp := (a.1 0).inv.pos
      have e : p1.pos = s.size := by omega
      rw [(up_all f m).1 _ _ _ _ h1]
      simp only
      rw [if_pos (by omega), e]
end Go.Sh
