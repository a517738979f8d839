/-
The reference's Parse: it answers as the plain parser does.
-/
import Derived.Test.YtcgicpibdffpfaaDoorRl
set_option linter.all false
namespace Go.Sh
open Go Go.Ago Go.Proofs
variable {h h' : AHeap} {S S' : PSt} {n : Nat}
theorem ref_Parse_J0_eq (n : Nat) (a : Addr) (b : Option Addr) : rosettaref34_Parse_J0 n a b = bencode_Parse_J0 n a b := rfl
theorem ref_Parse_wp {s : ByteArray} {m n : Nat} {r : Rs PV} {h : AHeap} (hw : WF h) (hn : 3 * m + s.size + 40 ≤ n) (hr : spParse s m = some r) : Wp (rosettaref34_Parse n s) h (PRes h s r) := by
  unfold rosettaref34_Parse
  rw [Wp_bind, Wp_new]
  refine ⟨rfl, ?_⟩
  have f1 := Fr.new (e := T_api_Doc) (cs := [vi 0, Value.string (ofBytes []), vsl0, vi 0, vsl0, vsl0]) hw
  have l1 := LB.new (h := h) (e := T_api_Doc) (cs := [vi 0, Value.string (ofBytes []), vsl0, vi 0, vsl0, vsl0])
  have nx : (h.new T_api_Doc [vi 0, Value.string (ofBytes []), vsl0, vi 0, vsl0, vsl0]).next = h.next + 1 := rfl
  generalize h.new T_api_Doc [vi 0, Value.string (ofBytes []), vsl0, vi 0, vsl0, vsl0] = h1 at *
  unfold spParse at hr
  simp only [Wp_bind, Wp_nn', Wp_ldI, Wp_ldS, Wp_ldV, Wp_ldB, Wp_idxS, Wp_sliceS, Wp_pure, plus_eq, Nat.zero_add, Nat.reduceAdd, Option.some.injEq, exists_eq_left', decide_eq_true_eq]
  by_cases hlong : 65536 < s.size
  · rw [if_pos hlong] at hr
    cases hr
    rw [if_pos (by omega)]
    simp only [Wp_bind, Wp_nn', Wp_ldI, Wp_ldS, Wp_ldV, Wp_ldB, Wp_idxS, Wp_sliceS, Wp_pure, plus_eq, Nat.zero_add, Nat.reduceAdd, Option.some.injEq, exists_eq_left', decide_eq_true_eq]
    refine l1.st f1.wf (by simp) rfl fun h2 l2 f2 => ?_
    refine Wp_ldLs.2 ⟨(0, ofBytes [], sl0, 0, sl0, sl0), l2.lds (by simp [splice]) rfl, ?_⟩
    exact ⟨f1.fresh hw f2 fun g hg => .inr (by omega), rfl, by simp⟩
  · rw [if_neg hlong] at hr
    rw [if_neg (by omega)]
    simp only [Wp_bind, Wp_nn', Wp_ldI, Wp_ldS, Wp_ldV, Wp_ldB, Wp_idxS, Wp_sliceS, Wp_pure, plus_eq, Nat.zero_add, Nat.reduceAdd, Option.some.injEq, exists_eq_left', decide_eq_true_eq, Wp_new]
    refine ⟨rfl, ?_⟩
    have f2 := Fr.new (e := T_rosettaref34_State) (cs := (PSt.init h1.next T_rosettaref34_State s).enc) f1.wf
    have st2 := St.init f1.wf (e := T_rosettaref34_State) (s := s)
    have l2 := l1.fr f2 (fun hx => hx)
    have f02 := f1.fresh hw f2 (fun g hg => hg.elim)
    show Wp (rosettaref34_State_value n (some (adr (PSt.init h1.next T_rosettaref34_State s).b)) (span0 (-1) 0 0 0).tup (0 : Nat)) (h1.new T_rosettaref34_State (PSt.init h1.next T_rosettaref34_State s).enc) _
    have hg0 : ∀ t, (PSt.init h1.next T_rosettaref34_State s).grp t = 0 ∨ (PSt.init h1.next T_rosettaref34_State s).grp t = h1.next + 1 := fun t => by cases t <;> simp [PSt.grp, PSt.init]
    have hb2 : adr h1.next = adr (PSt.init h1.next T_rosettaref34_State s).b := rfl
    have hcon : (PSt.init h1.next T_rosettaref34_State s).src = s ∧ (PSt.init h1.next T_rosettaref34_State s).fmt = 5 ∧ (PSt.init h1.next T_rosettaref34_State s).source = s ∧ (PSt.init h1.next T_rosettaref34_State s).root = 0 := ⟨rfl, rfl, rfl, rfl⟩
    have is0 : Is (PSt.init h1.next T_rosettaref34_State s) ⟨0, [], []⟩ := ⟨rfl, rfl, rfl, rfl⟩
    rw [hb2]
    have nx2 : (h1.new T_rosettaref34_State (PSt.init h1.next T_rosettaref34_State s).enc).next = h1.next + 1 := rfl
    generalize h1.new T_rosettaref34_State (PSt.init h1.next T_rosettaref34_State s).enc = h2 at *
    generalize PSt.init h1.next T_rosettaref34_State s = S0 at *
    cases hv : (sp s m).V (span0 (-1) 0 0 0) 0 ⟨0, [], []⟩ with
    | none => rw [hv] at hr; cases hr
    | some rv =>
      rw [hv] at hr
      refine ((r_all (by omega) m).1 n (by omega) h2 S0 _ _ 0 rv st2 hcon.1 is0 (inv0 s) (by omega) hv).mono fun x h3 hx => ?_
      obtain ⟨S3, st3, f3, hx⟩ := hx
      have hg3 : ∀ t, S3.grp t = 0 ∨ h1.next < S3.grp t := fun t => by
        rcases f3.fp t with h4 | ⟨u, h4⟩ | h4
        · exact .inl h4
        · rcases hg0 u with h5 | h5
          · exact .inl (h4.trans h5)
          · exact .inr (by omega)
        · exact .inr (by omega)
      have f03 : Fr (fun _ => False) h h3 := f02.trans hw f3.fr fun g hg h0 => by
        obtain ⟨t, rfl⟩ := hg
        rcases hg0 t with h5 | h5
        · exact absurd h5 h0
        · exact .inr (by omega)
      have l3 : LB h3 h.next _ T_api_Doc := l2.fr f3.fr (by
        rintro ⟨t, ht⟩
        rcases hg0 t with h5 | h5 <;> omega)
      have hg4 : ∀ t, S3.grp t = 0 ∨ h.next < S3.grp t := fun t => by
        rcases hg3 t with h5 | h5
        · exact .inl h5
        · exact .inr (by omega)
      have hg5 : ∀ t, S3.grp t ≠ h.next + 1 := fun t => by
        rcases hg3 t with h5 | h5 <;> omega
      have hcon3 : S3.fmt = 5 ∧ S3.source = s ∧ S3.root = 0 := ⟨f3.fmt.trans hcon.2.1, f3.source.trans hcon.2.2.1, f3.root.trans hcon.2.2.2⟩
      have hb3 := f3.b
      have hbn : h1.next = S0.b := congrArg Addr.block hb2
      rw [hbn, ← hb3]
      simp only [st3.ldErr, st3.ldAt, st3.ldSrc, st3.ldNodes, st3.ldSpans, Option.some.injEq, exists_eq_left', ref_Parse_J0_eq]
      cases rv with
      | error e =>
        cases hr
        have hx2 := hx.1
        rw [if_neg (by rw [hx2.2.1]; exact hx2.2.2)]
        exact bencode_Parse_J0_wp hw f03 st3 l3 rfl (Nat.le_refl _) hg4 hg5 hcon3 hx2
      | ok q =>
        obtain ⟨nn, p⟩ := q
        obtain ⟨rfl, is3⟩ := hx
        rw [if_pos is3.2.2.2]
        simp only [Wp_bind, Wp_nn', Wp_ldI, Wp_ldS, Wp_ldV, Wp_ldB, Wp_idxS, Wp_sliceS, Wp_pure, plus_eq, Nat.zero_add, Nat.reduceAdd, Option.some.injEq, exists_eq_left', decide_eq_true_eq, st3.ldErr, st3.ldAt, st3.ldSrc, st3.ldNodes, st3.ldSpans, is3.1]
        simp only at hr
        by_cases hlt : p.pos < s.size
        · rw [if_pos hlt] at hr
          cases hr
          rw [if_pos (by omega)]
          simp only [Wp_bind, Wp_nn', Wp_ldI, Wp_ldS, Wp_ldV, Wp_ldB, Wp_idxS, Wp_sliceS, Wp_pure, plus_eq, Nat.zero_add, Nat.reduceAdd, Option.some.injEq, exists_eq_left', decide_eq_true_eq, st3.ldErr, st3.ldAt, st3.ldSrc, st3.ldNodes, st3.ldSpans, is3.1]
          refine (ref_fail st3 _ _).mono fun x h4 hx => ?_
          obtain ⟨st4, f4⟩ := hx
          have hfb : (S3.failed p.pos 4).b = S3.b := f4.b
          rw [← hfb]
          have hgg : ∀ t, (S3.failed p.pos 4).grp t = S3.grp t := fun t => by unfold PSt.failed; split <;> cases t <;> rfl
          have f04 : Fr (fun _ => False) h h4 := f03.trans hw f4.fr fun g hg h0 => by
            obtain ⟨t, rfl⟩ := hg
            rcases hg4 t with h5 | h5
            · exact absurd h5 h0
            · exact .inr h5
          have l4 := l3.fr f4.fr (by
            rintro ⟨t, ht⟩
            exact hg5 t ht.symm)
          exact bencode_Parse_J0_wp hw f04 st4 l4 rfl (Nat.le_refl _) (fun t => by rw [hgg]; exact hg4 t) (fun t => by rw [hgg]; exact hg5 t) ⟨f4.fmt.trans hcon3.1, f4.source.trans hcon3.2.1, f4.root.trans hcon3.2.2⟩ (failed_ok (S := S3) is3.2.2.2 (by simp) : Fail _ _)
        · rw [if_neg hlt] at hr
          cases hr
          rw [if_neg (by omega)]
          exact bencode_Parse_J0_wp hw f03 st3 l3 rfl (Nat.le_refl _) hg4 hg5 hcon3 ⟨is3.2.2.2, is3.2.1, is3.2.2.1⟩
end Go.Sh
