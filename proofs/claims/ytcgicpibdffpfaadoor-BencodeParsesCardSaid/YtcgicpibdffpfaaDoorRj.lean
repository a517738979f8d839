/-
Contracts of the reference's parser: the step of a list's or a dictionary's content.
-/
import Derived.Test.YtcgicpibdffpfaaDoorRi
set_option linter.all false
namespace Go.Sh
open Go Go.Ago Go.Proofs
variable {h h' : AHeap} {S S' : PSt} {n : Nat}
/-- A block of a call's own, beside a parser's state; since h0 and S0. -/
structure Lc (h0 : AHeap) (S0 : PSt) (h : AHeap) (S : PSt) (b : Nat) (cs : List Value) (e : TypeId) : Prop where
  st : St h S
  f : Stp h0 S0 h S
  lb : LB h b cs e
  ne : ∀ t, S.grp t ≠ b + 1
  fresh : h0.next ≤ b
theorem Lc.new (st : St h S) {cs : List Value} {e : TypeId} : Lc h S (h.new e cs) S h.next cs e := by
  obtain ⟨st1, f1⟩ := Stp.new st (e := e) (cs := cs)
  exact ⟨st1, f1, LB.new, fun t => by have := st.le t; omega, Nat.le_refl _⟩
theorem Lc.go {h0 : AHeap} {S0 : PSt} {b : Nat} {cs : List Value} {e : TypeId} (hw0 : WF h0) (l : Lc h0 S0 h S b cs e) (st' : St h' S') (f' : Stp h S h' S') : Lc h0 S0 h' S' b cs e := by
  have hlt := l.lb.lt l.st.wf
  refine ⟨st', l.f.trans hw0 f', l.lb.fr f'.fr (by rintro ⟨t, ht⟩; exact l.ne t ht.symm), fun t ht => ?_, l.fresh⟩
  rcases f'.fp t with h1 | ⟨u, h1⟩ | h1
  · omega
  · exact l.ne u (by omega)
  · omega
theorem Lc.put {h0 : AHeap} {S0 : PSt} {b o : Nat} {cs vs : List Value} {e : TypeId} (hw0 : WF h0) (l : Lc h0 S0 h S b cs e) (ho : o + vs.length ≤ cs.length) (hv : vs.all scal = true) {Q : Unit → AHeap → Prop}
    (hq : ∀ h', Lc h0 S0 h' S b (splice cs o vs) e → h'.get S.b = h.get S.b → Q () h') : Wp (stN ⟨b, o, none⟩ vs) h Q := by
  refine l.lb.st l.st.wf ho hv fun h' lb' f => hq h' ?_ ?_
  · have fr := l.fresh
    exact ⟨l.st.fr f (fun t ht => absurd ht (l.ne t)), ⟨l.f.con, l.f.fr.fresh hw0 f (fun g hg => .inr (by omega)), l.f.fp⟩, lb', l.ne, l.fresh⟩
  · have hg := f.cells _ _ _ _ _ l.st.blk (fun e => absurd e (l.ne .main))
    rw [l.st.blk, hg]
theorem St.addKeyN (st : St h S) {i bn : Nat} {x : NodeR} (hi : S.nodes[i]? = some x) (ha : S.nsl.a = some ⟨bn, 0, none⟩) {v : Int} {b : Bool} (hb : x.kl.length + 1 ≤ bigN) {Q : Sl → AHeap → Prop}
    (hq : ∀ s' h', Wp (stN ⟨bn, i * 5 + 3, none⟩ [vsl s']) h' (fun _ h3 => ∃ g', St h3 (S.wNodes S.nsl S.ng (S.nodes.set i { x with ks := s', kl := x.kl ++ [v], kg := g' })) ∧ Stp h S h3 (S.wNodes S.nsl S.ng (S.nodes.set i { x with ks := s', kl := x.kl ++ [v], kg := g' }))) → Q s' h') :
    Wp (app b x.ks 1 T_i64 1 [vi v]) h Q := by
  have hlt := (List.getElem?_eq_some_iff.1 hi).1
  have hl := flat_length NodeR.enc_len S.nodes
  refine st.appKey hi hb fun s' h2 g' e2 st2 f2 => hq s' h2 ?_
  refine st2.putNode (o := i * 5 + 3) ha (by show i * 5 + 3 < (S.nodes.flatMap NodeR.enc).length; rw [hl]; omega) rfl fun h3 st3 f3 => ⟨g', ?_, ?_⟩
  · have e3 : PSt.ncells (S.wNodes S.nsl S.ng (S.nodes.set i { x with ks := s', kl := x.kl ++ [v], kg := g' })) = S.ncells.set (i * 5 + 3) (vsl s') := by
      have := flat_splice NodeR.enc_len hi (x' := { x with ks := s', kl := x.kl ++ [v], kg := g' }) (o := 3) (vs := [vsl s']) (by simp) (by rw [splice1 (by simp [NodeR.enc])]; rfl)
      rw [splice1 (by rw [hl]; omega)] at this
      exact this.symm
    show StC h3 _ _ (PSt.ncells _)
    rw [e3]; exact st3
  · have hgi : S.grp (.key i) = x.kg := by simp only [PSt.grp, hi]
    refine Stp.two (s0 := .key i) (s1 := .nodes) st.wf rfl (by rw [hgi]; exact f2) f3 (by simp) rfl (fun s hs => .inl (grp_set hi s (fun e => absurd e hs) (fun _ => rfl))) ?_
    have e1 : PSt.grp (S.wNodes S.nsl S.ng (S.nodes.set i { x with ks := s', kl := x.kl ++ [v], kg := g' })) (.key i) = g' := by
      simp only [PSt.grp, PSt.wNodes]; rw [List.getElem?_set_self hlt]
    rw [e1, hgi]
    rcases e2 with ⟨h6, _⟩ | h6
    · exact .inl h6
    · exact .inr (.inr (by omega))
theorem Ext.set {nd : Nat} {y : NodeR} {s' : Sl} {g' : Nat} : Ext (· = nd) S (S.wNodes s' g' (S.nodes.set nd y)) :=
  ⟨fun j x hx hj => ⟨x, by show (S.nodes.set nd y)[j]? = some x; rw [List.getElem?_set_ne (fun e => hj e.symm)]; exact hx, rfl⟩, by show _ ≤ (S.nodes.set nd y).length; simp, Nat.le_refl _⟩
theorem ResC.base {h0 h1 : AHeap} {S0 S1 : PSt} {nd : Nat} {r : Rs PV} {x : Unit ⊕ Unit} (hw0 : WF h0) (f : Stp h0 S0 h1 S1) (e : Ext (· = nd) S0 S1) (hr : ResC h1 S1 nd r x h') : ResC h0 S0 nd r x h' := by
  obtain ⟨S', st, f', hx⟩ := hr
  refine ⟨S', st, f.trans hw0 f', ?_⟩
  cases r with
  | ok p => exact hx
  | error q => exact ⟨hx.1, e.trans hx.2⟩
theorem J3_cont {s : ByteArray} {m : Nat} (hs : s.size ≤ 65536) (hV : RV s m) (hC : RC s m) (hn : 3 * m + s.size + 40 ≤ n) {h0 : AHeap} {S0 : PSt} {b nd sp' k d : Nat} {kf kt kind : Int} {last : ByteArray} {p : PV} {r : Rs PV}
    (hw0 : WF h0) (l : Lc h0 S0 h S b (span0 sp' k kf kt).enc T_api_Span) (e0 : Ext (· = nd) S0 S) (hsrc : S.src = s) (is : Is S p) (i : Inv s p) (hk : ∃ x, p.nodes[nd]? = some x ∧ x.kind = kind) (hk2 : kind = 9 ∨ kind = 10) (hkp : k ≤ p.pos) (hd : d ≤ 32)
    (hr : (match (sp s m).V (span0 sp' k kf kt) (d + 1) p with
      | none => none
      | some (.error e) => some (.error e)
      | some (.ok (it, p2)) => Run s m kind nd sp' (k + 1) d last (addItem p2 nd it)) = some r) :
    Wp (rosettaref34_State_content_L0_J3_B (Cl_rosettaref34_State_value.at n) n (some (adr S.b)) nd sp' (d + 1 : Nat) last k (adr b)) h (ResC h0 S0 nd r) := by
  unfold rosettaref34_State_content_L0_J3_B
  have st := l.st
  have ip := i.pos
  rw [Wp_bind]
  refine Wp_ldLs.2 ⟨(span0 sp' k kf kt).tup, l.lb.lds (by simp [SpanV.enc]) rfl, ?_⟩
  rw [Wp_bind]
  have e2 : IntKind.i64.wrap ((k : Int) + 1) = (k + 1 : Nat) := by rw [w64 (by omega) (by omega)]; simp
  rw [e2]
  -- after the value
  have flow : ∀ {S1 : PSt} {h1 : AHeap} {y : NodeR} {it : Int}, St h1 S1 → S1.b = S.b → S1.nodes[nd]? = some y → y.il.length ≤ 65536 →
      (∀ s' g' h4, St h4 (S1.wNodes S1.nsl S1.ng (S1.nodes.set nd { y with is := s', il := y.il ++ [it], ig := g' })) → Stp h1 S1 h4 (S1.wNodes S1.nsl S1.ng (S1.nodes.set nd { y with is := s', il := y.il ++ [it], ig := g' })) →
        Wp (rosettaref34_State_content_L0 n (some (adr S1.b)) nd sp' (d + 1 : Nat) last (k + 1 : Nat)) h4 (ResC h0 S0 nd r)) →
      Wp (M.bind (nn (some (adr S.b))) fun x2 => M.bind (nn (some (adr S.b))) fun x3 => M.bind (ldL .sl (((x2.plus 2).plus 2).plus 0)) fun (x4 : Sl) => M.bind (ldL .sl (((x3.plus 2).plus 2).plus 0)) fun (x5 : Sl) => M.bind (idxA x5 nd 5) fun x6 => M.bind (ldL .sl (x6.plus 4)) fun (x7 : Sl) =>
        M.bind (app true x7 1 T_i64 1 [vi it]) fun x8 => M.bind (idxA x4 nd 5) fun x9 => M.bind (stN (x9.plus 4) [vsl x8]) fun x10 => rosettaref34_State_content_L0 n (some (adr S.b)) nd sp' (d + 1 : Nat) last (k + 1 : Nat)) h1 (ResC h0 S0 nd r) := by
    intro S1 h1 y it st1 hb1 hy hyl hq
    have hlt := (List.getElem?_eq_some_iff.1 hy).1
    obtain ⟨bn, base, ha, _, _⟩ := st1.nodeBlk (by omega)
    have hlen := st1.nodes_len
    rw [← hb1]
    simp only [Wp_bind, Wp_nn', Wp_ldI, Wp_ldS, Wp_ldV, Wp_ldB, Wp_idxS, Wp_sliceS, Wp_pure, plus_eq, Nat.zero_add, Nat.reduceAdd, Option.some.injEq, exists_eq_left', decide_eq_true_eq, st1.ldErr, st1.ldAt, st1.ldSrc, st1.ldNodes, st1.ldSpans, Wp_idxA, ha, exists_eq_left', Int.toNat_natCast, st1.ldItems hy ha]
    refine ⟨by omega, by omega, ?_⟩
    refine St.addItemN st1 hy ha (by unfold bigN; omega) fun s' h3 hput => ?_
    refine ⟨by omega, by omega, ?_⟩
    refine hput.mono fun _ h4 hx => ?_
    obtain ⟨g', st4, f4⟩ := hx
    exact hq s' g' h4 st4 f4
  obtain ⟨x, hx, hxk⟩ := hk
  have hnd : nd < p.nodes.length := (List.getElem?_eq_some_iff.1 hx).1
  cases hv : (sp s m).V (span0 sp' k kf kt) (d + 1) p with
  | none => rw [hv] at hr; cases hr
  | some rv =>
    rw [hv] at hr
    refine (hV n (by omega) h S p (span0 sp' k kf kt) (d + 1) rv st hsrc is i (by omega) hv).mono fun it h1 hx1 => ?_
    obtain ⟨S1, st1, f1, hx1⟩ := hx1
    have f01 := l.f.trans hw0 f1
    cases rv with
    | error e =>
      cases hr
      obtain ⟨hf, he⟩ := hx1
      obtain ⟨y0, hy0, hy0'⟩ := node_get is hnd
      obtain ⟨y, hy, hyv⟩ := he.nodes nd y0 hy0 (fun h => h)
      have hyl : y.il.length ≤ 65536 := by
        have h3 := (i.items _ (List.mem_of_getElem? hy0')).1
        have h2 : y.v.items = y0.v.items := by rw [hyv]
        have h4 : y.il.length = y0.v.items.length := by rw [← h2]; rfl
        omega
      refine flow st1 f1.b hy hyl fun s' g' h4 st4 f4 => ?_
      have hb4 : (S1.wNodes S1.nsl S1.ng (S1.nodes.set nd { y with is := s', il := y.il ++ [it], ig := g' })).b = S1.b := rfl
      rw [← hb4]
      have hf4 : Fail (S1.wNodes S1.nsl S1.ng (S1.nodes.set nd { y with is := s', il := y.il ++ [it], ig := g' })) e := hf
      exact contL_stop st4 hf4 (by omega) ⟨_, st4, f01.trans hw0 f4, hf4, (e0.trans (he.weak (fun _ h => h.elim))).trans Ext.set⟩
    | ok q =>
      obtain ⟨it', p2⟩ := q
      obtain ⟨rfl, is1⟩ := hx1
      obtain ⟨av, _⟩ := (sp_good s m).V _ _ _ _ _ i hv
      have am := Adv.modify (f := fun x => { x with items := x.items ++ [it] }) i av hnd (by simp)
      have a0 := av (nd + 1)
      have hnd2 : nd < p2.nodes.length := Nat.lt_of_lt_of_le hnd a0.nodes
      obtain ⟨y, hy1, hy2⟩ := node_get is1 hnd2
      have hyl : y.il.length ≤ 65536 := by
        have h3 := (a0.inv.items _ (List.mem_of_getElem? hy2)).1
        have h4 : y.il.length = y.v.items.length := rfl
        have := a0.inv.pos
        omega
      have hpre := a0.pre nd hnd (by omega)
      refine flow st1 f1.b hy1 hyl fun s' g' h4 st4 f4 => ?_
      have is4 : Is (S1.wNodes S1.nsl S1.ng (S1.nodes.set nd { y with is := s', il := y.il ++ [it], ig := g' })) (addItem p2 nd it) := by
        refine ⟨is1.1, ?_, is1.2.2.1, is1.2.2.2⟩
        exact map_set (f := fun x => { x with items := x.items ++ [it] }) is1 hy1 rfl
      have hb4 : (S1.wNodes S1.nsl S1.ng (S1.nodes.set nd { y with is := s', il := y.il ++ [it], ig := g' })).b = S1.b := rfl
      have hs4 : (S1.wNodes S1.nsl S1.ng (S1.nodes.set nd { y with is := s', il := y.il ++ [it], ig := g' })).src = s := f1.src.trans hsrc
      have hlen : S.nodes.length ≤ S1.nodes.length := by
        have b1 := congrArg List.length is.2.1
        have b2 := congrArg List.length is1.2.1
        simp at b1 b2
        have := a0.nodes
        omega
      have hext : Ext (· = nd) S0 (S1.wNodes S1.nsl S1.ng (S1.nodes.set nd { y with is := s', il := y.il ++ [it], ig := g' })) := by
        refine e0.trans (Ext.trans ?_ Ext.set)
        refine ⟨fun j z hz hj => ?_, hlen, ?_⟩
        · have hjl := (List.getElem?_eq_some_iff.1 hz).1
          have b1 := congrArg List.length is.2.1
          simp at b1
          have hz' : p.nodes[j]? = some z.v := by rw [← is.2.1, List.getElem?_map, hz]; rfl
          have h3 := (av (j + 1)).pre j (by omega) (by omega)
          rw [hz', ← is1.2.1, List.getElem?_map] at h3
          cases hq : S1.nodes[j]? with
          | none => rw [hq] at h3; cases h3
          | some z' => rw [hq] at h3; exact ⟨z', rfl, Option.some.inj h3⟩
        · rw [is.2.2.1, is1.2.2.1]; exact a0.spans
      generalize S1.wNodes S1.nsl S1.ng (S1.nodes.set nd { y with is := s', il := y.il ++ [it], ig := g' }) = S4 at *
      rw [← hb4]
      refine (hC n (by omega) h4 S4 _ nd sp' (k + 1) d last kind r st4 hs4 is4 am.inv ?_ hk2 ?_ hd hr).mono fun x h5 hx => ResC.base hw0 (f01.trans hw0 f4) hext hx
      · refine ⟨{ x with items := x.items ++ [it] }, ?_, hxk⟩
        show (p2.nodes.modify nd _)[nd]? = _
        rw [List.getElem?_modify, hpre, hx]; simp
      · show k + 1 ≤ p2.pos
        have := a0.pos; omega
end Go.Sh
