/-
The law on spans: it answers true for every string.
-/
import Derived.Test.YtlbigfjnapgioaaGreatDoorPzb
import Derived.Test.YtlbigfjnapgioaaGreatDoorGxPz
import Derived.Test.YtlbigfjnapgioaaGreatDoorAw
set_option linter.all false
namespace Go.Sh
open Go Go.Ago Go.Proofs
variable {β : Type} {h h' h0 : AHeap} {L : List Own} {Q : β → AHeap → Prop} {S : PSt}
theorem St.gr (st : St h S) : GrR h S.nsl (S.nodes.map NodeR.v) := by
  refine ⟨S.nodes, S.ng, rfl, st.nodes.rsl, fun x hx => ?_⟩
  obtain ⟨i, hi⟩ := List.mem_iff_getElem?.1 hx
  exact ⟨⟨_, (st.keys i x hi).rsl⟩, ⟨_, (st.items i x hi).rsl⟩⟩
theorem Cl.sub {a : Addr} {vs : List Value} {g o n : Nat} (c : Cl h a vs g) (ho : o + n ≤ vs.length) : Cl h (a.plus o) ((vs.drop o).take n) g := by
  obtain ⟨h1, c, base, e, h2, h3, h4⟩ := c
  have hl : ((vs.drop o).take n).length = n := by simp; omega
  refine ⟨rfl, c, base, e, h2, ?_, ?_⟩
  · show a.off + o + _ ≤ _
    rw [hl]; omega
  · show (c.drop (a.off + o)).take _ = _
    rw [hl]
    conv => rhs; rw [← h4]
    rw [List.drop_take, List.take_take, List.drop_drop]
    congr 1; omega
theorem Pt.extract {s : ByteArray} {f : Nat} {l : List UInt8} (p : Pt s.data.toList f l) : (s.extract f (f + l.length)).data.toList = l := by
  obtain ⟨P, S, h1, h2⟩ := p
  rw [ex_list, h1, ← h2, Nat.add_sub_cancel_left, List.drop_left, List.take_left]
mutual
theorem nsp_le : ∀ (v : BTv), nsp v ≤ nsz v
  | .int _ => Nat.le_refl _
  | .str _ => Nat.le_refl _
  | .list l => by have := nspL_le l; rw [nsp, nsz]; omega
  | .map l => by have := nspD_le l; rw [nsp, nsz]; omega
theorem nspL_le : ∀ (l : BTl), nspL l ≤ nszL l
  | .nil => Nat.le_refl _
  | .cons v l => by have := nsp_le v; have := nspL_le l; rw [nspL, nszL]; omega
theorem nspD_le : ∀ (l : BTd), nspD l ≤ nszD l
  | .nil => Nat.le_refl _
  | .cons k v l => by have := nsp_le v; have := nspD_le l; rw [nspD, nszD]; omega
end
theorem Bd_tree (v : BTv) (hn : nsz v ≤ 4096) : Bd (nds 0 v) 4096 := by
  have h1 := refs_len v 0
  refine ⟨by rw [nds_len]; exact hn, by omega, fun x hx => ?_⟩
  have h2 : (refs x).length ≤ (refsL (nds 0 v)).length := (List.sublist_flatten_of_mem (List.mem_map_of_mem hx)).length_le
  unfold refs at h2
  rw [List.length_append] at h2
  omega
theorem spans_L0 {s : ByteArray} {v : BTv} (hs : s.size ≤ 200) (hv : okV 0 v) (he : s.data.toList = enc v) (hn4 : nsz v ≤ 4096) {h1 : AHeap} {nsl ssl : Sl} {sg : Nat} (G : GrR h1 nsl (nds 0 v)) (ht : ∀ x ∈ nds 0 v, x.text.size ≤ 65536)
    (R : RSl h1 ssl 9 ((sps 0 0 0 (-1) 0 0 0 v).flatMap SpanV.enc) sg) {b : Nat} :
    ∀ (n i : Nat) (h : AHeap), (sps 0 0 0 (-1) 0 0 0 v).length - i + 300000 < n → i ≤ (sps 0 0 0 (-1) 0 0 0 v).length → Z h1 h [.blk b [vi 5, .string s, vsl nsl, vi 0, vsl ssl, vsl sl0] T_api_Doc] →
      Wp (rosettalaw34_BencodeSpans_L0 n s (adr b) 0 (i : Int)) h fun y h' => y = .inl () ∧ Z h1 h' [.blk b [vi 5, .string s, vsl nsl, vi 0, vsl ssl, vsl sl0] T_api_Doc] := by
  intro n
  induction n with
  | zero => intro i h h1; omega
  | succ n ih =>
    intro i h hn hi z
    have hsl : ssl.len = (sps 0 0 0 (-1) 0 0 0 v).length := by
      have := R.1
      rw [flat_length SpanV.enc_len] at this; omega
    rw [rosettalaw34_BencodeSpans_L0_succ]
    unfold rosettalaw34_BencodeSpans_L0_B
    rw [if_pos (by rfl)]
    refine z.ld 0 (o := 4) (l := .sl) (x := ssl) ?_
    by_cases hlt : i < (sps 0 0 0 (-1) 0 0 0 v).length
    · rw [if_pos (by simp; omega)]
      obtain ⟨x, hx⟩ := getI hlt
      unfold rosettalaw34_BencodeSpans_L0_J0_B
      refine z.ld 0 (o := 4) (l := .sl) (x := ssl) ?_
      refine (R.fr z.fr fun h => h.elim).ixN SpanV.enc_len (by omega) (by omega) (by simpa using hx) fun a c => ?_
      refine c.lds (ls := [li, li, li, li, li, li, li, .bool, .bool]) (x := (x.node, x.parent, x.entry, x.frm, x.to, x.kf, x.kt, x.alias, x.whole)) rfl ?_
      obtain ⟨⟨v', d, nb, f, o1, o2, o3, o4, o5, o6⟩, wh, al⟩ := spans_ok v 0 0 0 0 (-1) 0 0 0 hv (Pt.self _) (by rw [he] at *; exact Pt.self _) x (List.mem_of_getElem? hx)
      obtain ⟨xn, xp, xe, xf, xt, xkf, xkt, xa, xw⟩ := x
      simp only at o2 o4 o5 wh al
      subst o2 o4 o5 wh al
      have hle := o6.le
      have hsl2 : (enc v).length = s.size := by rw [← he, size_toList]
      have hcut := Pt.extract (s := s) (f := f) (l := enc v') (by rw [he]; exact o6)
      refine z.new fun b3 h2 z _ => z.st 0 (o := 0) (cs' := SpanV.enc ⟨nb, xp, xe, f, ((f + (enc v').length : Nat) : Int), xkf, xkt, false, true⟩) fun h3 z => ?_
      refine z.ld 0 (o := 3) (l := li) (x := (f : Int)) ?_
      refine z.ld 0 (o := 4) (l := li) (x := ((f + (enc v').length : Nat) : Int)) ?_
      rw [Wp_bind, Wp_sliceS]
      refine ⟨by omega, by omega, by omega, ?_⟩
      rw [Int.toNat_natCast, Int.toNat_natCast]
      have hsz : (s.extract f (f + (enc v').length)).size = (enc v').length := by rw [← size_toList, hcut]
      generalize hu : s.extract f (f + (enc v').length) = u at *
      have hn' : nsz v' ≤ 4096 := by have := o3.le; rw [nds_len, nds_len] at this; omega
      have hpar := cpl_parse (s := u) (m := 600) (by omega) (by omega) (okV_mono (Nat.zero_le d) o1) hcut hn'
      rw [Wp_bind]
      refine (bencode_Parse_wp z.wf (by omega) hpar).mono fun y h4 hy => ?_
      obtain ⟨fr4, S, st, _, rfl, hnodes, _⟩ := hy
      have G4 : GrR h4 S.nsl (nds 0 v') := by have := St.gr st; rw [hnodes] at this; exact this
      have z4 := z.pure fr4
      have Gd : GrR h4 nsl (nds 0 v) := G.fr z4.fr
      have cs : Cl h4 ⟨b3, 0, none⟩ (SpanV.enc ⟨nb, xp, xe, f, ((f + (enc v').length : Nat) : Int), xkf, xkt, false, true⟩) (b3 + 1) := z4.cl 0 rfl
      have cd : Cl h4 ⟨b, 0, none⟩ [vi 5, .string s, vsl nsl, vi 0, vsl ssl, vsl sl0] (b + 1) := z4.cl 1 rfl
      have w : Z h4 h4 [] := Z.start z4.wf
      refine w.new fun b9 h5 w _ => w.st 0 (o := 0) (cs' := [vi 5, .string u, vsl S.nsl, vi 0, vsl S.ssl, vsl sl0]) fun h6 w => ?_
      have cd2 : Cl h4 ((adr b).plus 2) [vsl nsl, vi 0] (b + 1) := Cl.sub (n := 2) cd (by simp)
      refine (cd2.fr w.fr fun h => h.elim).lds (ls := [.sl, li]) (x := (nsl, 0)) rfl ?_
      refine (cs.fr w.fr fun h => h.elim).ld (o := 0) (l := li) (x := (nb : Int)) rfl rfl ?_
      have hB := Bd_tree v hn4
      have hplen := o3.le
      rw [nds_len, nds_len] at hplen
      have hp := nsz_pos v'
      rw [Wp_bind]
      refine (Sub_wp (root := 0) (node := nb) (k := 33 * (4096 + 4)) w Gd hB ht (by omega) (gcheck_tree hv hn4 (by omega)) (by omega) (by rw [nds_len]; omega) (kept_tree o3 (by omega))).mono fun y h7 hy => ?_
      obtain ⟨out, g, KRs, rfl, hK, w⟩ := hy
      have Gk : GrR h7 out (nds 0 v') := by have := KO_GrR w; rw [hK] at this; exact this
      have w2 : Z h7 h7 [] := Z.start w.wf
      have c9 : Cl h7 ⟨b9, 0, none⟩ [vi 5, .string u, vsl S.nsl, vi 0, vsl S.ssl, vsl sl0] (b9 + 1) := by
        have hm : Own.blk b9 [vi 5, .string u, vsl S.nsl, vi 0, vsl S.ssl, vsl sl0] T_api_Doc ∈ (.ps out 5 T_api_Node ((KRs.map KR.r).flatMap NodeR.enc) g :: (KO KRs ++ [.blk b9 [vi 5, .string u, vsl S.nsl, vi 0, vsl S.ssl, vsl sl0] T_api_Doc]) : List Own) := by simp
        exact LB.cl (w.own _ hm).1
      have fr7 := w.fr
      refine w2.new fun b14 h8 w2 _ => w2.st 0 (o := 0) (cs' := [vsl out, vi 0]) fun h9 w2 => ?_
      rw [if_neg (by simp), if_neg (by simp)]
      have c92 : Cl h7 ((adr b9).plus 2) [vsl S.nsl, vi 0] (b9 + 1) := Cl.sub (n := 2) c9 (by simp)
      refine (c92.fr w2.fr fun h => h.elim).lds (ls := [.sl, li]) (x := (S.nsl, 0)) rfl ?_
      refine w2.lds 0 (ls := [.sl, li]) (x := (out, 0)) ?_
      rw [Wp_bind]
      refine (Ident_wp w2 (G4.fr fr7) Gk (Bd_tree v' hn') (by omega)).mono fun y h10 hy => ?_
      obtain ⟨rfl, w2⟩ := hy
      rw [if_neg (by simp)]
      have cs7 : Cl h10 ⟨b3, 0, none⟩ (SpanV.enc ⟨nb, xp, xe, f, ((f + (enc v').length : Nat) : Int), xkf, xkt, false, true⟩) (b3 + 1) := (cs.fr fr7 fun h => h.elim).fr w2.fr fun h => h.elim
      refine cs7.ld (o := 8) (l := .bool) (x := true) rfl rfl ?_
      rw [if_neg (by simp)]
      refine cs7.ld (o := 7) (l := .bool) (x := false) rfl rfl ?_
      rw [if_neg (by simp)]
      have z10 := ((z4.pure fr7).pure w2.fr).drop
      rw [up1 hi (by have := sps_len 0 0 0 (-1) 0 0 0 v; have := nsp_le v; omega)]
      exact ih (i + 1) h10 (by omega) (by omega) z10
    · rw [if_neg (by simp; omega), Wp_pure]; exact ⟨rfl, z⟩
mutual
theorem txt_le : ∀ (v : BTv) (b : Nat), ∀ x ∈ nds b v, x.text.size ≤ (enc v).length
  | .int t, b, x, hx => by
    rw [nds, List.mem_singleton] at hx
    subst hx
    have := size_toList t
    simp only [enc, List.length_cons, List.length_append, List.length_nil]; omega
  | .str t, b, x, hx => by
    rw [nds, List.mem_singleton] at hx
    subst hx
    have := size_toList t
    simp only [enc, encS, List.length_cons, List.length_append]; omega
  | .list l, b, x, hx => by
    rw [nds] at hx
    simp only [enc, List.length_cons, List.length_append, List.length_nil]
    rcases List.mem_cons.1 hx with rfl | hx
    · exact Nat.zero_le _
    · have := txtL_le l _ x hx; omega
  | .map l, b, x, hx => by
    rw [nds] at hx
    simp only [enc, List.length_cons, List.length_append, List.length_nil]
    rcases List.mem_cons.1 hx with rfl | hx
    · exact Nat.zero_le _
    · have := txtD_le l _ x hx; omega
theorem txtL_le : ∀ (l : BTl) (b : Nat), ∀ x ∈ ndsL b l, x.text.size ≤ (encL l).length
  | .nil, b, x, hx => by rw [ndsL] at hx; cases hx
  | .cons v l, b, x, hx => by
    rw [ndsL] at hx
    simp only [encL, List.length_append]
    rcases List.mem_append.1 hx with hx | hx
    · have := txt_le v _ x hx; omega
    · have := txtL_le l _ x hx; omega
theorem txtD_le : ∀ (l : BTd) (b : Nat), ∀ x ∈ ndsD b l, x.text.size ≤ (encD l).length
  | .nil, b, x, hx => by rw [ndsD] at hx; cases hx
  | .cons k v l, b, x, hx => by
    rw [ndsD] at hx
    simp only [encD, List.length_append]
    rcases List.mem_cons.1 hx with rfl | hx
    · have := size_toList k
      simp only [encS, List.length_append, List.length_cons]; omega
    · rcases List.mem_append.1 hx with hx | hx
      · have := txt_le v _ x hx; omega
      · have := txtD_le l _ x hx; omega
end
theorem spans_wp (s : ByteArray) (h : AHeap) (hw : WF h) : Wp (rosettalaw34_BencodeSpans 500000 s) h fun x _ => x = true := by
  have aw : ∀ {h1 : AHeap}, WF h1 → Wp (M.bind (rosettalaw34_awake 500000) fun x => M.pure x) h1 fun x _ => x = true := fun hw1 => by
    rw [Wp_bind]
    refine (awake_wp hw1 (by omega)).mono fun x h2 hx => ?_
    rw [Wp_pure]; exact hx.1
  unfold rosettalaw34_BencodeSpans
  by_cases hbig : (200 : Int) < (s.size : Int)
  · rw [if_pos (by simpa using hbig)]; exact aw hw
  rw [if_neg (by simpa using hbig)]
  have hs : s.size ≤ 200 := by omega
  obtain ⟨r, hr⟩ := spParse_some s 600 (by omega)
  rw [Wp_bind]
  refine (bencode_Parse_wp hw (by omega) hr).mono fun x h1 hx => ?_
  obtain ⟨f1, hx⟩ := hx
  have w : Z h1 h1 [] := Z.start f1.wf
  cases r with
  | error e =>
    obtain ⟨rfl, he⟩ := hx
    refine w.new fun b h2 w _ => w.st 0 (o := 0) (cs' := [vi 0, .string (ofBytes []), vsl sl0, vi 0, vsl sl0, vsl sl0]) fun h3 w => ?_
    rw [Wp_bind, show (500000 : Nat) = 499999 + 1 from rfl, rosettalaw34_BencodeSpans_L0_succ]
    unfold rosettalaw34_BencodeSpans_L0_B
    rw [if_neg (by simpa using he), Wp_pure]
    exact aw w.wf
  | ok p =>
    obtain ⟨S, st, _, rfl, hN, hS⟩ := hx
    obtain ⟨v, v1, v2, v3, rfl⟩ := snd_parse hr
    have hnn := sizes_ok hr
    simp only at hN hS hnn
    rw [nds_len] at hnn
    have G : GrR h1 S.nsl (nds 0 v) := by have := St.gr st; rw [hN] at this; exact this
    have R : RSl h1 S.ssl 9 ((sps 0 0 0 (-1) 0 0 0 v).flatMap SpanV.enc) S.sg := by have := OSl.rsl st.spans; rw [hS] at this; exact this
    refine w.new fun b h2 w _ => w.st 0 (o := 0) (cs' := [vi 5, .string s, vsl S.nsl, vi 0, vsl S.ssl, vsl sl0]) fun h3 w => ?_
    rw [Wp_bind]
    have hsl : (enc v).length = s.size := by rw [← v2, size_toList]
    have := sps_len 0 0 0 (-1) 0 0 0 v
    have := nsp_le v
    refine (spans_L0 hs v1 v2 hnn G (fun x hx => by have := txt_le v 0 x hx; omega) R 500000 0 h3 (by omega) (by omega) w).mono fun y h4 hy => ?_
    obtain ⟨rfl, w⟩ := hy
    exact aw w.wf
end Go.Sh
