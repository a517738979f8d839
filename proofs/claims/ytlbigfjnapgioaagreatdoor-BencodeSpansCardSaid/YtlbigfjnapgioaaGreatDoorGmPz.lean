/-
Graphs: the part that is reached, alone. The plain answer and the contracts of kept and Sub.
-/
import Derived.Test.YtlbigfjnapgioaaGreatDoorPza
set_option linter.all false
namespace Go.Sh
open Go Go.Ago Go.Proofs
variable {α β : Type} {h h' h0 : AHeap} {L : List Own} {Q : β → AHeap → Prop}
def kAt : List Bool → Nat → List Int
  | [], _ => []
  | b :: bs, n => (n : Int) :: kAt bs (if b then n + 1 else n)
def mvs (at' : List Int) : List Int → Option (List Int)
  | [] => some []
  | x :: xs => match gt at' x, mvs at' xs with
    | some v, some r => some (v :: r)
    | _, _ => none
def kN (at' : List Int) : List Bool → List NodeV → Option (List NodeV)
  | _, [] => some []
  | [], _ :: _ => none
  | b :: bs, x :: xs => if b then match mvs at' x.keys, mvs at' x.items, kN at' bs xs with
      | some ks, some is, some r => some ({ x with keys := ks, items := is } :: r)
      | _, _, _ => none
    else kN at' bs xs
def kept (k : Nat) (N : List NodeV) (root : Int) : Option (List NodeV × Int) := match vis k N root (List.replicate N.length false) with
  | none => none
  | some ms => match gt (kAt ms 0) root, kN (kAt ms 0) ms N with
    | some r, some N' => some (N', r)
    | _, _ => none
theorem kAt_len : ∀ (bs : List Bool) (n : Nat), (kAt bs n).length = bs.length
  | [], _ => rfl
  | b :: bs, n => by rw [kAt, List.length_cons, kAt_len, List.length_cons]
theorem mvs_len {at' : List Int} : ∀ {xs ys : List Int}, mvs at' xs = some ys → ys.length = xs.length
  | [], ys, he => by cases he; rfl
  | x :: xs, ys, he => by
    rw [mvs] at he
    cases h1 : gt at' x with
    | none => rw [h1] at he; cases he
    | some v =>
      cases h2 : mvs at' xs with
      | none => rw [h1, h2] at he; cases he
      | some r => rw [h1, h2] at he; cases he; rw [List.length_cons, mvs_len h2, List.length_cons]
theorem mvs_get {at' : List Int} : ∀ {xs ys : List Int} {i : Nat} {x : Int}, mvs at' xs = some ys → xs[i]? = some x → ∃ v, gt at' x = some v ∧ ys[i]? = some v
  | [], ys, i, x, he, hx => by simp at hx
  | x :: xs, ys, i, w, he, hx => by
    rw [mvs] at he
    cases h1 : gt at' x with
    | none => rw [h1] at he; cases he
    | some v =>
      cases h2 : mvs at' xs with
      | none => rw [h1, h2] at he; cases he
      | some r =>
        rw [h1, h2] at he; cases he
        cases i with
        | zero => simp at hx; subst hx; exact ⟨v, h1, rfl⟩
        | succ i => have := mvs_get h2 (i := i) (x := w) (by simpa using hx); simpa using this
/-- A list that is filled from its start. -/
theorem fill {ys : List Int} {i : Nat} {v : Int} (hv : ys[i]? = some v) : (ys.take i ++ List.replicate (ys.length - i) 0).set i v = ys.take (i + 1) ++ List.replicate (ys.length - (i + 1)) 0 := by
  have hlt := lt_of_get hv
  have e : ys.length - i = (ys.length - (i + 1)) + 1 := by omega
  rw [List.set_append_right _ _ (by simp; omega), e, List.replicate_succ, List.length_take, Nat.min_eq_left (by omega), Nat.sub_self, List.set_cons_zero, List.take_add_one, hv, List.append_assoc]
  rfl
theorem chk_call {cks : List (Option Addr)} {m : M α} {f : α → M β} {P : α → AHeap → Prop} (ha : ∀ a, some a ∈ cks → ∃ cs e, LB h a.block cs e ∧ ∀ r h', P r h' → LB h' a.block cs e) (hm : Wp m h P) (q : ∀ r h', P r h' → Wp (f r) h' Q) : Wp (M.bind (chk cks m) f) h Q := by
  rw [Wp_bind]
  refine chk_Wp (hm.mono fun r h' hp => ⟨fun a hma => ?_, q r h' hp⟩)
  obtain ⟨cs, e, l1, l2⟩ := ha a hma
  rw [(l2 r h' hp).get, l1.get]
theorem moved_L0 {c9 ba b : Nat} {at' : List Int} {m : Nat} (hm : at'.length = m) {sl : Sl} {xs ys : List Int} (il : IL h0 sl xs) (hl : xs.length < 1073741824) (hy : mvs at' xs = some ys) :
    ∀ (n i : Nat) (h : AHeap) (L : List Own), xs.length - i < n → i ≤ xs.length → Z h0 h (.blk b ((ys.take i ++ List.replicate (ys.length - i) 0).map vi) T_i64 :: .blk c9 [vsl (arr ba m)] T_sl_i64 :: .blk ba (at'.map vi) T_i64 :: L) →
      Wp (graph_kept_1_L0 n (adr c9) (arr b xs.length) sl (sl.len : Int) (i : Int)) h fun _ h' => Z h0 h' (.blk b (ys.map vi) T_i64 :: .blk c9 [vsl (arr ba m)] T_sl_i64 :: .blk ba (at'.map vi) T_i64 :: L) := by
  have hyl := mvs_len hy
  intro n
  induction n with
  | zero => intro i h L h1; omega
  | succ n ih =>
    intro i h L h1 h2 z
    rw [graph_kept_1_L0_succ]
    unfold graph_kept_1_L0_B
    rw [il.len]
    by_cases hi : i < xs.length
    · rw [if_pos (by simp; omega)]
      obtain ⟨x, hx⟩ := getI hi
      obtain ⟨v, hg, hv⟩ := mvs_get hy hx
      refine (il.fr z.fr).ix (by omega) (by simpa using hx) fun a g cl => cl.ld0 (l := li) rfl rfl ?_
      refine z.ld 1 (o := 0) (l := .sl) (x := arr ba m) ?_
      refine z.rdI (c := at') 2 hg hm ?_
      refine ixR (b := b) (m := xs.length) (by omega) (by omega) ?_
      rw [Int.toNat_natCast]
      refine z.stA 0 (xs := ys.take i ++ List.replicate (ys.length - i) 0) (enc := vi) (v := v) (by rw [List.length_append, List.length_take, List.length_replicate]; omega) (fun h3 z => ?_)
      rw [fill hv] at z
      rw [up1 h2 (by omega)]
      have := ih (i + 1) h3 L (by omega) (by omega) z
      rwa [il.len] at this
    · rw [if_neg (by simp; omega), Wp_pure]
      have : i = ys.length := by omega
      subst this
      simpa using z
theorem moved_wp {c9 ba : Nat} {at' : List Int} {m : Nat} (hm : at'.length = m) {sl : Sl} {xs ys : List Int} (il : IL h0 sl xs) (hl : xs.length < 1073741824) (hy : mvs at' xs = some ys) {n : Nat} (hn : xs.length < n)
    (z : Z h0 h (.blk c9 [vsl (arr ba m)] T_sl_i64 :: .blk ba (at'.map vi) T_i64 :: L)) :
    Wp (graph_kept_1 n sl (adr c9)) h fun r h' => ∃ b, r = arr b xs.length ∧ Z h0 h' (.blk b (ys.map vi) T_i64 :: .blk c9 [vsl (arr ba m)] T_sl_i64 :: .blk ba (at'.map vi) T_i64 :: L) := by
  have hyl := mvs_len hy
  unfold graph_kept_1
  rw [il.len]
  refine z.mkA (by omega) (by unfold bigN; omega) fun b h1 z _ => ?_
  rw [Int.toNat_natCast] at z ⊢
  rw [rep_map (enc := vi)] at z
  rw [Wp_bind]
  have := moved_L0 (b := b) hm il hl hy n 0 h1 L (by omega) (by omega) (by rw [hyl]; exact z)
  rw [il.len] at this
  refine this.mono fun _ h2 z => ?_
  rw [Wp_pure]
  exact ⟨b, rfl, z⟩
theorem at_L0 {c9 ba bm : Nat} {ms : List Bool} {m : Nat} (hm : ms.length = m) (hb : m < 1073741824) (a0 a1 : Addr) :
    ∀ (n i c : Nat) (h : AHeap) (L : List Own), m - i < n → i ≤ m → c ≤ i → (kAt ms 0).drop i = kAt (ms.drop i) c → Z h0 h (.blk c9 [vsl (arr ba m)] T_sl_i64 :: .blk ba (((kAt ms 0).take i ++ List.replicate (m - i) 0).map vi) T_i64 :: .blk bm (ms.map .bool) T_bool :: L) →
      Wp (graph_kept_L0 n a0 a1 (arr bm m) (adr c9) (c : Int) (arr bm m) (m : Int) (i : Int)) h fun _ h' => Z h0 h' (.blk c9 [vsl (arr ba m)] T_sl_i64 :: .blk ba ((kAt ms 0).map vi) T_i64 :: .blk bm (ms.map .bool) T_bool :: L) := by
  have hkl : (kAt ms 0).length = m := by rw [kAt_len, hm]
  intro n
  induction n with
  | zero => intro i c h L h1; omega
  | succ n ih =>
    intro i c h L h1 h2 hc hk z
    rw [graph_kept_L0_succ]
    unfold graph_kept_L0_B
    by_cases hi : i < m
    · rw [if_pos (by simp; omega)]
      obtain ⟨b, hbit⟩ := getI (l := ms) (i := i) (by omega)
      obtain ⟨v, hv⟩ := getI (l := kAt ms 0) (i := i) (by omega)
      have hk2 := hk
      rw [drop_cons hv, drop_cons hbit, kAt] at hk2
      have hvc : v = (c : Int) := (List.cons.inj hk2).1
      have hkn := (List.cons.inj hk2).2
      refine z.rdB (c := ms) 2 (v := b) (by unfold gt; rw [if_pos (by omega)]; simpa using hbit) hm ?_
      refine z.ld 0 (o := 0) (l := .sl) (x := arr ba m) ?_
      refine ixR (b := ba) (m := m) (by omega) (by omega) ?_
      rw [Int.toNat_natCast]
      refine z.stA 1 (xs := (kAt ms 0).take i ++ List.replicate (m - i) 0) (enc := vi) (v := (c : Int)) (by rw [List.length_append, List.length_take, List.length_replicate]; omega) (fun h3 z => ?_)
      have hf := fill hv
      rw [hkl, hvc] at hf
      rw [hf] at z
      rw [up1 h2 (by omega)]
      cases b with
      | true =>
        rw [if_pos rfl, up1 hc (by omega)]
        exact ih (i + 1) (c + 1) h3 L (by omega) (by omega) (by omega) hkn z
      | false =>
        rw [if_neg (by simp)]
        exact ih (i + 1) c h3 L (by omega) (by omega) (by omega) hkn z
    · rw [if_neg (by simp; omega), Wp_pure]
      have : i = m := by omega
      subst this
      have e : (kAt ms 0).take i = kAt ms 0 := List.take_of_length_le (by omega)
      rw [e] at z
      simpa using z
/-- A node that was kept, with its lists' blocks. -/
structure KR where
  v : NodeV
  kb : Nat
  ib : Nat
def KR.r (x : KR) : NodeR := ⟨x.v.kind, x.v.text, x.v.ord, arr x.kb x.v.keys.length, x.v.keys, x.kb + 1, arr x.ib x.v.items.length, x.v.items, x.ib + 1⟩
def KR.own (x : KR) : List Own := [.blk x.kb (x.v.keys.map vi) T_i64, .blk x.ib (x.v.items.map vi) T_i64]
def KO (R : List KR) : List Own := R.flatMap KR.own
def KL (x16 c9 ba bm : Nat) (out : Sl) (r : Int) (g m : Nat) (at' : List Int) (ms : List Bool) (R : List KR) : List Own :=
  [.blk c9 [vsl (arr ba m)] T_sl_i64, .blk ba (at'.map vi) T_i64, .blk bm (ms.map .bool) T_bool, .blk x16 [vsl out, vi r] T_api_Graph, .ps out 5 T_api_Node ((R.map KR.r).flatMap NodeR.enc) g]
theorem kN_len {at' : List Int} : ∀ {ms : List Bool} {xs ys : List NodeV}, kN at' ms xs = some ys → ys.length ≤ xs.length
  | _, [], ys, he => by cases ms_ : 0 <;> (rw [kN] at he; cases he; simp)
  | [], _ :: _, ys, he => by cases he
  | b :: bs, x :: xs, ys, he => by
    rw [kN] at he
    cases b with
    | false => rw [if_neg (by simp)] at he; have := kN_len he; simp; omega
    | true =>
      rw [if_pos rfl] at he
      split at he
      · rename_i h1; cases he; have := kN_len h1; simp; omega
      · cases he
theorem kept_L1 {s : Sl} {N : List NodeV} (G : GrR h0 s N) {B : Nat} (hB : Bd N B) {x16 c9 ba bm : Nat} {r : Int} {at' : List Int} {ms : List Bool} (hm : ms.length = N.length) (ha : at'.length = N.length) (a0 : Addr) :
    ∀ (n i : Nat) (N' : List NodeV) (out : Sl) (g : Nat) (R : List KR) (h : AHeap) (L : List Own), B + 5 + (N.length - i) < n → i ≤ N.length → kN at' (ms.drop i) (N.drop i) = some N' → R.length ≤ i → Z h0 h (KL x16 c9 ba bm out r g N.length at' ms R ++ (KO R ++ L)) →
      Wp (graph_kept_L1 n a0 (arr bm N.length) (adr x16) (Value.func (Fn.func F_graph_kept_1) #[] #[pv c9]) s (s.len : Int) (i : Int)) h fun _ h' => ∃ out g R', R'.map KR.v = R.map KR.v ++ N' ∧ Z h0 h' (KL x16 c9 ba bm out r g N.length at' ms R' ++ (KO R' ++ L)) := by
  intro n
  induction n with
  | zero => intro i N' out g R h L h1; omega
  | succ n ih =>
    intro i N' out g R h L h1 h2 hv hR z
    rw [graph_kept_L1_succ]
    unfold graph_kept_L1_B
    rw [G.len]
    by_cases hi : i < N.length
    · rw [if_pos (by simp; omega)]
      obtain ⟨x, hx⟩ := getI hi
      obtain ⟨b, hb⟩ := getI (l := ms) (i := i) (by omega)
      have hbd := hB.2.2 x (List.mem_of_getElem? hx)
      have hBB := hB.2.1
      have hNB := hB.1
      rw [drop_cons hx, drop_cons hb, kN] at hv
      refine G.at z (by omega) (by simpa using hx) fun a ks is nd ik ii => nd.lds ?_
      refine z.node fun x2 h2' z => ?_
      refine z.rdB (c := ms) 3 (v := b) (by unfold gt; rw [if_pos (by omega)]; simpa using hb) hm ?_
      rw [up1 h2 (by omega)]
      cases b with
      | false =>
        rw [if_neg (by simp)] at hv
        rw [if_neg (by simp)]
        have := ih (i + 1) N' out g R h2' L (by omega) (by omega) hv (by omega) z.drop
        rwa [G.len] at this
      | true =>
        rw [if_pos rfl] at hv
        rw [if_pos rfl]
        cases hk : mvs at' x.keys with
        | none => rw [hk] at hv; cases hv
        | some kl =>
        cases hii : mvs at' x.items with
        | none => rw [hk, hii] at hv; cases hv
        | some il =>
        cases hr : kN at' (ms.drop (i + 1)) (N.drop (i + 1)) with
        | none => rw [hk, hii, hr] at hv; cases hv
        | some N2 =>
        rw [hk, hii, hr] at hv
        have hv := Option.some.inj hv
        refine z.ld 0 (o := 3) (l := .sl) (x := ks) ?_
        refine z.ld 0 (o := 4) (l := .sl) (x := is) ?_
        have zc := z
        have z := Z.permBy (pre := [_, _, _]) z [1, 2, 0] (by simp only [List.length_cons, List.length_nil]; decide)
        unfold graph_kept_D59
        rw [if_pos (by rfl)]
        refine chk_call (P := fun rr h' => ∃ b, rr = arr b x.keys.length ∧ Z h0 h' (.blk b (kl.map vi) T_i64 :: .blk c9 [vsl (arr ba N.length)] T_sl_i64 :: .blk ba (at'.map vi) T_i64 :: .blk x2 [vi x.kind, .string x.text, .bool x.ord, vsl ks, vsl is] T_api_Node :: .blk bm (ms.map .bool) T_bool :: .blk x16 [vsl out, vi r] T_api_Graph :: .ps out 5 T_api_Node ((R.map KR.r).flatMap NodeR.enc) g :: (KO R ++ L))) ?_ ?_ fun r1 h3 hr1 => ?_
        · intro a' ha'
          simp only [List.mem_cons, Option.some.injEq, List.not_mem_nil, or_false] at ha'
          subst ha'
          refine ⟨_, _, zc.get 0 rfl, fun r1 h3 hr1 => ?_⟩
          obtain ⟨b, _, z⟩ := hr1
          exact z.get 3 rfl
        · rw [Wp_bind]
          refine Wp_asFn (c := adr c9) rfl ?_
          exact moved_wp ha ik (by omega) hk (by omega) z
        obtain ⟨kb, rfl, z⟩ := hr1
        have z := Z.permBy (pre := [_, _, _]) z [1, 2, 0] (by simp only [List.length_cons, List.length_nil]; decide)
        unfold graph_kept_D63
        rw [if_pos (by rfl), Wp_bind, Wp_bind]
        refine Wp_asFn (c := adr c9) rfl ?_
        refine (moved_wp ha ii (by omega) hii (by omega) z).mono fun r2 h4 hr2 => ?_
        obtain ⟨ib, rfl, z⟩ := hr2
        refine z.st 4 (cs := [vi x.kind, .string x.text, .bool x.ord, vsl ks, vsl is]) (fun h5 z => z.st 4 (cs := [vi x.kind, .string x.text, .bool x.ord, vsl (arr kb x.keys.length), vsl is]) (fun h6 z => ?_))
        refine z.ld 6 (o := 0) (l := .sl) (x := out) ?_
        refine z.lds 4 (ls := [li, .str, .bool, .sl, .sl]) (x := (x.kind, x.text, x.ord, arr kb x.keys.length, arr ib x.items.length)) ?_
        have hps : PSl h6 out 5 T_api_Node ((R.map KR.r).flatMap NodeR.enc) g := z.get 7 rfl
        have hol : out.len = R.length := by
          have := hps.1
          rw [flat_length NodeR.enc_len, List.length_map] at this
          omega
        refine z.appP 7 (new := [vi x.kind, .string x.text, .bool x.ord, vsl (arr kb x.keys.length), vsl (arr ib x.items.length)]) rfl (by decide) rfl (by show out.len + 1 ≤ bigN; unfold bigN; omega) fun out' h7 g' ho z _ => ?_
        refine z.st 6 fun h8 z => ?_
        have hkl := mvs_len hk
        have hil := mvs_len hii
        let nw : KR := ⟨{ x with keys := kl, items := il }, kb, ib⟩
        have henc : ((R ++ [nw]).map KR.r).flatMap NodeR.enc = (R.map KR.r).flatMap NodeR.enc ++ [vi x.kind, .string x.text, .bool x.ord, vsl (arr kb x.keys.length), vsl (arr ib x.items.length)] := by
          rw [List.map_append, List.flatMap_append]
          congr 1
          show NodeR.enc nw.r ++ [] = _
          rw [List.append_nil]
          show [vi x.kind, .string x.text, .bool x.ord, vsl (arr kb kl.length), vsl (arr ib il.length)] = _
          rw [hkl, hil]
        have z := Z.permBy (pre := [_, _, _, _, _, _, _, _]) z [4, 1, 2, 5, 6, 7, 3, 0] (by simp only [List.length_cons, List.length_nil]; decide)
        have z := z.drop
        have z : Z h0 h8 (KL x16 c9 ba bm out' r g' N.length at' ms (R ++ [nw]) ++ (nw.own ++ (KO R ++ L))) := by
          unfold KL
          rw [henc]
          exact z
        have z : Z h0 h8 (KL x16 c9 ba bm out' r g' N.length at' ms (R ++ [nw]) ++ (KO (R ++ [nw]) ++ L)) := by
          refine z.perm (List.Perm.append_left _ ?_)
          unfold KO
          rw [List.flatMap_append, ← List.append_assoc]
          refine List.Perm.append_right _ ?_
          show List.Perm (nw.own ++ R.flatMap KR.own) (R.flatMap KR.own ++ (nw.own ++ []))
          rw [List.append_nil]
          exact List.perm_append_comm
        have := ih (i + 1) N2 out' g' (R ++ [nw]) h8 L (by omega) (by omega) hr (by simp; omega) z
        rw [G.len] at this
        refine this.mono fun _ h9 hx9 => ?_
        obtain ⟨out2, g2, R2, e1, z⟩ := hx9
        refine ⟨out2, g2, R2, ?_, z⟩
        rw [e1, ← hv, List.map_append, List.append_assoc]; rfl
    · rw [if_neg (by simp; omega), Wp_pure]
      have e1 : N.drop i = [] := List.drop_eq_nil_of_le (by omega)
      rw [e1] at hv
      have : N' = [] := by
        cases hms : ms.drop i <;> (rw [hms, kN] at hv; cases hv; rfl)
      subst this
      exact ⟨out, g, R, by simp, z⟩
theorem kept_wp {s : Sl} {root : Int} {N : List NodeV} (z : Z h0 h L) (G : GrR h0 s N) {B : Nat} (hB : Bd N B) {k n : Nat} (hk : k ≤ n) (hn : 2 * B + 6 < n) {N' : List NodeV} {r : Int} (hv : kept k N root = some (N', r)) :
    Wp (graph_kept n (s, root)) h fun x h' => ∃ out g R, x = (out, r) ∧ R.map KR.v = N' ∧ Z h0 h' (.ps out 5 T_api_Node ((R.map KR.r).flatMap NodeR.enc) g :: (KO R ++ L)) := by
  have hNB := hB.1
  have hBB := hB.2.1
  unfold kept at hv
  cases hvis : vis k N root (List.replicate N.length false) with
  | none => rw [hvis] at hv; cases hv
  | some ms =>
  rw [hvis] at hv
  simp only at hv
  cases hg : gt (kAt ms 0) root with
  | none => rw [hg] at hv; cases hv
  | some r1 =>
  cases hN : kN (kAt ms 0) ms N with
  | none => rw [hg, hN] at hv; cases hv
  | some N1 =>
  rw [hg, hN] at hv
  simp only [Option.some.injEq, Prod.mk.injEq] at hv
  obtain ⟨rfl, rfl⟩ := hv
  have hms : ms.length = N.length := by have := (vis_len k N).1 _ _ _ hvis; simpa using this
  have hkl : (kAt ms 0).length = N.length := by rw [kAt_len, hms]
  unfold graph_kept
  refine z.new fun x0 h1 z _ => z.new fun x1 h2 z _ => ?_
  refine z.ld 1 (o := 0) (l := .sl) (x := s) ?_
  rw [G.len]
  refine z.mkA (by omega) (by unfold bigN; omega) fun bm h3 z _ => ?_
  rw [Int.toNat_natCast] at z ⊢
  rw [rep_map (enc := Value.bool)] at z
  refine z.lds 2 (ls := [.sl, li]) (x := (s, root)) ?_
  refine z.ld 2 (o := 1) (l := li) (x := root) ?_
  rw [Wp_bind]
  have hw := reached_wp (cap := N.length + 1) z G hB hvis (n := n) (root := root) hk
  rw [List.length_replicate] at hw
  refine hw.mono fun _ h4 z => ?_
  refine z.ld 2 (o := 0) (l := .sl) (x := s) ?_
  rw [G.len]
  refine z.mkA (by omega) (by unfold bigN; omega) fun ba h5 z _ => ?_
  rw [Int.toNat_natCast] at z ⊢
  rw [rep_map (enc := vi)] at z
  refine z.new fun c9 h6 z _ => z.st 0 fun h7 z => ?_
  rw [Wp_bind]
  refine (at_L0 (m := N.length) hms (by omega) (adr x0) (adr x1) n 0 0 h7 _ (by omega) (by omega) (by omega) rfl z).mono fun _ h8 z => ?_
  refine z.ld 0 (o := 0) (l := .sl) (x := arr ba N.length) ?_
  refine z.ld 4 (o := 1) (l := li) (x := root) ?_
  refine z.rdI (c := kAt ms 0) 1 hg hkl ?_
  refine z.new fun x16 h9 z _ => z.st 0 fun h10 z => ?_
  refine z.ld 5 (o := 0) (l := .sl) (x := s) ?_
  have z := z.add (Fr.refl z.wf) (o := .ps ⟨none, 0, 0⟩ 5 T_api_Node [] 0) PSl.nil (.inl rfl)
  have z := Z.permBy (pre := [_, _, _, _, _]) z [2, 3, 4, 1, 0] (by simp only [List.length_cons, List.length_nil]; decide)
  rw [Wp_bind]
  refine (kept_L1 G hB (x16 := x16) (c9 := c9) (ba := ba) (bm := bm) (r := r1) hms hkl (adr x1) n 0 N1 ⟨none, 0, 0⟩ 0 [] h10 _ (by omega) (by omega) (by simpa using hN) (by simp) z).mono fun _ h11 hx => ?_
  obtain ⟨out, g, R, e, z⟩ := hx
  refine z.lds 3 (ls := [.sl, li]) (x := (out, r1)) ?_
  have z := z.perm (L' := .blk x1 [vsl0, vi 0] T_api_Graph :: (KL x16 c9 ba bm out r1 g N.length (kAt ms 0) ms R ++ KO R ++ .blk x0 [vsl s, vi root] T_api_Graph :: L)) (by
    rw [← List.append_assoc]
    exact List.perm_middle)
  refine z.st 0 fun h12 z => ?_
  refine z.lds 0 (ls := [.sl, li]) (x := (out, r1)) ?_
  rw [Wp_pure]
  refine ⟨out, g, R, rfl, by simpa using e, ?_⟩
  refine z.drop.sub ?_
  show List.Sublist _ (_ :: _ :: _ :: _ :: _ :: (KO R ++ _ :: L))
  exact List.Sublist.cons _ (List.Sublist.cons _ (List.Sublist.cons _ (List.Sublist.cons _ (List.Sublist.cons₂ _ ((List.Sublist.refl (KO R)).append (List.sublist_cons_self _ L))))))
theorem KO_GrR {out : Sl} {g : Nat} {R : List KR} (z : Z h0 h (.ps out 5 T_api_Node ((R.map KR.r).flatMap NodeR.enc) g :: (KO R ++ L))) : GrR h out (R.map KR.v) := by
  have hps : PSl h out 5 T_api_Node ((R.map KR.r).flatMap NodeR.enc) g := z.get 0 rfl
  refine ⟨R.map KR.r, g, by rw [List.map_map]; rfl, hps.rsl, fun x hx => ?_⟩
  obtain ⟨y, hy, rfl⟩ := List.mem_map.1 hx
  have hsub : ∀ o ∈ KR.own y, o.ok h := fun o ho => (z.own o (List.mem_cons_of_mem _ (List.mem_append_left _ (List.mem_flatMap.2 ⟨y, hy, ho⟩)))).1
  have l1 : LB h y.kb (y.v.keys.map vi) T_i64 := hsub (.blk y.kb (y.v.keys.map vi) T_i64) (by simp [KR.own])
  have l2 : LB h y.ib (y.v.items.map vi) T_i64 := hsub (.blk y.ib (y.v.items.map vi) T_i64) (by simp [KR.own])
  exact ⟨⟨_, l1.rsl (by simp)⟩, ⟨_, l2.rsl (by simp)⟩⟩
theorem Sub_wp {s : Sl} {root node : Int} {N : List NodeV} (z : Z h0 h L) (G : GrR h0 s N) {B : Nat} (hB : Bd N B) (ht : ∀ x ∈ N, x.text.size ≤ 65536) {k n : Nat} (hn : k + 4 * B + 65600 < n) (hc : gcheck k N root = some 0) (h1 : 0 ≤ node) (h2 : node < N.length)
    {N' : List NodeV} {r : Int} (hv : kept k N node = some (N', r)) :
    Wp (graph_Sub n (s, root) node) h fun x h' => ∃ out g R, x = ((out, r), 0) ∧ R.map KR.v = N' ∧ Z h0 h' (.ps out 5 T_api_Node ((R.map KR.r).flatMap NodeR.enc) g :: (KO R ++ L)) := by
  unfold graph_Sub
  refine z.new fun x0 h1' z _ => z.new fun x1 h2' z _ => ?_
  refine z.lds 1 (ls := [.sl, li]) (x := (s, root)) ?_
  rw [Wp_bind]
  refine (Check_wp z G hB ht hn hc).mono fun y h3 hy => ?_
  obtain ⟨rfl, z⟩ := hy
  rw [if_neg (by simp), if_neg (by simp; omega)]
  refine z.ld 1 (o := 0) (l := .sl) (x := s) ?_
  rw [G.len, if_neg (by simp; omega)]
  refine z.ld 1 (o := 0) (l := .sl) (x := s) ?_
  rw [Wp_bind]
  refine (kept_wp z G hB (by omega) (by omega) hv).mono fun y h4 hy => ?_
  obtain ⟨out, g, R, rfl, e, z⟩ := hy
  have z := z.perm (L' := .blk x1 [vsl0, vi 0] T_api_Graph :: (.ps out 5 T_api_Node ((R.map KR.r).flatMap NodeR.enc) g :: KO R ++ .blk x0 [vsl s, vi root] T_api_Graph :: L)) (by
    show List.Perm (_ :: KO R ++ _ :: (_ :: L)) _
    exact List.perm_middle)
  refine z.st 0 fun h5 z => ?_
  refine z.lds 0 (ls := [.sl, li]) (x := (out, r)) ?_
  rw [Wp_pure]
  refine ⟨out, g, R, rfl, e, z.drop.sub ?_⟩
  exact List.Sublist.cons₂ _ ((List.Sublist.refl (KO R)).append (List.sublist_cons_self _ L))
end Go.Sh
