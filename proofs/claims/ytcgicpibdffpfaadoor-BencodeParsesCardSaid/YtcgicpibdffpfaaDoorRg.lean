/-
The plain bencode parser and a change of an older node: they commute. No theorem about the program stands here.
-/
import Derived.Test.YtcgicpibdffpfaaDoorSp
set_option linter.all false
namespace Go.Sh
open Go Go.Ago Go.Proofs
def md (nd : Nat) (f : NodeV → NodeV) (p : PV) : PV := { p with nodes := p.nodes.modify nd f }
def mapN (g : PV → PV) : Rs (Int × PV) → Rs (Int × PV)
  | .error e => .error e
  | .ok (n, p) => .ok (n, g p)
def mapP (g : PV → PV) : Rs PV → Rs PV
  | .error e => .error e
  | .ok p => .ok (g p)
theorem modify_append {α : Type} {nd : Nat} {f : α → α} {L : List α} {x : α} (h : nd < L.length) : L.modify nd f ++ [x] = (L ++ [x]).modify nd f := by
  apply List.ext_getElem?
  intro j
  rw [List.getElem?_modify, List.getElem?_append, List.getElem?_append, List.length_modify, List.getElem?_modify]
  by_cases hj : j < L.length
  · rw [if_pos hj, if_pos hj]
  · rw [if_neg hj, if_neg hj]
    cases [x][j - L.length]? with
    | none => rfl
    | some y => simp; omega
theorem modify_comm {α : Type} {i j : Nat} {f g : α → α} {L : List α} (h : i ≠ j) : (L.modify i f).modify j g = (L.modify j g).modify i f := by
  apply List.ext_getElem?
  intro k
  simp only [List.getElem?_modify]
  cases L[k]? with
  | none => rfl
  | some y =>
    by_cases h1 : i = k
    · by_cases h2 : j = k
      · omega
      · simp [h1, h2]
    · by_cases h2 : j = k
      · simp [h1, h2]
      · simp [h1, h2]
theorem spNode_md {nd : Nat} {f : NodeV → NodeV} {p : PV} {x : NodeV} {a d : Nat} (h : nd < p.nodes.length) : spNode (md nd f p) x a d = mapN (md nd f) (spNode p x a d) := by
  unfold spNode md
  simp only [List.length_modify]
  split
  · rfl
  · split
    · rfl
    · simp only [mapN]
      rw [modify_append h]
theorem spNode_grow {p p2 : PV} {x : NodeV} {a d : Nat} {n : Int} (h : spNode p x a d = .ok (n, p2)) : p.nodes.length ≤ p2.nodes.length := by
  obtain ⟨_, rfl, _, _⟩ := spNode_ok h
  simp
theorem spInt_md {s : ByteArray} {nd : Nat} {f : NodeV → NodeV} {p : PV} {d : Nat} (h : nd < p.nodes.length) : spInt s (md nd f p) d = mapN (md nd f) (spInt s p d) := by
  unfold spInt
  have e : (md nd f p).pos = p.pos := rfl
  rw [e]
  cases (s.data.toList.drop p.pos).findIdx? (fun b => b == 101) with
  | none => rfl
  | some j =>
    simp only
    split
    · exact spNode_md (p := { p with pos := p.pos + j + 1 }) h
    · rfl
theorem spStr_md {s : ByteArray} {nd : Nat} {f : NodeV → NodeV} {p : PV} {d : Nat} (h : nd < p.nodes.length) : spStr s (md nd f p) d = mapN (md nd f) (spStr s p d) := by
  unfold spStr
  have e : (md nd f p).pos = p.pos := rfl
  rw [e]
  cases spText s p.pos with
  | error e => rfl
  | ok q => exact spNode_md (p := { p with pos := q.2 }) h
theorem spInt_grow {s : ByteArray} {p p2 : PV} {d : Nat} {n : Int} (h : spInt s p d = .ok (n, p2)) : p.nodes.length ≤ p2.nodes.length := by
  unfold spInt at h
  split at h
  · cases h
  · split at h
    · have g := spNode_grow h; exact g
    · cases h
theorem spStr_grow {s : ByteArray} {p p2 : PV} {d : Nat} {n : Int} (h : spStr s p d = .ok (n, p2)) : p.nodes.length ≤ p2.nodes.length := by
  unfold spStr at h
  split at h
  · cases h
  · have g := spNode_grow h; exact g
structure Comm (G : SpF) : Prop where
  V : ∀ sn d p nd f, nd < p.nodes.length → G.V sn d (md nd f p) = (G.V sn d p).map (mapN (md nd f))
  gV : ∀ sn d p n p2, G.V sn d p = some (.ok (n, p2)) → p.nodes.length ≤ p2.nodes.length
  L : ∀ (node : Int) sp k d p nd f, nd < p.nodes.length → nd ≠ node.toNat → G.L node sp k d (md nd f p) = (G.L node sp k d p).map (mapP (md nd f))
  gL : ∀ node sp k d p p2, G.L node sp k d p = some (.ok p2) → p.nodes.length ≤ p2.nodes.length
  D : ∀ (node : Int) sp k d t p nd f, nd < p.nodes.length → nd ≠ node.toNat → G.D node sp k d t (md nd f p) = (G.D node sp k d t p).map (mapP (md nd f))
  gD : ∀ node sp k d t p p2, G.D node sp k d t p = some (.ok p2) → p.nodes.length ≤ p2.nodes.length
theorem open_comm {s : ByteArray} {G : SpF} (c : Comm G) {p : PV} {sp d : Nat} {kind : Int} {nd : Nat} {f : NodeV → NodeV} (h : nd < p.nodes.length) : spOpen s G (md nd f p) sp d kind = (spOpen s G p sp d kind).map (mapN (md nd f)) := by
  unfold spOpen
  have e : (md nd f p).pos = p.pos := rfl
  rw [e, spNode_md h]
  cases hn : spNode p ⟨kind, ofBytes [], false, [], []⟩ p.pos d with
  | error e => rfl
  | ok q =>
    obtain ⟨n, p1⟩ := q
    obtain ⟨rfl, rfl, _, _⟩ := spNode_ok hn
    simp only [mapN]
    by_cases hk : kind = 9
    · rw [if_pos hk, if_pos hk]
      have := c.L (p.nodes.length : Nat) sp 0 d { p with pos := p.pos + 1, nodes := p.nodes ++ [⟨kind, ofBytes [], false, [], []⟩] } nd f (by simp; omega) (by simp; omega)
      unfold md at this ⊢
      simp only at this ⊢
      rw [this]
      cases G.L (p.nodes.length : Nat) sp 0 d { p with pos := p.pos + 1, nodes := p.nodes ++ [⟨kind, ofBytes [], false, [], []⟩] } with
      | none => rfl
      | some r => cases r <;> rfl
    · rw [if_neg hk, if_neg hk]
      have := c.D (p.nodes.length : Nat) sp 0 d (ofBytes []) { p with pos := p.pos + 1, nodes := p.nodes ++ [⟨kind, ofBytes [], false, [], []⟩] } nd f (by simp; omega) (by simp; omega)
      unfold md at this ⊢
      simp only at this ⊢
      rw [this]
      cases G.D (p.nodes.length : Nat) sp 0 d (ofBytes []) { p with pos := p.pos + 1, nodes := p.nodes ++ [⟨kind, ofBytes [], false, [], []⟩] } with
      | none => rfl
      | some r => cases r <;> rfl
theorem open_grow {s : ByteArray} {G : SpF} (c : Comm G) {p p2 : PV} {sp d : Nat} {kind n : Int} (h : spOpen s G p sp d kind = some (.ok (n, p2))) : p.nodes.length ≤ p2.nodes.length := by
  unfold spOpen at h
  cases hn : spNode p ⟨kind, ofBytes [], false, [], []⟩ p.pos d with
  | error e => rw [hn] at h; cases h
  | ok q =>
    obtain ⟨n, p1⟩ := q
    rw [hn] at h
    have g1 := spNode_grow hn
    simp only at h
    by_cases hk : kind = 9
    · rw [if_pos hk] at h
      cases hr : G.L n sp 0 d { p1 with pos := p1.pos + 1 } with
      | none => rw [hr] at h; cases h
      | some r =>
        rw [hr] at h
        cases r with
        | error e => cases h
        | ok p3 => cases h; have g2 := c.gL _ _ _ _ _ _ hr; exact Nat.le_trans g1 g2
    · rw [if_neg hk] at h
      cases hr : G.D n sp 0 d (ofBytes []) { p1 with pos := p1.pos + 1 } with
      | none => rw [hr] at h; cases h
      | some r =>
        rw [hr] at h
        cases r with
        | error e => cases h
        | ok p3 => cases h; have g2 := c.gD _ _ _ _ _ _ _ hr; exact Nat.le_trans g1 g2
theorem read_comm {s : ByteArray} {G : SpF} (c : Comm G) {p : PV} {sp d nd : Nat} {f : NodeV → NodeV} (h : nd < p.nodes.length) : spRead s G (md nd f p) sp d = (spRead s G p sp d).map (mapN (md nd f)) := by
  unfold spRead
  have e : (md nd f p).pos = p.pos := rfl
  rw [e]
  cases s.data.toList[p.pos]? with
  | none => rfl
  | some ch =>
    simp only
    split
    · rw [spInt_md h]; rfl
    · split
      · exact open_comm c h
      · split
        · exact open_comm c h
        · rw [spStr_md h]; rfl
theorem read_grow {s : ByteArray} {G : SpF} (c : Comm G) {p p2 : PV} {sp d : Nat} {n : Int} (h : spRead s G p sp d = some (.ok (n, p2))) : p.nodes.length ≤ p2.nodes.length := by
  unfold spRead at h
  split at h
  · cases h
  · split at h
    · exact spInt_grow (Option.some.inj h)
    · split at h
      · exact open_grow c h
      · split at h
        · exact open_grow c h
        · exact spStr_grow (Option.some.inj h)
theorem comm_step {s : ByteArray} {G : SpF} (c : Comm G) : Comm ⟨spV s G, spL s G, spD s G⟩ := by
  refine ⟨?_, ?_, ?_, ?_, ?_, ?_⟩
  · intro sn d p nd f h
    show spV s G sn d (md nd f p) = (spV s G sn d p).map _
    unfold spV
    have e : (md nd f p).pos = p.pos := rfl
    rw [e]
    split
    · rfl
    · have := read_comm (s := s) c (p := { p with spans := p.spans ++ [{ sn with frm := p.pos, whole := true }] }) (sp := p.spans.length) (d := d) (f := f) h
      unfold md at this ⊢
      simp only at this ⊢
      rw [this]
      cases spRead s G { p with spans := p.spans ++ [{ sn with frm := p.pos, whole := true }] } p.spans.length d with
      | none => rfl
      | some r => cases r <;> rfl
  · intro sn d p n p2 h
    have h : spV s G sn d p = some (.ok (n, p2)) := h
    unfold spV at h
    split at h
    · cases h
    · cases hr : spRead s G { p with spans := p.spans ++ [{ sn with frm := p.pos, whole := true }] } p.spans.length d with
      | none => rw [hr] at h; cases h
      | some r =>
        rw [hr] at h
        cases r with
        | error e => cases h
        | ok q =>
          obtain ⟨nn, p3⟩ := q
          cases h
          have g := read_grow c hr
          exact g
  · intro node sp k d p nd f h hne
    show spL s G node sp k d (md nd f p) = (spL s G node sp k d p).map _
    unfold spL
    have e : (md nd f p).pos = p.pos := rfl
    rw [e]
    cases s.data.toList[p.pos]? with
    | none => rfl
    | some ch =>
      simp only
      split
      · rfl
      · rw [c.V _ _ p nd f h]
        cases hv : G.V (span0 sp k 0 0) (d + 1) p with
        | none => rfl
        | some r =>
          cases r with
          | error e => rfl
          | ok q =>
            obtain ⟨it, p2⟩ := q
            have g := c.gV _ _ _ _ _ hv
            simp only [Option.map_some, mapN]
            have e2 : addItem (md nd f p2) node it = md nd f (addItem p2 node it) := by
              unfold addItem md; simp only; rw [modify_comm hne]
            rw [e2]
            exact c.L node sp (k + 1) d (addItem p2 node it) nd f (by simp [addItem]; omega) hne
  · intro node sp k d p p2 h
    have h : spL s G node sp k d p = some (.ok p2) := h
    unfold spL at h
    split at h
    · cases h
    · split at h
      · cases h; exact Nat.le_refl _
      · cases hv : G.V (span0 sp k 0 0) (d + 1) p with
        | none => rw [hv] at h; cases h
        | some r =>
          rw [hv] at h
          cases r with
          | error e => cases h
          | ok q =>
            obtain ⟨it, p3⟩ := q
            have g := c.gV _ _ _ _ _ hv
            have g2 := c.gL _ _ _ _ _ _ h
            simp [addItem] at g2
            omega
  · intro node sp k d t p nd f h hne
    show spD s G node sp k d t (md nd f p) = (spD s G node sp k d t p).map _
    unfold spD
    have e : (md nd f p).pos = p.pos := rfl
    rw [e]
    cases s.data.toList[p.pos]? with
    | none => rfl
    | some ch =>
      simp only
      split
      · rfl
      · cases spText s p.pos with
        | error e => rfl
        | ok q =>
          obtain ⟨tt, a⟩ := q
          simp only
          have e1 : spNode { md nd f p with pos := a } ⟨5, tt, false, [], []⟩ p.pos (d + 1) = mapN (md nd f) (spNode { p with pos := a } ⟨5, tt, false, [], []⟩ p.pos (d + 1)) := spNode_md (p := { p with pos := a }) h
          rw [e1]
          cases hn : spNode { p with pos := a } ⟨5, tt, false, [], []⟩ p.pos (d + 1) with
          | error e => rfl
          | ok q =>
            obtain ⟨key, p1⟩ := q
            have g0 := spNode_grow hn
            simp only [mapN]
            split
            · rfl
            · split
              · rfl
              · rw [c.V _ _ p1 nd f (Nat.lt_of_lt_of_le h g0)]
                cases hv : G.V (span0 sp k p.pos a) (d + 1) p1 with
                | none => rfl
                | some r =>
                  cases r with
                  | error e => rfl
                  | ok q =>
                    obtain ⟨it, p2⟩ := q
                    have g := c.gV _ _ _ _ _ hv
                    simp only [Option.map_some, mapN]
                    have e2 : addEntry (md nd f p2) node key it = md nd f (addEntry p2 node key it) := by
                      unfold addEntry md; simp only; rw [modify_comm hne]
                    rw [e2]
                    have g0' : p.nodes.length ≤ p1.nodes.length := g0
                    exact c.D node sp (k + 1) d tt (addEntry p2 node key it) nd f (by simp [addEntry]; omega) hne
  · intro node sp k d t p p2 h
    have h : spD s G node sp k d t p = some (.ok p2) := h
    unfold spD at h
    split at h
    · cases h
    · split at h
      · cases h; exact Nat.le_refl _
      · split at h
        · cases h
        · rename_i tt a htt
          cases hn : spNode { p with pos := a } ⟨5, tt, false, [], []⟩ p.pos (d + 1) with
          | error e => rw [hn] at h; cases h
          | ok q =>
            obtain ⟨key, p1⟩ := q
            rw [hn] at h
            have g0 := spNode_grow hn
            have g0 : p.nodes.length ≤ p1.nodes.length := g0
            simp only at h
            split at h
            · cases h
            · split at h
              · cases h
              · cases hv : G.V (span0 sp k p.pos a) (d + 1) p1 with
                | none => rw [hv] at h; cases h
                | some r =>
                  rw [hv] at h
                  cases r with
                  | error e => cases h
                  | ok q =>
                    obtain ⟨it, p3⟩ := q
                    have g := c.gV _ _ _ _ _ hv
                    have g2 := c.gD _ _ _ _ _ _ _ h
                    simp [addEntry] at g2
                    omega
theorem sp_comm (s : ByteArray) : ∀ m, Comm (sp s m)
  | 0 => ⟨fun _ _ _ _ _ _ => rfl, (by intro _ _ _ _ _ h; cases h), fun _ _ _ _ _ _ _ _ _ => rfl, (by intro _ _ _ _ _ _ h; cases h), fun _ _ _ _ _ _ _ _ _ _ => rfl, (by intro _ _ _ _ _ _ _ h; cases h)⟩
  | m + 1 => comm_step (sp_comm s m)
end Go.Sh
