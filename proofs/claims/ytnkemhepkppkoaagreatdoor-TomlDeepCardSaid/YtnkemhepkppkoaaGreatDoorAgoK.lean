/-
From the abstract heap to a row of the form: a function that answers for every well-formed heap returns its answer in every world, and what was there stays. No theorem about the program stands here.
-/
import Derived.Test.YtnkemhepkppkoaaGreatDoorAgoI
import Derived.Test.YtnkemhepkppkoaaGreatDoorAgoW
import Derived.ChangeSame
set_option linter.all false
namespace Go.Ago
open Go
variable {P : Program}

/-- Every block of the first world stands unchanged in the second. -/
def Kept (W W' : World) : Prop := (∀ (i : Nat) o, W.heap[i]? = some o → W'.heap[i]? = some o) ∧ W'.os = W.os ∧ W'.output = W.output
theorem Kept.frame {W W' : World} (k : Kept W W') (may : MemPlace → Prop) : W.keptBut W' may := by
  refine ⟨k.2.1, k.2.2, fun i hi => ?_⟩
  have h1 := k.1 i _ (Array.getElem?_eq_getElem hi)
  grind
theorem Kept.frozen {W W' : World} (k : Kept W W') {a : Addr} (ha : a.block < W.heap.size) : W'.frozen? a = W.frozen? a := by
  have h1 := k.1 a.block _ (Array.getElem?_eq_getElem ha)
  grind [World.frozen?, Array.getElem?_eq_getElem]
theorem LibFact.of_heap {w w' : World} (h : LibFact w) (he : w'.heap = w.heap) : LibFact w' := h.lift fun i o hi => by rw [he]; exact hi
theorem Kept.cell {W W' : World} (k : Kept W W') {a : Addr} {v : Value} (h : W.cell? a = some v) : W'.cell? a = some v := by
  unfold World.cell? at h ⊢
  split at h
  · rename_i hh; rw [k.1 _ _ hh]; exact h
  · cases h
theorem LibFact.kept {W W' : World} (h : LibFact W) (k : Kept W W') : LibFact W' := h.lift k.1
/-- The heap with nothing in it. -/
noncomputable def hZ : AHeap := ⟨fun _ => none, fun _ => none, 0, fun _ => 0, fun _ => false, fun _ => Classical.propDecidable _⟩
theorem rel_hZ (W : World) (hlib : ∀ W', Kept W W' → LibFact W') : Rel P ⟨fun i => W.heap[i]?, W.os, W.output, []⟩ IMap.emp hZ W :=
  ⟨fun _ _ h => h, fun b _ => ⟨rfl, rfl⟩, fun b _ => rfl, fun _ _ h => (by cases h), fun b c g bs el h => (by cases h), fun _ _ _ _ _ _ _ _ _ _ _ _ h => (by cases h), fun b c g bs el h => (by cases h), ⟨rfl, rfl⟩, fun w' hw' => hlib ⟨w'.heap, w'.tape, w'.drawn, W.os, W.output⟩ ⟨hw', rfl, rfl⟩ |>.of_heap rfl, ⟨fun m _ => ⟨rfl, rfl⟩, fun _ _ h => (by cases h), fun _ _ _ h => (by cases h), fun m x h => (by cases h)⟩⟩
theorem calls_hZ {e : Ent} (ok : FnOK P e) (hen : Enters P e.id) {x : TsDen e.as} {y : TsDen e.rs} {h1 : AHeap} (hm : e.m x hZ = some (y, h1)) (W : World) (hlib : ∀ W', Kept W W' → LibFact W') (args : Array Value) (hl : LRel P IMap.emp (pkTs e.as x) args.toList) :
    Calls P e.id args W fun r W' => ∃ v' ι', r = .returned v' ∧ VRel P ι' (tupleOf (pkTs e.rs y)) v' ∧ Kept W W' := by
  refine ((ok x).calls hen _ hZ y h1 hm IMap.emp W args (rel_hZ W hlib) hl).mono fun r W' hr => ?_
  obtain ⟨v', ι', h2, h3, R1, _⟩ := hr
  exact ⟨v', ι', h2, h3, R1.old, R1.os.1, R1.os.2⟩
theorem calls_start {e : Ent} (ok : FnOK P e) (hen : Enters P e.id) {x : TsDen e.as} {y : TsDen e.rs} (hm : ∀ h, WF h → Wp (e.m x) h fun z _ => z = y) (W : World) (hlib : ∀ W', Kept W W' → LibFact W') (args : Array Value) (hl : LRel P IMap.emp (pkTs e.as x) args.toList) :
    Calls P e.id args W fun r W' => ∃ v' ι', r = .returned v' ∧ VRel P ι' (tupleOf (pkTs e.rs y)) v' ∧ Kept W W' := by
  obtain ⟨z, h1, e1, rfl⟩ := hm hZ ⟨fun _ _ => rfl, fun _ _ => rfl, fun _ _ _ _ _ h => (by cases h), fun _ _ => rfl⟩
  exact calls_hZ ok hen e1 W hlib args hl
theorem ret_bool {ι : IMap} {b : Bool} {v' : Value} (h : VRel P ι (tupleOf (pkTs [.one .bool] b)) v') : v' = .bool b := by
  have h : VRel P ι (.bool b) v' := h
  cases h; rfl
theorem Rel.keptW {F : Fz} {ι : IMap} {h : AHeap} {w w' : World} (R : Rel P F ι h w) (hb : Kept w w') : Rel P F ι h w' := by
  have hcell : ∀ a v, w.cell? a = some v → w'.cell? a = some v := fun a v ha => hb.cell ha
  refine ⟨fun i o hi => hb.1 i o (R.old i o hi), R.dom, R.nx, fun b l hl => ?_, fun b c g base e hb' => ?_, R.grp, R.tip, ⟨hb.2.1.trans R.os.1, hb.2.2.trans R.os.2⟩, R.lib, R.mp.keep rfl (fun _ x => x) (.refl _) rfl fun r es c hr => hb.1 _ _ hr⟩
  · obtain ⟨cc, fz, q1, q2⟩ := R.loc b l hl
    exact ⟨cc, fz, hb.1 _ _ q1, q2⟩
  · obtain ⟨l, q1, q2, q3, q4, q5⟩ := R.live b c g base e hb'
    exact ⟨l, q1, q2, q3, q4, fun i v hv => let ⟨v', a, b⟩ := q5 i v hv; ⟨v', hcell _ _ a, b⟩⟩
/-- What a function without arguments answers over the empty heap, it answers everywhere. -/
theorem pure_hZ {f : FuncId} {m : M Bool} (ok : FnOK P ⟨f, [], [.one .bool], fun _ => m⟩) (hen : Enters P f) {b : Bool} {h1 : AHeap} (hm : m hZ = some (b, h1)) : FnOK P ⟨f, [], [.one .bool], fun _ => M.pure b⟩ := by
  intro x
  refine CallOK.of hen ?_
  intro F h y h2 hx ι w vs' R hl
  cases hx
  have hlib : ∀ W', Kept w W' → LibFact W' := fun W' k => R.lib W' fun i o hi => k.1 i o (R.old i o hi)
  have hl0 : LRel P IMap.emp (pkTs [] x) vs'.toList := by
    have := hl.1
    have h0 : vs'.toList = [] := List.eq_nil_of_length_eq_zero (by simpa [pkTs] using this.symm)
    rw [h0]; exact .nil
  refine (calls_hZ ok hen (x := x) hm w hlib vs' hl0).mono fun r W' hr => ?_
  obtain ⟨v', ι', h2, h3, k⟩ := hr
  have h3 : VRel P ι' (.bool b) v' := h3
  cases h3
  exact ⟨_, ι, h2, .flat _ rfl, R.keptW k, .refl _⟩
end Go.Ago
namespace Go.ChangeShapes
open Go Go.WideShapes Go.Ago
variable {H : Type} {enc : TypeId × Value → H} {P : Program}
theorem post_of_kept {f : Func} {s : ChangeSpec} {apart fresh handsOn again : Bool} {W W' : World} {args : Array Value} {v : Value} {ds gs : List (DataW H)} {before pa pv : List MemPlace}
    (hW : DataW.Whole enc P f.params.toList s.vars apart W args.toList ds gs before)
    (hres : ∀ (b : Nat) (sp : Nat → Bool) (hd : Bool), DataW.TrodAll enc P W' b sp hd f.resultTypes.toList (v.resultList f.resultTypes.size) (s.fn H (ds ++ gs)).results [])
    (hargs : ∀ sp : Nat → Bool, (∀ p ∈ before, sp p.block = true) → DataW.TrodAll enc P W' 0 sp true f.params.toList args.toList (s.fn H (ds ++ gs)).args pa)
    (hvars : ∀ sp : Nat → Bool, (∀ p ∈ before, sp p.block = true) → DataW.TrodVars enc P W' sp s.vars (s.fn H (ds ++ gs)).vars pv)
    (hps : before = pa ++ pv) (k : Kept W W')
    (hok : ∀ (j : Nat) (t : TypeId) (r : Value), f.resultTypes[j]? = some t → (v.resultList f.resultTypes.size)[j]? = some r → Value.okWide P W' .any 0 t r) :
    s.post enc P f apart fresh handsOn again W args v W' := by
  have hlt := hW.lt
  have hold : ∀ p ∈ before, (fun b => decide (b < W.heap.size)) p.block = true := fun p hp => by simpa using hlt p hp
  refine ⟨ds, gs, before, [], pa, pv, hW, hres _ _ _, hargs _ hold, hvars _ hold, k.frame _, fun _ => ?_⟩
  obtain ⟨_, _, _, _, _, hz, hn⟩ := hW
  have hpp : ∀ p, p ∈ before ↔ p ∈ pa ∨ p ∈ pv := fun p => by rw [hps, List.mem_append]
  refine ⟨hok, _, _, ([] ++ pa) ++ pv, ⟨[] ++ pa, pv, trodAll_append (hargs _ (fun _ _ => rfl)) (hres _ _ _), hvars _ (fun _ _ => rfl), rfl, ?_, ?_⟩, ?_⟩
  · intro b off hp
    have hp' : MemPlace.cell b off ∈ before := by rw [hpp]; simpa using hp
    rw [k.frozen (hlt _ hp')]; exact hz b off hp'
  · grind
  · intro p hp _
    rw [hpp]; simpa using hp
end Go.ChangeShapes
