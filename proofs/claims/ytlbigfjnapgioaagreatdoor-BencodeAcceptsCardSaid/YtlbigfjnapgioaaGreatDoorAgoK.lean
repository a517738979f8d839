
import Derived.Test.YtlbigfjnapgioaaGreatDoorAgoI
import Derived.Test.YtlbigfjnapgioaaGreatDoorAgoW
import Derived.ChangeSame
set_option linter.all false
namespace Go.Ago
open Go
variable {P : Program}
def Kept (W W' : World) : Prop:=(∀ (i : Nat) o,W.heap[i]? = some o → W'.heap[i]? = some o)∧W'.os = W.os∧W'.output = W.output
theorem Kept.frame {W W' : World} (k : Kept W W') (may : MemPlace → Prop) : W.keptBut W' may:=by
 refine ⟨k.2.1,k.2.2,fun i hi=>?_⟩
 have h1:=k.1 i _ (Array.getElem?_eq_getElem hi)
 rw [Array.getElem?_eq_getElem hi,h1]
 cases W.heap[i] with
 | cells c t fr=>exact ⟨rfl,rfl,rfl,fun _ _=>rfl⟩
 | map es cl=>exact .inr ⟨rfl,rfl⟩
 | _=>rfl
theorem Kept.frozen {W W' : World} (k : Kept W W') {a : Addr} (ha : a.block < W.heap.size) : W'.frozen? a = W.frozen? a:=by
 have h1:=k.1 a.block _ (Array.getElem?_eq_getElem ha)
 unfold World.frozen?
 rw [h1,Array.getElem?_eq_getElem ha]
theorem LibFact.of_heap {w w' : World} (h : LibFact w) (he : w'.heap = w.heap) : LibFact w':=by
 have hc : ∀ a,w'.cell? a = w.cell? a:=fun a=>by simp [World.cell?,he]
 exact ⟨by simpa only [hc] using h.first,by simpa only [hc] using h.accept,by simpa only [hc] using h.esyn,by simpa only [hc] using h.erng⟩
theorem Kept.cell {W W' : World} (k : Kept W W') {a : Addr} {v : Value} (h : W.cell? a = some v) : W'.cell? a = some v:=by
 unfold World.cell? at h ⊢
 split at h
 ·rename_i hh;rw [k.1 _ _ hh];exact h
 ·cases h
theorem LibFact.kept {W W' : World} (h : LibFact W) (k : Kept W W') : LibFact W' :=
 ⟨fun c hc=>k.cell (h.first c hc),fun i hi=>⟨k.cell (h.accept i hi).1,k.cell (h.accept i hi).2⟩,h.esyn.imp fun _ x=>⟨k.cell x.1,x.2⟩,h.erng.imp fun _ x=>⟨k.cell x.1,x.2⟩⟩
theorem calls_start {e : Ent} (ok : FnOK P e) {x : TsDen e.as} {y : TsDen e.rs} (hm : ∀ h,WF h → Wp (e.m x) h fun z _=>z = y) (W : World) (hlib : ∀ W',Kept W W' → LibFact W') (args : Array Value) (hl : LRel P IMap.emp (pkTs e.as x) args.toList) :
  Calls P e.id args W fun r W'=>∃ v' ι',r = .returned v'∧VRel P ι' (tupleOf (pkTs e.rs y)) v'∧Kept W W':=by
 have wf0 : WF (⟨fun _=>none,fun _=>none,0,fun _=>0,fun _=>false,fun _ _=>Classical.propDecidable _⟩ : AHeap):=⟨fun _ _=>rfl,fun _ _=>rfl,fun _ _ _ _ _ h=>(by cases h),fun _ _=>rfl⟩
 generalize hh0 : (⟨fun _=>none,fun _=>none,0,fun _=>0,fun _=>false,fun _ _=>Classical.propDecidable _⟩ : AHeap) = h0 at wf0
 have hg : h0.get = fun _=>none:=by rw [← hh0]
 have hmg : h0.mget = fun _=>none:=by rw [← hh0]
 have hu : h0.used = fun _=>false:=by rw [← hh0]
 obtain ⟨z,h1,e1,rfl⟩:=hm h0 wf0
 have R0 : Rel P ⟨fun i=>W.heap[i]?,W.os,W.output⟩ IMap.emp h0 W :=
  ⟨fun _ _ h=>h,fun b _=>⟨by rw [hg],rfl⟩,fun b _=>by rw [hu],fun _ _ h=>(by cases h),fun b c g bs el h=>(by rw [hg] at h;cases h),fun _ _ _ _ _ _ _ _ _ _ _ _ h=>(by cases h),fun b c g bs el h=>(by rw [hg] at h;cases h),⟨rfl,rfl⟩,fun w' hw'=>hlib ⟨w'.heap,w'.tape,w'.drawn,W.os,W.output⟩ ⟨hw',rfl,rfl⟩ |>.of_heap rfl,⟨fun m _=>⟨by rw [hmg],rfl⟩,fun _ _ h=>(by cases h),fun _ _ _ h=>(by cases h),fun m x h=>(by rw [hmg] at h;cases h)⟩⟩
 refine ((ok x).calls _ h0 z h1 e1 IMap.emp W args R0 hl).mono fun r W' hr=>?_
 obtain ⟨v',ι',h2,h3,R1,_⟩:=hr
 exact ⟨v',ι',h2,h3,R1.old,R1.os.1,R1.os.2⟩
theorem ret_bool {ι : IMap} {b : Bool} {v' : Value} (h : VRel P ι (tupleOf (pkTs [.one .bool] b)) v') : v' = .bool b:=by
 have h : VRel P ι (.bool b) v':=h
 cases h;rfl
end Go.Ago
namespace Go.ChangeShapes
open Go Go.WideShapes Go.Ago
variable {H : Type} {enc : TypeId × Value → H} {P : Program}
theorem post_of_kept {f : Func} {s : ChangeSpec} {apart fresh handsOn again : Bool} {W W' : World} {args : Array Value} {v : Value} {ds gs : List (DataW H)} {before pa pv : List MemPlace}
  (hW : DataW.Whole enc P f.params.toList s.vars apart W args.toList ds gs before)
  (hres : ∀ (b : Nat) (sp : Nat → Bool) (hd : Bool),DataW.TrodAll enc P W' b sp hd f.resultTypes.toList (v.resultList f.resultTypes.size) (s.fn H (ds ++ gs)).results [])
  (hargs : ∀ sp : Nat → Bool,(∀ p ∈ before,sp p.block = true) → DataW.TrodAll enc P W' 0 sp true f.params.toList args.toList (s.fn H (ds ++ gs)).args pa)
  (hvars : ∀ sp : Nat → Bool,(∀ p ∈ before,sp p.block = true) → DataW.TrodVars enc P W' sp s.vars (s.fn H (ds ++ gs)).vars pv)
  (hps : before = pa ++ pv) (k : Kept W W')
  (hok : ∀ (j : Nat) (t : TypeId) (r : Value),f.resultTypes[j]? = some t → (v.resultList f.resultTypes.size)[j]? = some r → Value.okWide P W' .any 0 t r) :
  s.post enc P f apart fresh handsOn again W args v W':=by
 have hlt:=hW.lt
 have hold : ∀ p ∈ before,(fun b=>decide (b < W.heap.size)) p.block = true:=fun p hp=>by simpa using hlt p hp
 refine ⟨ds,gs,before,[],pa,pv,hW,hres _ _ _,hargs _ hold,hvars _ hold,k.frame _,fun _=>?_⟩
 obtain ⟨_,_,_,_,_,hz,hn⟩:=hW
 have hpp : ∀ p,p ∈ before ↔ p ∈ pa ∨ p ∈ pv:=fun p=>by rw [hps,List.mem_append]
 refine ⟨hok,_,_,([] ++ pa) ++ pv,⟨[] ++ pa,pv,trodAll_append (hargs _ (fun _ _=>rfl)) (hres _ _ _),hvars _ (fun _ _=>rfl),rfl,?_,?_⟩,?_⟩
 ·intro b off hp
  have hp' : MemPlace.cell b off ∈ before:=by rw [hpp];simpa using hp
  rw [k.frozen (hlt _ hp')];exact hz b off hp'
 ·intro ha
  have h2:=hn ha
  rw [hps] at h2;simpa using h2
 ·intro p hp _
  rw [hpp];simpa using hp
end Go.ChangeShapes
