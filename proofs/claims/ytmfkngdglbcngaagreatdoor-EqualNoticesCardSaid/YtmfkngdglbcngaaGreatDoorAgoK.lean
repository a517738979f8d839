
import Derived.Test.YtmfkngdglbcngaaGreatDoorAgoW
namespace Go.Ago
open Go
variable {P:Program}
def Kept (W W':World):Prop:=(∀(i:Nat) o,W.heap[i]?=some o->W'.heap[i]?=some o)/\W'.os=W.os/\W'.output=W.output
theorem Kept.frame {W W':World}(k:Kept W W')(may:MemPlace->Prop):W.keptBut W' may:=by
 refine⟨k.2.1,k.2.2,λi hi=>?_⟩;have h1:=k.1 i _ (aeX hi)
 grind
theorem Kept.frozen {W W':World}(k:Kept W W'){a:Addr}(ha:a.block<W.heap.size):W'.frozen? a=W.frozen? a:=by
 have h1:=k.1 a.block _ (aeX ha)
 grind [World.frozen?,Array.getElem?_eq_getElem]
theorem nN.of_heap {w w':World}(h:nN w)(he:w'.heap=w.heap):nN w':=h.lift λi o hi=>by rw[he];exact hi
theorem Kept.cell {W W':World}(k:Kept W W'){a:Addr}{v:ξ}(h:W.cell? a=some v):W'.cell? a=some v:=by
 unfold World.cell? at h⊢;split at h
 .rename_i hh;rw[k.1 _ _ hh];exact h
 .cases h
theorem nN.kept {W W':World}(h:nN W)(k:Kept W W'):nN W':=h.lift k.1
theorem UP {ι:gD}{b:Bool}{v':ξ}(h:aR P ι (gq (fq [.one .bool] b)) v'):v'=.bool b:=by
 have h:aR P ι (.bool b) v':=h;cases h;rfl
end Go.Ago
namespace Go.ChangeShapes
open Go Go.WideShapes Go.Ago
variable {H:Type}{enc:κ×ξ->H}{P:Program}
theorem IJ {f:Func}{s:ChangeSpec}{apart fresh handsOn again:Bool}{W W':World}{args:ν}{v:ξ}{ds gs:List (DataW H)}{before pa pv:List MemPlace}
  (hW:DataW.Whole enc P f.params.toList s.vars apart W args.toList ds gs before)
  (hres:∀(b:Nat) (sp:Nat->Bool) (hd:Bool),DataW.TrodAll enc P W' b sp hd f.resultTypes.toList (v.resultList f.resultTypes.size) (s.fn H (ds++gs)).results [])
  (hargs:∀sp:Nat->Bool,(∀p∈before,sp p.block=true)->DataW.TrodAll enc P W' 0 sp true f.params.toList args.toList (s.fn H (ds++gs)).args pa)
  (hvars:∀sp:Nat->Bool,(∀p∈before,sp p.block=true)->DataW.TrodVars enc P W' sp s.vars (s.fn H (ds++gs)).vars pv)
  (hps:before=pa++pv) (k:Kept W W')
  (hok:∀(j:Nat) (t:κ) (r:ξ),f.resultTypes[j]?=some t->(v.resultList f.resultTypes.size)[j]?=some r->Value.okWide P W' .any 0 t r) :
  s.post enc P f apart fresh handsOn again W args v W':=by
 have hlt:=hW.lt;have hold:∀p∈before,(λb=>decide (b<W.heap.size)) p.block=true:=λp hp=>by simpa using hlt p hp
 refine⟨ds,gs,before,[],pa,pv,hW,hres _ _ _,hargs _ hold,hvars _ hold,k.frame _,λ_=>?_⟩;obtain⟨_,_,_,_,_,hz,hn⟩:=hW;have hpp:∀p,p∈before↔p∈pa\/p∈pv:=λp=>by rw[hps,af8]
 refine⟨hok,_,_,([]++pa)++pv,⟨[]++pa,pv,trodAll_append (hargs _ (λ_ _=>rfl)) (hres _ _ _),hvars _ (λ_ _=>rfl),rfl,?_,?_⟩,?_⟩
 .intro b off hp;have hp':MemPlace.cell b off∈before:=by rw[hpp];simpa using hp
  rw[k.frozen (hlt _ hp')];exact hz b off hp'
 .grind
 .intro p hp _;rw[hpp];simpa using hp
end Go.ChangeShapes
