
import Derived.Test.YtcdofopdlaebaaaGreatDoorAgoI
import Derived.Test.YtcdofopdlaebaaaGreatDoorAgoW
namespace Go.Ago
open Go
variable {P:Program}
def Kept (W W':World):Prop:=(∀(i:Nat) o,W.heap[i]?=some o->W'.heap[i]?=some o)/\W'.os=W.os/\W'.output=W.output
theorem Kept.frame {W W':World}(k:Kept W W')(may:MemPlace->Prop):W.keptBut W' may:=by
 refine⟨k.2.1,k.2.2,λi hi=>?_⟩;have h1:=k.1 i _ (adH hi);rw[adH hi,h1];cases W.heap[i] with
 |cells c t fr=>exact⟨rfl,rfl,rfl,λ_ _=>rfl⟩
 |map es cl=>exact .inr ⟨rfl,rfl⟩
 |_=>rfl
theorem Kept.frozen {W W':World}(k:Kept W W'){a:Addr}(ha:a.block<W.heap.size):W'.frozen? a=W.frozen? a:=by
 have h1:=k.1 a.block _ (adH ha);unfold World.frozen?;rw[h1,adH ha]
theorem mV.of_heap {w w':World}(h:mV w)(he:w'.heap=w.heap):mV w':=h.lift λi o hi=>by rw[he];exact hi
theorem Kept.cell {W W':World}(k:Kept W W'){a:Addr}{v:Value}(h:W.cell? a=some v):W'.cell? a=some v:=by
 unfold World.cell? at h⊢;split at h
 .rename_i hh;rw[k.1 _ _ hh];exact h
 .cases h
theorem mV.kept {W W':World}(h:mV W)(k:Kept W W'):mV W':=h.lift k.1
theorem T5 {ι:fM}{b:Bool}{v':Value}(h:aS P ι (fW (fb [.one .bool] b)) v'):v'=.bool b:=by
 have h:aS P ι (.bool b) v':=h;cases h;rfl
end Go.Ago
namespace Go.ChangeShapes
open Go Go.WideShapes Go.Ago
variable {H:Type}{enc:TypeId×Value->H}{P:Program}
theorem HR {f:Func}{s:ChangeSpec}{apart fresh handsOn again:Bool}{W W':World}{args:Array Value}{v:Value}{ds gs:List (DataW H)}{before pa pv:List MemPlace}
  (hW:DataW.Whole enc P f.params.toList s.vars apart W args.toList ds gs before)
  (hres:∀(b:Nat) (sp:Nat->Bool) (hd:Bool),DataW.TrodAll enc P W' b sp hd f.resultTypes.toList (v.resultList f.resultTypes.size) (s.fn H (ds++gs)).results [])
  (hargs:∀sp:Nat->Bool,(∀p∈before,sp p.block=true)->DataW.TrodAll enc P W' 0 sp true f.params.toList args.toList (s.fn H (ds++gs)).args pa)
  (hvars:∀sp:Nat->Bool,(∀p∈before,sp p.block=true)->DataW.TrodVars enc P W' sp s.vars (s.fn H (ds++gs)).vars pv)
  (hps:before=pa++pv) (k:Kept W W')
  (hok:∀(j:Nat) (t:TypeId) (r:Value),f.resultTypes[j]?=some t->(v.resultList f.resultTypes.size)[j]?=some r->Value.okWide P W' .any 0 t r) :
  s.post enc P f apart fresh handsOn again W args v W':=by
 have hlt:=hW.lt;have hold:∀p∈before,(λb=>decide (b<W.heap.size)) p.block=true:=λp hp=>by simpa using hlt p hp
 refine⟨ds,gs,before,[],pa,pv,hW,hres _ _ _,hargs _ hold,hvars _ hold,k.frame _,λ_=>?_⟩;obtain⟨_,_,_,_,_,hz,hn⟩:=hW;have hpp:∀p,p∈before↔p∈pa\/p∈pv:=λp=>by rw[hps,List.mem_append]
 refine⟨hok,_,_,([]++pa)++pv,⟨[]++pa,pv,trodAll_append (hargs _ (λ_ _=>rfl)) (hres _ _ _),hvars _ (λ_ _=>rfl),rfl,?_,?_⟩,?_⟩
 .intro b off hp;have hp':MemPlace.cell b off∈before:=by rw[hpp];simpa using hp
  rw[k.frozen (hlt _ hp')];exact hz b off hp'
 .intro ha;have h2:=hn ha;rw[hps] at h2;simpa using h2
 .intro p hp _;rw[hpp];simpa using hp
end Go.ChangeShapes
