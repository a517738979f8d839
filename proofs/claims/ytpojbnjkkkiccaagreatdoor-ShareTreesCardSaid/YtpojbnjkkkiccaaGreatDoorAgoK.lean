
import Derived.Test.YtpojbnjkkkiccaaGreatDoorAgoW
set_option linter.all false
namespace Go.Ago
open Go
variable {P:Program}
def Kept (W W':World):Prop:=(∀(i:Nat) o,W.heap[i]?=some o->W'.heap[i]?=some o)/\W'.os=W.os/\W'.output=W.output
theorem Kept.frame {W W'}(k:Kept W W') may:W.keptBut W' may:=by
 refine⟨k.2.1,k.2.2,λi hi=>?_⟩;have h1:=k.1 i _ (alV hi)
 grind
theorem Kept.frozen {W W'}(k:Kept W W'){a}(ha:a.block<W.heap.size):W'.frozen? a=W.frozen? a:=by
 have h1:=k.1 a.block _ (alV ha)
 grind [World.frozen?,Array.getElem?_eq_getElem]
def lr.of_heap {w w'}(h:lr w)(he:w'.heap=w.heap):lr w':=h.lift λi o hi=>by rw[he];exact hi
theorem Kept.cell {W W'}(k:Kept W W'){a}{v}(h:W.cell? a=some v):W'.cell? a=some v:=by
 unfold World.cell? at h⊢;split at h
 .rename_i hh;rw[k.1 _ _ hh];exact h
 .cases h
def lr.kept {W W'}(h:lr W)(k:Kept W W'):lr W':=h.lift k.1
noncomputable def hZ:ai:=⟨λ_=>none,λ_=>none,0,λ_=>0,λ_=>false,λ_=>Classical.propDecidable _⟩
def ail W (hlib:∀W',Kept W W'->lr W'):Rel P ⟨λi=>W.heap[i]?,W.os,W.output,[],λ_=>True⟩ gO.emp hZ W:=
 ⟨λ_ _ h=>h,λb _=>⟨rfl,rfl⟩,λb _=>rfl,λ_ _ h=>(by cases h),λb c g bs el h=>(by cases h),λ_ _ _ _ _ _ _ _ _ _ _ _ h=>(by cases h),λb c g bs el h=>(by cases h),⟨rfl,rfl⟩,λw' hw'=>hlib ⟨w'.heap,w'.tape,w'.drawn,W.os,W.output⟩ ⟨hw',rfl,rfl⟩ |>.of_heap rfl,⟨λm _=>⟨rfl,rfl⟩,λ_ _ h=>(by cases h),λ_ _ _ h=>(by cases h),λm x h=>(by cases h)⟩⟩
def Zj {e}(ok:aC P e)(hen:Enters P e.id){x}{y}{h1}(hm:e.m x hZ=some (y,h1)) W (hlib:∀W',Kept W W'->lr W') args (hl:aW P gO.emp (fC e.as x) args.toList) :
  Calls P e.id args W λr W'=>∃v' ι',r=.returned v'/\aN P ι' (gE (fC e.rs y)) v'/\Kept W W':=by
 refine ((ok x).calls hen _ hZ y h1 hm gO.emp W args (ail W hlib) hl).mono λr W' hr=>?_;obtain⟨v',ι',h2,h3,R1,_⟩:=hr;exact⟨v',ι',h2,h3,R1.lA,R1.os.1,R1.os.2⟩
def Zk {ι}{b:Bool}{v'}(h:aN P ι (gE (fC [.one .bool] b)) v'):v'=.bool b:=by
 have h:aN P ι (.bool b) v':=h;cases h;rfl
def Rel.amr {F}{ι}{h}{w w'}(R:Rel P F ι h w)(hb:Kept w w'):Rel P F ι h w':=by
 have hcell:∀a v,w.cell? a=some v->w'.cell? a=some v:=λa v ha=>hb.cell ha;refine⟨λi o hi=>hb.1 i o (R.lA i o hi),R.zN,R.nx,λb l hl=>?_,λb c g base e hb'=>?_,R.jo,R.qI,⟨hb.2.1.trans R.os.1,hb.2.2.trans R.os.2⟩,R.GL,R.mp.Da rfl (λ_ x=>x) (.refl _) rfl λr es c hr=>hb.1 _ _ hr⟩
 .obtain⟨cc,fz,q1,q2⟩:=R.loc b l hl;exact⟨cc,fz,hb.1 _ _ q1,q2⟩
 .obtain⟨l,q1,q2,q3,q4,q5⟩:=R.live b c g base e hb';exact⟨l,q1,q2,q3,q4,λi v hv=>let ⟨v',a,b⟩:=q5 i v hv;⟨v',hcell _ _ a,b⟩⟩
def adu {f}{m:M Bool}(ok:aC P ⟨f,[],[.one .bool],uc [] m⟩)(hen:Enters P f){b}{h1}(hm:m hZ=some (b,h1)):aC P ⟨f,[],[.one .bool],λ_=>AI b⟩:=by
 intro x;refine iw.of hen ?_;intro F h y h2 hx ι w vs' R hl;cases hx;have hlib:∀W',Kept w W'->lr W':=λW' k=>R.GL W' λi o hi=>k.1 i o (R.lA i o hi);have hl0:aW P gO.emp (fC [] x) vs'.toList:=by
  have:=hl.1;have h0:vs'.toList=[]:=ac4 (by simpa[fC] using this.symm);rw[h0];exact .nil
 refine (Zj ok hen hm w hlib vs' hl0).mono λr W' hr=>?_;obtain⟨v',ι',h2,h3,k⟩:=hr;have h3:aN P ι' (.bool b) v':=h3;cases h3;exact⟨_,ι,h2,.flat _ rfl,R.amr k,.refl _⟩
end Go.Ago
namespace Go.ChangeShapes
open Go Go.WideShapes Go.Ago
variable {H:Type}{enc:κ×ξ->H}{P:Program}
theorem Nt {f}{s:ChangeSpec}{apart fresh handsOn again}{W W'}{args}{v}{ds gs}{before pa pv}
  (hW:DataW.Whole enc P f.params.toList s.vars apart W args.toList ds gs before)
  (hres:∀(b:Nat) (sp:Nat->Bool) (hd:Bool),DataW.TrodAll enc P W' b sp hd f.resultTypes.toList (v.resultList f.resultTypes.size) (s.fn H (ds++gs)).results [])
  (hargs:∀sp:Nat->Bool,(∀p∈before,sp p.block=true)->DataW.TrodAll enc P W' 0 sp true f.params.toList args.toList (s.fn H (ds++gs)).args pa)
  (hvars:∀sp:Nat->Bool,(∀p∈before,sp p.block=true)->DataW.TrodVars enc P W' sp s.vars (s.fn H (ds++gs)).vars pv)
  (hps:before=pa++pv) (k:Kept W W')
  (hok:∀(j:Nat) (t:κ) (r:ξ),f.resultTypes[j]?=some t->(v.resultList f.resultTypes.size)[j]?=some r->Value.okWide P W' .any 0 t r) :
  s.post enc P f apart fresh handsOn again W args v W':=by
 have hlt:=hW.lt;have hold:∀p∈before,(λb=>decide (b<W.heap.size)) p.block=true:=λp hp=>by simpa using hlt p hp
 refine⟨ds,gs,before,[],pa,pv,hW,hres _ _ _,hargs _ hold,hvars _ hold,k.frame _,λ_=>?_⟩;obtain⟨_,_,_,_,_,hz,hn⟩:=hW;have hpp:∀p,p∈before↔p∈pa\/p∈pv:=λp=>by rw[hps,afK]
 refine⟨hok,_,_,([]++pa)++pv,⟨[]++pa,pv,trodAll_append (hargs _ (λ_ _=>rfl)) (hres _ _ _),hvars _ (λ_ _=>rfl),rfl,?_,?_⟩,?_⟩
 .intro b off hp;have hp':MemPlace.cell b off∈before:=by rw[hpp];simpa using hp
  rw[k.frozen (hlt _ hp')];exact hz b off hp'
 .grind
 .intro p hp _;rw[hpp];simpa using hp
end Go.ChangeShapes
