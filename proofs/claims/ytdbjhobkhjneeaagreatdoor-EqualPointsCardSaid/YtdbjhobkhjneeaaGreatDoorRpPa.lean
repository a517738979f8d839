/-
EqualPoints answers true for every two graphs, whatever memory and order.
-/
import Derived.Test.YtdbjhobkhjneeaaGreatDoorDp
import Derived.Test.YtdbjhobkhjneeaaGreatDoorPam
set_option linter.all false
namespace Go.Proofs.YtdbjhobkhjneeaaGreatDoor
open Go Go.Ago Go.Sh Go.ChangeShapes Go.WideShapes
theorem PO:laidOutB Tryz.prog=true:=by kernel_rfl
theorem KT {W W':World}(k:Kept W W'){p:MemPlace}(hp:p.block<W.heap.size):W.sameAt W' p:=by
 have h1:=k.1 p.block _ (ajF hp);cases p with
 |cell b off=>
  show W'.cell? ⟨b,off,none⟩=W.cell? ⟨b,off,none⟩;unfold World.cell?;simp only;rw[show W'.heap[b]?=W.heap[b]? from h1.trans (ajF hp).symm]
 |map b=>exact h1.trans (ajF hp).symm
end Go.Proofs.YtdbjhobkhjneeaaGreatDoor
namespace Go.Proofs.YtdbjhobkhjneeaaGreatDoor.equalPoints
open Go.ChangeShapes Go.WideShapes Go.ChangeAt Go.RowKit Go.Ago Go.Sh Go.ChangeMaps
set_option maxRecDepth 100000 in
theorem abC (H:Type)(enc:μ×ο->H)(W:World)(base:Nat)(args:ξ)(ds gs:List (DataW H))(before:List MemPlace)
  (hval:∀(j:Nat) t v,Tryz.f4.params[j]?=some t->args[j]?=some v->Value.okWide Tryz.prog W .any base t v)
  (hW:DataW.Whole enc Tryz.prog Tryz.f4.params.toList Rows.equalPointsSpec.vars false W args.toList ds gs before) (hL:laidMetH Tryz.prog Rows.equalPointsRow.laid W) :
  Calls Tryz.prog 4 args W λe W'=>∃v,e=.returned v/\Rows.equalPointsSpec.post enc Tryz.prog Tryz.f4 false true false false W args v W':=by
 have hW':=hW;obtain⟨p,q,hA0,hV,rfl,hfz,hnd⟩:=hW;have hA:DataW.TrodAll enc Tryz.prog W 0 (λ_=>true) true Tryz.f4.params.toList args.toList ds p:=hA0;rw[Tryz.params4] at hA hval;obtain⟨v0,vs0,d0,ds0,p0,q0,hargs0,rfl,rfl,h0,r0⟩:=trodAll_cons hA;obtain⟨v1,vs1,d1,ds1,p1,q1,hargs1,rfl,rfl,h1,r1⟩:=trodAll_cons r0;obtain⟨rfl,rfl,rfl⟩:=trodAll_nil r1;obtain rfl:args=#[v0,v1]:=by cases args;simp_all
 obtain⟨rfl,rfl⟩:=trodVars_none hV;have agg:∀v,Value.okWide Tryz.prog W .any base 24 v->∃cs,v=.agg cs:=by
  intro v h2;unfold Value.okWide at h2;rw[Tryz.underlying24] at h2;obtain⟨cs,rfl,_⟩:=h2;exact⟨cs,rfl⟩
 obtain⟨cs,rfl⟩:=agg v0 (hval 0 24 v0 rfl rfl);obtain⟨cs2,rfl⟩:=agg v1 (hval 1 24 v1 rfl rfl);clear hA0;simp only[agj] at hW';have lf:kY W:=acu hL;have h0':=h0;have h1':=h1;obtain⟨fuel,hx⟩:=h0';obtain⟨fuel2,hx2⟩:=h1';obtain⟨v,z,ι,hh,s,N,ec,B,_,_,hr,G⟩:=Kg (F4.emp λW' k=>lf.kept k) hx;obtain⟨v',z',ι2,hh2,s',M,ec2,B2,le2,f2,hr2,G2⟩:=Kg B hx2;have hl:aX Tryz.prog ι2 [M0 .sl s,vi z] cs.toList:=by rw[show cs.toList=_ from ec];exact .cons (hr.mono le2) (.cons (.flat _ rfl) .nil)
 have hl2:aX Tryz.prog ι2 [M0 .sl s',vi z'] cs2.toList:=by rw[show cs2.toList=_ from ec2];exact .cons hr2 (.cons (.flat _ rfl) .nil)
 have law:=PN (r:=z) (s:=z') B2.wf (G.fr f2) G2 (aa2 (MV+2000));have run:=B2.calls (vQ (MV+2000)) (λa w=>iV (fn:=Tryz.f4) (by kernel_rfl) (by kernel_rfl) (by kernel_rfl) a w) (x:=((s,z),(s',z'))) (y:=true) law #[.agg cs,.agg cs2]
  (.cons (.agg _ _ hl.1 λi v v' a b=>hl.2 i v v' (by rw[amI] at a;exact a) (by rw[<-aeN] at b;exact b))
   (.cons (.agg _ _ hl2.1 λi v v' a b=>hl2.2 i v v' (by rw[amI] at a;exact a) (by rw[<-aeN] at b;exact b)) .nil))
 refine run.mono λe W' hx=>?_;obtain⟨v',ι',rfl,hv,k⟩:=hx;obtain rfl:=X1 hv;have hlt:=hW'.lt;exact⟨_,rfl,LC (pa:=p0++p1) (pv:=[]) hW' (λ_ _ _=>trodAll_cons_mk (shut_bool Tryz.underlying4 _) trodAll_mk0)
  (λsp hsp=>by
   have t0:=WideElems.Trod_stays (P:=Tryz.prog) PO (by kernel_rfl) (akH (by kernel_rfl)) h0 (sp':=sp) (λp hp=>KT k (hlt p (adO _ hp))) λp hp=>hsp p (adO _ hp);have t1:=WideElems.Trod_stays (P:=Tryz.prog) PO (by kernel_rfl) (akH (by kernel_rfl)) h1 (sp':=sp) (λp hp=>KT k (hlt p (abI _ hp))) λp hp=>hsp p (abI _ hp);have:=trodAll_cons_mk t0 (trodAll_cons_mk t1 (trodAll_mk0 (P:=Tryz.prog) (enc:=enc) (w:=W')));rw[show p0++(p1++[])=p0++p1 by simp] at this;exact this) (λ_ _=>rfl) (by simp)
  k (ok_one (by kernel_rfl) rfl (okWide_bool_mk Tryz.underlying4 _))⟩
abbrev wit:ο:=.agg #[.slice none 0 0,.int .i64 0]
abbrev al7 {H:Type}:DataW H:=.agg [.nil,.lit (.int .i64 0)]
theorem reads (os:Os){H:Type}(enc:μ×ο->H):∃places,DataW.whole enc Tryz.prog ((E4 os).forCall (λ_ _=>0) ⟨#[],#[wit,wit],[]⟩).memory Tryz.f4.params.toList Rows.equalPointsSpec.vars false #[wit,wit].toList 8=some ([al7,al7],[],places):=
 ⟨[],by kernel_rfl⟩
set_option maxRecDepth 100000 in
theorem lifted (os:Os)(started:os.Started)(H:Type)(enc:μ×ο->H)(F:Stop.Interp) :
  ReturnsInHanded {} Tryz.checked os 4 .any ((OpenSpec.ofChange Rows.equalPointsSpec).preRow enc Tryz.prog Tryz.f4 Rows.equalPointsRow.domain false Rows.equalPointsRow.laid) (((OpenSpec.ofChange Rows.equalPointsSpec).at F).post enc Tryz.prog Tryz.f4 false true false false):=by
 obtain⟨places,hx⟩:=reads os enc;refine returnsInHanded_of_row (C:=Tryz.checked) (s:=OpenSpec.ofChange Rows.equalPointsSpec) own started (by kernel_rfl) Tryz.func4
  (witness_row_atRef (enc:=enc) (C:=Tryz.checked) false (E4 os) #[wit,wit] rfl (by kernel_rfl) (by kernel_rfl) (by kernel_rfl)
   (OpenSpec.preRow_of_cond 8 hx (by kernel_rfl) (λk hk=>by cases hk) (by kernel_rfl) (X6 os _))) ?_
 intro W base args ds gs before hval hW _ _ _ hL _ _;exact abC H enc W base args ds gs before hval hW hL
theorem k0:(Rows.equalPointsRow.inPlace==Tryz.pinned.checked.prog.inPlace 4)=true:=by kernel_rfl
theorem k1:(Rows.equalPointsRow.unfollowed==Tryz.pinned.checked.prog.unfollowed 4)=true:=by kernel_rfl
theorem k2:(Rows.equalPointsRow.recurses==Tryz.pinned.checked.prog.recurses 4)=true:=by kernel_rfl
theorem k3:(Rows.equalPointsRow.named==Tryz.pinned.checked.prog.varsNamed 4)=true:=by kernel_rfl
theorem k4:joinedFacts Tryz.pinned.checked.prog 4 Tryz.f4 (OpenSpec.ofChange Rows.equalPointsSpec).bare Rows.equalPointsRow=true:=by
 unfold joinedFacts;rw[k0,k1,k2,k3]
 kernel_rfl
theorem said:Rows.EqualPointsSaid:=
 OpenClaim.holds_of_cond 4 Tryz.f4 rfl rfl rfl rfl rfl rfl rfl ⟨rfl,rfl,rfl,rfl,rfl⟩ rfl rfl rfl rfl rfl (by kernel_rfl) Tryz.func4 k4
  (akH (by kernel_rfl)) (by unfold Func.isWrapper;first|(rw[By (by decide +kernel)];kernel_rfl)|(rw[AT (by decide +kernel)];exact⟨rfl,rfl⟩))
  (λos started H enc _ F=>by rw[OpenClaim.pre_eq_preRow];exact lifted os started H enc F)
theorem plain (f:FuncId)(fn:Func)(hf:Tryz.pinned.checked.prog.funcNamed Tryz.f4.name=some f)(hfn:Tryz.pinned.checked.prog.funcs[f]?=some fn) :
  true=Tryz.pinned.checked.prog.looks []/\∀(j:Nat) t,fn.params[j]?=some t->Tryz.pinned.checked.prog.wantsStandIn t=false:=by
 obtain rfl:f=4:=abL ((show Tryz.prog.funcNamed Tryz.f4.name=some 4 by kernel_rfl).symm.trans hf) |>.symm;obtain rfl:fn=Tryz.f4:=(abL (Tryz.func4.symm.trans hfn)).symm;refine⟨by kernel_rfl,λj t ht=>?_⟩;rw[Tryz.params4] at ht;have hm:=ant ht;simp only[List.mem_toArray,al8,amh,aoj] at hm;rcases hm with rfl|rfl<;>exact (show Tryz.prog.wantsStandIn 24=false by kernel_rfl)
theorem card:Rows.EqualPointsCardSaid:=
 Claim7.holds_tied_plain_at .later [] _ _ _ _ said (λ_ h=>by cases h) (by kernel_rfl) (λ_ h=>by cases h) equalPoints_row_tie rfl ⟨rfl,rfl⟩ (by kernel_rfl) rfl plain (by kernel_rfl)
end Go.Proofs.YtdbjhobkhjneeaaGreatDoor.equalPoints
#print axioms Go.Proofs.YtdbjhobkhjneeaaGreatDoor.equalPoints.card
