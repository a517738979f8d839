
import Derived.Test.YtcdofopdlaebaaaGreatDoorDcPa
set_option linter.all false
namespace Go.Proofs.YtcdofopdlaebaaaGreatDoor
open Go Go.Ago Go.Sh Go.ChangeShapes Go.WideShapes
theorem W8:laidOutB Tryz.prog=true:=by kernel_rfl
theorem SU {W W':World}(k:Kept W W'){p:MemPlace}(hp:p.block<W.heap.size):W.sameAt W' p:=by
 have h1:=k.1 p.block _ (adH hp);cases p with
 |cell b off=>
  show W'.cell? ⟨b,off,none⟩=W.cell? ⟨b,off,none⟩;unfold World.cell?;simp only;rw[show W'.heap[b]?=W.heap[b]? from h1.trans (adH hp).symm]
 |map b=>exact h1.trans (adH hp).symm
end Go.Proofs.YtcdofopdlaebaaaGreatDoor
namespace Go.Proofs.YtcdofopdlaebaaaGreatDoor.equalRelates
open Go.ChangeShapes Go.WideShapes Go.ChangeAt Go.RowKit Go.Ago Go.Sh Go.ChangeMaps
set_option maxRecDepth 100000 in
theorem W9 (H:Type)(enc:TypeId×Value->H)(W:World)(base:Nat)(args:Array Value)(ds gs:List (DataW H))(before:List MemPlace)
  (hval:∀(j:Nat) t v,Tryz.f3.params[j]?=some t->args[j]?=some v->Value.okWide Tryz.prog W .any base t v)
  (hW:DataW.Whole enc Tryz.prog Tryz.f3.params.toList Rows.equalRelatesSpec.vars false W args.toList ds gs before) (hL:laidMetH Tryz.prog Rows.equalRelatesRow.laid W) :
  Calls Tryz.prog 3 args W λe W'=>∃v,e=.returned v/\Rows.equalRelatesSpec.post enc Tryz.prog Tryz.f3 false true false false W args v W':=by
 have hW':=hW;obtain⟨p,q,hA0,hV,rfl,hfz,hnd⟩:=hW;have hA:DataW.TrodAll enc Tryz.prog W 0 (λ_=>true) true Tryz.f3.params.toList args.toList ds p:=hA0;rw[Tryz.params3] at hA hval;obtain⟨v0,vs0,d0,ds0,p0,q0,hargs0,rfl,rfl,h0,r0⟩:=trodAll_cons hA;obtain⟨rfl,rfl,rfl⟩:=trodAll_nil r0;obtain rfl:args=#[v0]:=by cases args;simp_all
 obtain⟨rfl,rfl⟩:=trodVars_none hV;have hagg:∃cs,v0=.agg cs:=by
  have h2:=hval 0 25 v0 rfl rfl;unfold Value.okWide at h2;rw[Tryz.underlying25] at h2;obtain⟨cs,rfl,_⟩:=h2;exact⟨cs,rfl⟩
 obtain⟨cs,rfl⟩:=hagg;clear hA0;simp only[adG] at hW';have lf:mV W:=XY hL;have h0':=h0;obtain⟨fuel,hx⟩:=h0';obtain⟨ι,hh,s1,z1,s2,z2,s3,z3,N1,N2,N3,B,hl,G1,G2,G3⟩:=OI (Bj.emp λW' k=>lf.kept k) hx;have hl:bA Tryz.prog ι [FP .sl s1,vi z1,FP .sl s2,vi z2,FP .sl s3,vi z3] cs.toList:=hl;have run:=B.calls (sP (Tc+4)) (λa w=>iF Tryz.func3 (by kernel_rfl) (by kernel_rfl) a w) (x:=((s1,z1,s2,z2,s3,z3))) (y:=true) (OE B.wf G1 G2 G3 (aaR _)) #[.agg cs]
  (.cons (.agg _ _ hl.1 λi v v' a b=>hl.2 i v v' (by rw[afF] at a;exact a) (by rw[<-acQ] at b;exact b)) .nil)
 refine run.mono λe W' hx=>?_;obtain⟨v',ι',rfl,hv,k⟩:=hx;obtain rfl:=T5 hv;have hlt:=hW'.lt;exact⟨_,rfl,HR (pa:=p0) (pv:=[]) hW' (λ_ _ _=>trodAll_cons_mk (shut_bool Tryz.underlying4 _) trodAll_mk0)
  (λsp hsp=>by
   have t0:=WideElems.Trod_stays (P:=Tryz.prog) W8 (by kernel_rfl) (of_decide_eq_true (by kernel_rfl)) h0 (sp':=sp) (λp hp=>SU k (hlt p hp)) hsp;have:=trodAll_cons_mk t0 (trodAll_mk0 (P:=Tryz.prog) (enc:=enc) (w:=W'));rw[show p0++[]=p0 by simp] at this;exact this) (λ_ _=>rfl) (by simp)
  k (ok_one (by kernel_rfl) rfl (okWide_bool_mk Tryz.underlying4 _))⟩
abbrev wit:Value:=.agg #[.slice none 0 0,.int .i64 0,.slice none 0 0,.int .i64 0,.slice none 0 0,.int .i64 0]
abbrev ahF {H:Type}:DataW H:=.agg [.agg [.nil,.lit (.int .i64 0)],.agg [.nil,.lit (.int .i64 0)],.agg [.nil,.lit (.int .i64 0)]]
theorem reads (os:Os){H:Type}(enc:TypeId×Value->H):∃places,DataW.whole enc Tryz.prog ((BA os).forCall (λ_ _=>0) ⟨#[],#[wit],[]⟩).memory Tryz.f3.params.toList Rows.equalRelatesSpec.vars false #[wit].toList 8=some ([ahF],[],places):=
 ⟨[],by kernel_rfl⟩
set_option maxRecDepth 100000 in
theorem lifted (os:Os)(started:os.Started)(H:Type)(enc:TypeId×Value->H)(F:Stop.Interp) :
  ReturnsInHanded {} Tryz.checked os 3 .any ((OpenSpec.ofChange Rows.equalRelatesSpec).preRow enc Tryz.prog Tryz.f3 Rows.equalRelatesRow.domain false Rows.equalRelatesRow.laid) (((OpenSpec.ofChange Rows.equalRelatesSpec).at F).post enc Tryz.prog Tryz.f3 false true false false):=by
 obtain⟨places,hx⟩:=reads os enc;refine returnsInHanded_of_row (C:=Tryz.checked) (s:=OpenSpec.ofChange Rows.equalRelatesSpec) own started (by kernel_rfl) Tryz.func3
  (witness_row_atRef (enc:=enc) (C:=Tryz.checked) false (BA os) #[wit] rfl (by kernel_rfl) (by kernel_rfl) (by kernel_rfl)
   (OpenSpec.preRow_of_cond 8 hx (by kernel_rfl) (λk hk=>by cases hk) (by kernel_rfl) (T9 os _))) ?_
 intro W base args ds gs before hval hW _ _ _ hL _ _;exact W9 H enc W base args ds gs before hval hW hL
theorem said:Rows.EqualRelatesSaid:=
 OpenClaim.holds_of_cond 3 Tryz.f3 rfl rfl rfl rfl rfl rfl rfl ⟨rfl,rfl,rfl,rfl,rfl⟩ rfl rfl rfl rfl rfl (by kernel_rfl) Tryz.func3 (by kernel_rfl)
  (of_decide_eq_true (by kernel_rfl)) (by unfold Func.isWrapper;first|(rw[if_pos (by decide +kernel)];kernel_rfl)|(rw[if_neg (by decide +kernel)];exact⟨rfl,rfl⟩))
  (λos started H enc _ F=>by rw[OpenClaim.pre_eq_preRow];exact lifted os started H enc F)
theorem plain (f:FuncId)(fn:Func)(hf:Tryz.pinned.checked.prog.funcNamed Tryz.f3.name=some f)(hfn:Tryz.pinned.checked.prog.funcs[f]?=some fn) :
  true=Tryz.pinned.checked.prog.looks []/\∀(j:Nat) t,fn.params[j]?=some t->Tryz.pinned.checked.prog.wantsStandIn t=false:=by
 obtain rfl:f=3:=abi ((show Tryz.prog.funcNamed Tryz.f3.name=some 3 by kernel_rfl).symm.trans hf) |>.symm;obtain rfl:fn=Tryz.f3:=(abi (Tryz.func3.symm.trans hfn)).symm;refine⟨by kernel_rfl,λj t ht=>?_⟩;rw[Tryz.params3] at ht;have hm:=afG ht;simp only[List.mem_toArray,aei,ael,or_false] at hm;subst hm;exact (show Tryz.prog.wantsStandIn 25=false by kernel_rfl)
theorem card:Rows.EqualRelatesCardSaid:=
 Claim7.holds_tied_plain_at .later [] _ _ _ _ said (λ_ h=>by cases h) (by kernel_rfl) (λ_ h=>by cases h) equalRelates_row_tie rfl ⟨rfl,rfl⟩ (by kernel_rfl) rfl plain (by kernel_rfl)
end Go.Proofs.YtcdofopdlaebaaaGreatDoor.equalRelates
#print axioms Go.Proofs.YtcdofopdlaebaaaGreatDoor.equalRelates.card
