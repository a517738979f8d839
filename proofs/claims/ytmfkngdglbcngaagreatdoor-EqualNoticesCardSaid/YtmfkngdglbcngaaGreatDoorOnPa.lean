
import Derived.Test.YtmfkngdglbcngaaGreatDoorDcPa
set_option linter.all false
namespace Go.Proofs.YtmfkngdglbcngaaGreatDoor
open Go Go.Ago Go.Sh Go.ChangeShapes Go.WideShapes
theorem XT:laidOutB Tryz.prog=true:=by kernel_rfl
theorem TU {W W':World}(k:Kept W W'){p:MemPlace}(hp:p.block<W.heap.size):W.sameAt W' p:=by
 have h1:=k.1 p.block _ (aeX hp);cases p with
 |cell b off=>
  show W'.cell? ⟨b,off,none⟩=W.cell? ⟨b,off,none⟩;unfold World.cell?;simp only;rw[show W'.heap[b]?=W.heap[b]? from h1.trans (aeX hp).symm]
 |map b=>exact h1.trans (aeX hp).symm
end Go.Proofs.YtmfkngdglbcngaaGreatDoor
namespace Go.Proofs.YtmfkngdglbcngaaGreatDoor.equalNotices
open Go.ChangeShapes Go.WideShapes Go.ChangeAt Go.RowKit Go.Ago Go.Sh Go.ChangeMaps
set_option maxRecDepth 100000 in
theorem XU (H:Type)(enc:κ×ξ->H)(W:World)(base:Nat)(args:ν)(ds gs:List (DataW H))(before:List MemPlace)
  (hval:∀(j:Nat) t v,Tryz.f3.params[j]?=some t->args[j]?=some v->Value.okWide Tryz.prog W .any base t v)
  (hW:DataW.Whole enc Tryz.prog Tryz.f3.params.toList Rows.equalNoticesSpec.vars false W args.toList ds gs before) (hL:laidMetH Tryz.prog Rows.equalNoticesRow.laid W) :
  Calls Tryz.prog 3 args W λe W'=>∃v,e=.returned v/\Rows.equalNoticesSpec.post enc Tryz.prog Tryz.f3 false true false false W args v W':=by
 have hW':=hW;obtain⟨p,q,hA0,hV,rfl,hfz,hnd⟩:=hW;have hA:DataW.TrodAll enc Tryz.prog W 0 (λ_=>true) true Tryz.f3.params.toList args.toList ds p:=hA0;rw[Tryz.params3] at hA hval;obtain⟨v0,vs0,d0,ds0,p0,q0,hargs0,rfl,rfl,h0,r0⟩:=trodAll_cons hA;obtain⟨v1,vs1,d1,ds1,p1,q1,hargs1,rfl,rfl,h1,r1⟩:=trodAll_cons r0;obtain⟨rfl,rfl,rfl⟩:=trodAll_nil r1;obtain rfl:args=#[v0,v1]:=by cases args;simp_all
 obtain⟨rfl,rfl⟩:=trodVars_none hV;obtain⟨s1,rfl,rfl,rfl,ws1⟩:=open_int (k:=.u8) Tryz.underlying5 (hval 1 5 v1 rfl rfl) h1;have hagg:∃cs,v0=.agg cs:=by
  have h2:=hval 0 24 v0 rfl rfl;unfold Value.okWide at h2;rw[Tryz.underlying24] at h2;obtain⟨cs,rfl,_⟩:=h2;exact⟨cs,rfl⟩
 obtain⟨cs,rfl⟩:=hagg;clear hA0;simp only[aeF] at hW';have lf:nN W:=YO hL;have h0':=h0;obtain⟨fuel,hx⟩:=h0';obtain⟨v,z,ι,hh,s,N,ec,B,_,_,hr,G⟩:=TT (Dx.emp λW' k=>lf.kept k) hx;have hl:bC Tryz.prog ι [Nf .sl s,vi z] cs.toList:=by rw[show cs.toList=_ from ec];exact .cons hr (.cons (.flat _ rfl) .nil)
 have run:=B.calls (tH (X1+4)) (λa w=>iZ Tryz.func3 (by kernel_rfl) (by kernel_rfl) a w) (x:=((s,z),s1)) (y:=true) (PF B.wf G (wf_u8 ws1) (aao _)) #[.agg cs,.int .u8 s1]
  (.cons (.agg _ _ hl.1 λi v v' a b=>hl.2 i v v' (by rw[ahf] at a;exact a) (by rw[<-aeo] at b;exact b)) (.cons (.flat _ rfl) .nil))
 refine run.mono λe W' hx=>?_;obtain⟨v',ι',rfl,hv,k⟩:=hx;obtain rfl:=UP hv;have hlt:=hW'.lt;exact⟨_,rfl,IJ (pa:=p0) (pv:=[]) hW' (λ_ _ _=>trodAll_cons_mk (shut_bool Tryz.underlying4 _) trodAll_mk0)
  (λsp hsp=>by
   have t0:=WideElems.Trod_stays (P:=Tryz.prog) XT (by kernel_rfl) (agX (by kernel_rfl)) h0 (sp':=sp) (λp hp=>TU k (hlt p hp)) hsp;have:=trodAll_cons_mk t0 (trodAll_cons_mk (shut_int Tryz.underlying5 ws1) (trodAll_mk0 (P:=Tryz.prog) (enc:=enc) (w:=W')));rw[show p0++([]++[])=p0 by simp] at this;exact this) (λ_ _=>rfl) (by simp)
  k (ok_one (by kernel_rfl) rfl (okWide_bool_mk Tryz.underlying4 _))⟩
abbrev wit:ξ:=.agg #[.slice none 0 0,.int .i64 0]
abbrev aiW {H:Type}:DataW H:=.agg [.nil,.lit (.int .i64 0)]
theorem reads (os:Os){H:Type}(enc:κ×ξ->H):∃places,DataW.whole enc Tryz.prog ((Cq os).forCall (λ_ _=>0) ⟨#[],#[wit,.int .u8 0],[]⟩).memory Tryz.f3.params.toList Rows.equalNoticesSpec.vars false #[wit,Value.int .u8 0].toList 8=some ([aiW,.lit (.int .u8 0)],[],places):=
 ⟨[],by kernel_rfl⟩
set_option maxRecDepth 100000 in
theorem lifted (os:Os)(started:os.Started)(H:Type)(enc:κ×ξ->H)(F:Stop.Interp) :
  ReturnsInHanded {} Tryz.checked os 3 .any ((OpenSpec.ofChange Rows.equalNoticesSpec).preRow enc Tryz.prog Tryz.f3 Rows.equalNoticesRow.domain false Rows.equalNoticesRow.laid) (((OpenSpec.ofChange Rows.equalNoticesSpec).at F).post enc Tryz.prog Tryz.f3 false true false false):=by
 obtain⟨places,hx⟩:=reads os enc;refine returnsInHanded_of_row (C:=Tryz.checked) (s:=OpenSpec.ofChange Rows.equalNoticesSpec) own started (by kernel_rfl) Tryz.func3
  (witness_row_atRef (enc:=enc) (C:=Tryz.checked) false (Cq os) #[wit,.int .u8 0] rfl (by kernel_rfl) (by kernel_rfl) (by kernel_rfl)
   (OpenSpec.preRow_of_cond 8 hx (by kernel_rfl) (λk hk=>by cases hk) (by kernel_rfl) (UT os _))) ?_
 intro W base args ds gs before hval hW _ _ _ hL _ _;exact XU H enc W base args ds gs before hval hW hL
theorem said:Rows.EqualNoticesSaid:=
 OpenClaim.holds_of_cond 3 Tryz.f3 rfl rfl rfl rfl rfl rfl rfl ⟨rfl,rfl,rfl,rfl,rfl⟩ rfl rfl rfl rfl rfl (by kernel_rfl) Tryz.func3 (by kernel_rfl)
  (agX (by kernel_rfl)) (by unfold Func.isWrapper;first|(rw[AT (by decide +kernel)];kernel_rfl)|(rw[By (by decide +kernel)];exact⟨rfl,rfl⟩))
  (λos started H enc _ F=>by rw[OpenClaim.pre_eq_preRow];exact lifted os started H enc F)
theorem plain (f:FuncId)(fn:Func)(hf:Tryz.pinned.checked.prog.funcNamed Tryz.f3.name=some f)(hfn:Tryz.pinned.checked.prog.funcs[f]?=some fn) :
  true=Tryz.pinned.checked.prog.looks []/\∀(j:Nat) t,fn.params[j]?=some t->Tryz.pinned.checked.prog.wantsStandIn t=false:=by
 obtain rfl:f=3:=ab0 ((show Tryz.prog.funcNamed Tryz.f3.name=some 3 by kernel_rfl).symm.trans hf) |>.symm;obtain rfl:fn=Tryz.f3:=(ab0 (Tryz.func3.symm.trans hfn)).symm;refine⟨by kernel_rfl,λj t ht=>?_⟩;rw[Tryz.params3] at ht;have hm:=ahi ht;simp only[List.mem_toArray,agu,agx,ahO] at hm;rcases hm with rfl|rfl
 .exact (show Tryz.prog.wantsStandIn 24=false by kernel_rfl)
 .exact (show Tryz.prog.wantsStandIn 5=false by kernel_rfl)
theorem card:Rows.EqualNoticesCardSaid:=
 Claim7.holds_tied_plain_at .later [] _ _ _ _ said (λ_ h=>by cases h) (by kernel_rfl) (λ_ h=>by cases h) equalNotices_row_tie rfl ⟨rfl,rfl⟩ (by kernel_rfl) rfl plain (by kernel_rfl)
end Go.Proofs.YtmfkngdglbcngaaGreatDoor.equalNotices
#print axioms Go.Proofs.YtmfkngdglbcngaaGreatDoor.equalNotices.card
