
import Derived.Test.YtengdffgmpghgaaGreatDoorDcPa
set_option linter.all false
namespace Go.Proofs.YtengdffgmpghgaaGreatDoor
open Go Go.Ago Go.Sh Go.ChangeShapes Go.WideShapes
theorem Z9:laidOutB Tryz.prog=true:=by kernel_rfl
theorem V3 {W W':World}(k:Kept W W'){p:MemPlace}(hp:p.block<W.heap.size):W.sameAt W' p:=by
 have h1:=k.1 p.block _ (agH hp);cases p with
 |cell b off=>
  show W'.cell? ⟨b,off,none⟩=W.cell? ⟨b,off,none⟩;unfold World.cell?;simp only;rw[show W'.heap[b]?=W.heap[b]? from h1.trans (agH hp).symm]
 |map b=>exact h1.trans (agH hp).symm
end Go.Proofs.YtengdffgmpghgaaGreatDoor
namespace Go.Proofs.YtengdffgmpghgaaGreatDoor.spanTrips
open Go.ChangeShapes Go.WideShapes Go.ChangeAt Go.RowKit Go.Ago Go.Sh Go.ChangeMaps
set_option maxRecDepth 100000 in
theorem aaa (H:Type)(enc:κ×ξ->H)(W:World)(base:Nat)(args:ν)(ds gs:List (DataW H))(before:List MemPlace)
  (hval:∀(j:Nat) t v,Tryz.f3.params[j]?=some t->args[j]?=some v->Value.okWide Tryz.prog W .any base t v)
  (hW:DataW.Whole enc Tryz.prog Tryz.f3.params.toList Rows.spanTripsSpec.vars false W args.toList ds gs before) (hL:laidMetH Tryz.prog Rows.spanTripsRow.laid W) :
  Calls Tryz.prog 3 args W λe W'=>∃v,e=.returned v/\Rows.spanTripsSpec.post enc Tryz.prog Tryz.f3 false true false false W args v W':=by
 have hW':=hW;obtain⟨p,q,hA0,hV,rfl,hfz,hnd⟩:=hW;have hA:DataW.TrodAll enc Tryz.prog W 0 (λ_=>true) true Tryz.f3.params.toList args.toList ds p:=hA0;rw[Tryz.params3] at hA hval;obtain⟨v0,vs0,d0,ds0,p0,q0,hargs0,rfl,rfl,h0,r0⟩:=trodAll_cons hA;obtain⟨rfl,rfl,rfl⟩:=trodAll_nil r0;obtain rfl:args=#[v0]:=by cases args;simp_all
 obtain⟨rfl,rfl⟩:=trodVars_none hV;have hagg:∃cs,v0=.agg cs:=by
  have h2:=hval 0 28 v0 rfl rfl;unfold Value.okWide at h2;rw[Tryz.underlying28] at h2;obtain⟨cs,rfl,_⟩:=h2;exact⟨cs,rfl⟩
 obtain⟨cs,rfl⟩:=hagg;clear hA0;simp only[afw] at hW';have lf:kq W:=aa7 hL;have h0':=h0;obtain⟨fuel,hx⟩:=h0';obtain⟨ι,hh,z1,src,dh,root,cz,tsl,N,S,T,B,_,_,hl,G,R,RT,hE⟩:=ade (yr.emp λW' k=>lf.kept k) hx;have hl:bg Tryz.prog ι [vi z1,.string src,F8 .sl dh,vi root,F8 .sl cz,F8 .sl tsl] cs.toList:=hl;have run:=B.calls (vF fuT) (λa w=>ia Tryz.func3 (by kernel_rfl) (by kernel_rfl) a w) (x:=(z1,src,dh,root,cz,tsl)) (y:=true) (Z5 B.wf G R RT hE) #[.agg cs]
  (.cons (.agg _ _ hl.1 λi v v' a b=>hl.2 i v v' (by rw[aj9] at a;exact a) (by rw[<-ae5] at b;exact b)) .nil)
 refine run.mono λe W' hx=>?_;obtain⟨v',ι',rfl,hv,k⟩:=hx;obtain rfl:=WW hv;have hlt:=hW'.lt;exact⟨_,rfl,Jz (pa:=p0) (pv:=[]) hW' (λ_ _ _=>trodAll_cons_mk (shut_bool Tryz.underlying4 _) trodAll_mk0)
  (λsp hsp=>by
   have t0:=WideElems.Trod_stays (P:=Tryz.prog) Z9 (by kernel_rfl) (ajZ (by kernel_rfl)) h0 (sp':=sp) (λp hp=>V3 k (hlt p hp)) hsp;have:=trodAll_cons_mk t0 (trodAll_mk0 (P:=Tryz.prog) (enc:=enc) (w:=W'));rw[show p0++[]=p0 by simp] at this;exact this) (λ_ _=>rfl) (by simp)
  k (ok_one (by kernel_rfl) rfl (okWide_bool_mk Tryz.underlying4 _))⟩
abbrev wit:ξ:=.agg #[.int .i64 0,.string ⟨#[]⟩,.slice none 0 0,.int .i64 0,.slice none 0 0,.slice none 0 0]
abbrev al2 {H:Type}:DataW H:=.agg [.lit (.int .i64 0),.lit (.string []),.agg [.nil,.lit (.int .i64 0)],.nil,.nil]
theorem reads (os:Os){H:Type}(enc:κ×ξ->H):∃places,DataW.whole enc Tryz.prog ((Ds os).forCall (λ_ _=>0) ⟨#[],#[wit],[]⟩).memory Tryz.f3.params.toList Rows.spanTripsSpec.vars false #[wit].toList 8=some ([al2],[],places):=
 ⟨[],by kernel_rfl⟩
set_option maxRecDepth 100000 in
theorem lifted (os:Os)(started:os.Started)(H:Type)(enc:κ×ξ->H)(F:Stop.Interp) :
  ReturnsInHanded {} Tryz.checked os 3 .any ((OpenSpec.ofChange Rows.spanTripsSpec).preRow enc Tryz.prog Tryz.f3 Rows.spanTripsRow.domain false Rows.spanTripsRow.laid) (((OpenSpec.ofChange Rows.spanTripsSpec).at F).post enc Tryz.prog Tryz.f3 false true false false):=by
 obtain⟨places,hx⟩:=reads os enc;refine returnsInHanded_of_row (C:=Tryz.checked) (s:=OpenSpec.ofChange Rows.spanTripsSpec) own started (by kernel_rfl) Tryz.func3
  (witness_row_atRef (enc:=enc) (C:=Tryz.checked) false (Ds os) #[wit] rfl (by kernel_rfl) (by kernel_rfl) (by kernel_rfl)
   (OpenSpec.preRow_of_cond 8 hx (by kernel_rfl) (λk hk=>by cases hk) (by kernel_rfl) (W1 os _))) ?_
 intro W base args ds gs before hval hW _ _ _ hL _ _;exact aaa H enc W base args ds gs before hval hW hL
theorem said:Rows.SpanTripsSaid:=
 OpenClaim.holds_of_cond 3 Tryz.f3 rfl rfl rfl rfl rfl rfl rfl ⟨rfl,rfl,rfl,rfl,rfl⟩ rfl rfl rfl rfl rfl (by kernel_rfl) Tryz.func3 (by kernel_rfl)
  (ajZ (by kernel_rfl)) (by unfold Func.isWrapper;first|(rw[By (by decide +kernel)];kernel_rfl)|(rw[AT (by decide +kernel)];exact⟨rfl,rfl⟩))
  (λos started H enc _ F=>by rw[OpenClaim.pre_eq_preRow];exact lifted os started H enc F)
theorem plain (f:FuncId)(fn:Func)(hf:Tryz.pinned.checked.prog.funcNamed Tryz.f3.name=some f)(hfn:Tryz.pinned.checked.prog.funcs[f]?=some fn) :
  true=Tryz.pinned.checked.prog.looks []/\∀(j:Nat) t,fn.params[j]?=some t->Tryz.pinned.checked.prog.wantsStandIn t=false:=by
 obtain rfl:f=3:=aas ((show Tryz.prog.funcNamed Tryz.f3.name=some 3 by kernel_rfl).symm.trans hf) |>.symm;obtain rfl:fn=Tryz.f3:=(aas (Tryz.func3.symm.trans hfn)).symm;refine⟨by kernel_rfl,λj t ht=>?_⟩;rw[Tryz.params3] at ht;have hm:=ajJ ht;simp only[List.mem_toArray,aio,aiQ,akr] at hm;subst hm;exact (show Tryz.prog.wantsStandIn 28=false by kernel_rfl)
theorem card:Rows.SpanTripsCardSaid:=
 Claim7.holds_tied_plain_at .later [] _ _ _ _ said (λ_ h=>by cases h) (by kernel_rfl) (λ_ h=>by cases h) spanTrips_row_tie rfl ⟨rfl,rfl⟩ (by kernel_rfl) rfl plain (by kernel_rfl)
end Go.Proofs.YtengdffgmpghgaaGreatDoor.spanTrips
#print axioms Go.Proofs.YtengdffgmpghgaaGreatDoor.spanTrips.card
