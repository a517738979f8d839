
import Derived.Test.YtajnpfnomgjlaaaGreatDoorDcPa
set_option linter.all false
namespace Go.Proofs.YtajnpfnomgjlaaaGreatDoor
open Go Go.Ago Go.Sh Go.ChangeShapes Go.WideShapes
theorem Zy:laidOutB Tryz.prog=true:=by kernel_rfl
theorem U0 {W W'}(k:Kept W W'){p}(hp:p.block<W.heap.size):W.sameAt W' p:=by
 have h1:=k.1 p.block _ (agF hp);cases p with
 |cell b off=>
  show W'.cell? ⟨b,off,none⟩=W.cell? ⟨b,off,none⟩;unfold World.cell?;simp only;rw[show W'.heap[b]?=W.heap[b]? from h1.trans (agF hp).symm]
 |map b=>exact h1.trans (agF hp).symm
end Go.Proofs.YtajnpfnomgjlaaaGreatDoor
namespace Go.Proofs.YtajnpfnomgjlaaaGreatDoor.bencodeoutNormal
open Go.ChangeShapes Go.WideShapes Go.ChangeAt Go.RowKit Go.Ago Go.Sh Go.ChangeMaps
set_option maxRecDepth 100000 in
theorem Zz (H:Type)(enc:κ×ξ->H)(W:World)(base:Nat)(args:ν)(ds gs:List (DataW H))(before:List MemPlace)
  (hval:∀(j:Nat) t v,Tryz.f3.params[j]?=some t->args[j]?=some v->Value.okWide Tryz.prog W .any base t v)
  (hW:DataW.Whole enc Tryz.prog Tryz.f3.params.toList Rows.bencodeoutNormalSpec.vars false W args.toList ds gs before)(hL:laidMetH Tryz.prog Rows.bencodeoutNormalRow.laid W) :
  Calls Tryz.prog 3 args W λe W'=>∃v,e=.returned v/\Rows.bencodeoutNormalSpec.post enc Tryz.prog Tryz.f3 false true false false W args v W':=by
 have hW':=hW;obtain⟨p,q,hA0,hV,rfl,hfz,hnd⟩:=hW;have hA:DataW.TrodAll enc Tryz.prog W 0 (λ_=>true) true Tryz.f3.params.toList args.toList ds p:=hA0;rw[Tryz.params3] at hA hval;obtain⟨v0,vs0,d0,ds0,p0,q0,hargs0,rfl,rfl,h0,r0⟩:=trodAll_cons hA;obtain⟨rfl,rfl,rfl⟩:=trodAll_nil r0;obtain rfl:args=#[v0]:=by cases args;simp_all
 obtain⟨rfl,rfl⟩:=trodVars_none hV;have hagg:∃cs,v0=.agg cs:=by
  have h2:=hval 0 24 v0 rfl rfl;unfold Value.okWide at h2;rw[Tryz.underlying24] at h2;obtain⟨cs,rfl,_⟩:=h2;exact⟨cs,rfl⟩
 obtain⟨cs,rfl⟩:=hagg;clear hA0;simp only[agA] at hW';have lf:mF W:=aaz hL;have h0':=h0;obtain⟨fuel,hx⟩:=h0';obtain⟨v,z,ι,hh,s,N,ec,B,_,_,hr,G⟩:=UZ (Em.emp λW' k=>lf.kept k) hx;have hl:bz Tryz.prog ι [Od .sl s,vi z] cs.toList:=by rw[show cs.toList=_ from ec];exact .cons hr (.cons (.flat _ rfl) .nil)
 obtain⟨n,law⟩:=Ql (root:=z) B.wf G;have run:=B.calls (sR n) (λa w=>jc (fn:=Tryz.f3) (by kernel_rfl) (by kernel_rfl) (by kernel_rfl) a w) law #[.agg cs]
  (.cons (.agg _ _ hl.1 λi v v' a b=>hl.2 i v v' (by rw[ajn] at a;exact a) (by rw[<-afD] at b;exact b)) .nil)
 refine run.mono λe W' hx=>?_;obtain⟨v',ι',rfl,hv,k⟩:=hx;obtain rfl:=VU hv;have hlt:=hW'.lt;exact⟨_,rfl,Jg hW' (λ_ _ _=>trodAll_cons_mk (shut_bool Tryz.underlying4 _) trodAll_mk0)
  (λsp hsp=>by
   have t0:=WideElems.Trod_stays Zy (by kernel_rfl) (ajb (by kernel_rfl)) h0 (λp hp=>U0 k (hlt p hp)) hsp;have:=trodAll_cons_mk t0 (trodAll_mk0);rw[show p0++[]=p0 by simp] at this;exact this) (λ_ _=>rfl) (by simp)
  k (ok_one (by kernel_rfl) rfl (okWide_bool_mk Tryz.underlying4 _))⟩
abbrev wit:ξ:=.agg #[.slice none 0 0,.int .i64 0]
abbrev ajc {H}:DataW H:=.agg [.nil,.lit (.int .i64 0)]
theorem reads os {H}(enc:κ×ξ->H):∃places,DataW.whole enc Tryz.prog ((Dl os).forCall (λ_ _=>0) ⟨#[],#[wit],[]⟩).memory Tryz.f3.params.toList Rows.bencodeoutNormalSpec.vars false #[wit].toList 8=some ([ajc],[],places):=
 ⟨[],by kernel_rfl⟩
set_option maxRecDepth 100000 in
theorem lifted (os:Os)(started:os.Started)(H:Type)(enc:κ×ξ->H)(F:Stop.Interp) :
  ReturnsInHanded {} Tryz.checked os 3 .any ((OpenSpec.ofChange Rows.bencodeoutNormalSpec).preRow enc Tryz.prog Tryz.f3 Rows.bencodeoutNormalRow.domain false Rows.bencodeoutNormalRow.laid) (((OpenSpec.ofChange Rows.bencodeoutNormalSpec).at F).post enc Tryz.prog Tryz.f3 false true false false):=by
 obtain⟨places,hx⟩:=reads os enc;refine returnsInHanded_of_row own started (by kernel_rfl) Tryz.func3
  (witness_row_atRef false (Dl os) #[wit] rfl (by kernel_rfl) (by kernel_rfl) (by kernel_rfl)
   (OpenSpec.preRow_of_cond 8 hx (by kernel_rfl) (λk hk=>by cases hk) (by kernel_rfl) (VY os _))) ?_
 intro W base args ds gs before hval hW _ _ _ hL _ _;exact Zz H enc W base args ds gs before hval hW hL
theorem said:Rows.BencodeoutNormalSaid:=
 OpenClaim.holds_of_cond 3 Tryz.f3 rfl rfl rfl rfl rfl rfl rfl ⟨rfl,rfl,rfl,rfl,rfl⟩ rfl rfl rfl rfl rfl (by kernel_rfl) Tryz.func3 (by kernel_rfl)
  (ajb (by kernel_rfl)) (by unfold Func.isWrapper;first|(rw[By (by decide +kernel)];kernel_rfl)|(rw[AT (by decide +kernel)];exact⟨rfl,rfl⟩))
  (λos started H enc _ F=>by rw[OpenClaim.pre_eq_preRow];exact lifted os started H enc F)
theorem plain f fn (hf:Tryz.pinned.checked.prog.funcNamed Tryz.f3.name=some f)(hfn:Tryz.pinned.checked.prog.funcs[f]?=some fn) :
  true=Tryz.pinned.checked.prog.looks []/\∀(j:Nat) t,fn.params[j]?=some t->Tryz.pinned.checked.prog.wantsStandIn t=false:=by
 obtain rfl:f=3:=adP ((show Tryz.prog.funcNamed Tryz.f3.name=some 3 by kernel_rfl).symm.trans hf) |>.symm;obtain rfl:fn=Tryz.f3:=(adP (Tryz.func3.symm.trans hfn)).symm;refine⟨by kernel_rfl,λj t ht=>?_⟩;rw[Tryz.params3] at ht;have hm:=ajp ht;simp at hm;subst hm;exact (show Tryz.prog.wantsStandIn 24=false by kernel_rfl)
theorem card:Rows.BencodeoutNormalCardSaid:=
 Claim7.holds_tied_plain_at .later [] _ _ _ _ said (λ_ h=>by cases h) (by kernel_rfl) (λ_ h=>by cases h) bencodeoutNormal_row_tie rfl ⟨rfl,rfl⟩ (by kernel_rfl) rfl plain (by kernel_rfl)
end Go.Proofs.YtajnpfnomgjlaaaGreatDoor.bencodeoutNormal
#print axioms Go.Proofs.YtajnpfnomgjlaaaGreatDoor.bencodeoutNormal.card
