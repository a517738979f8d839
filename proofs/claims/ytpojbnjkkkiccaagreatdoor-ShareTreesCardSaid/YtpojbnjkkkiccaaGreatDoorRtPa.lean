/-

-/
import Derived.Test.YtpojbnjkkkiccaaGreatDoorDc
import Derived.Test.YtpojbnjkkkiccaaGreatDoorPal
set_option linter.all false
namespace Go.Proofs.YtpojbnjkkkiccaaGreatDoor
open Go Go.Ago Go.Sh Go.ChangeShapes Go.WideShapes
theorem acS:laidOutB Tryz.prog=true:=by kernel_rfl
theorem Yp {W W':World}(k:Kept W W'){p:MemPlace}(hp:p.block<W.heap.size):W.sameAt W' p:=by
 have h1:=k.1 p.block _ (alV hp);cases p with
 |cell b off=>
  show W'.cell? ⟨b,off,none⟩=W.cell? ⟨b,off,none⟩;unfold World.cell?;simp only;rw[show W'.heap[b]?=W.heap[b]? from h1.trans (alV hp).symm]
 |map b=>exact h1.trans (alV hp).symm
end Go.Proofs.YtpojbnjkkkiccaaGreatDoor
namespace Go.Proofs.YtpojbnjkkkiccaaGreatDoor.shareTrees
open Go.ChangeShapes Go.WideShapes Go.ChangeAt Go.RowKit Go.Ago Go.Sh Go.ChangeMaps
set_option maxRecDepth 100000 in
theorem acT (H:Type)(enc:κ×ξ->H)(W:World)(base:Nat)(args:ν)(ds gs:List (DataW H))(before:List MemPlace)
  (hval:∀(j:Nat) t v,Tryz.f3.params[j]?=some t->args[j]?=some v->Value.okWide Tryz.prog W .any base t v)
  (hW:DataW.Whole enc Tryz.prog Tryz.f3.params.toList Rows.shareTreesSpec.vars false W args.toList ds gs before) (hL:laidMetH Tryz.prog Rows.shareTreesRow.laid W) :
  Calls Tryz.prog 3 args W λe W'=>∃v,e=.returned v/\Rows.shareTreesSpec.post enc Tryz.prog Tryz.f3 false true false false W args v W':=by
 have hW':=hW;obtain⟨p,q,hA0,hV,rfl,hfz,hnd⟩:=hW;have hA:DataW.TrodAll enc Tryz.prog W 0 (λ_=>true) true Tryz.f3.params.toList args.toList ds p:=hA0;rw[Tryz.params3] at hA hval;obtain⟨v0,vs0,d0,ds0,p0,q0,hargs0,rfl,rfl,h0,r0⟩:=trodAll_cons hA;obtain⟨rfl,rfl,rfl⟩:=trodAll_nil r0;obtain rfl:args=#[v0]:=by cases args;simp_all
 obtain⟨rfl,rfl⟩:=trodVars_none hV;have agg:∀v,Value.okWide Tryz.prog W .any base 24 v->∃cs,v=.agg cs:=by
  intro v h2;unfold Value.okWide at h2;rw[Tryz.underlying24] at h2;obtain⟨cs,rfl,_⟩:=h2;exact⟨cs,rfl⟩
 obtain⟨cs,rfl⟩:=agg v0 (hval 0 24 v0 rfl rfl);clear hA0;simp only[afx] at hW';have lf:lr W:=adI hL;have h0':=h0;obtain⟨fuel,hx⟩:=h0';obtain⟨v,z,ι,hh,s,N,ec,B,_,_,hr,G⟩:=Wd (HV.emp λW' k=>lf.kept k) hx;have hl:aW Tryz.prog ι [QX .sl s,vi z] cs.toList:=by rw[show cs.toList=_ from ec];exact .cons hr (.cons (.flat _ rfl) .nil)
 have law:=acR (root:=z) B.wf G (abi fuT);have run:=B.calls (xP fuT) (λa w=>iN (fn:=Tryz.f3) (by kernel_rfl) (by kernel_rfl) (by kernel_rfl) a w) (x:=(s,z)) (y:=true) law #[.agg cs]
  (.cons (.agg _ _ hl.1 λi v v' a b=>hl.2 i v v' (by rw[aoY] at a;exact a) (by rw[<-ahP] at b;exact b)) .nil)
 refine run.mono λe W' hx=>?_;obtain⟨v',ι',rfl,hv,k⟩:=hx;obtain rfl:=Zk hv;have hlt:=hW'.lt;exact⟨_,rfl,Nt (pa:=p0) (pv:=[]) hW' (λ_ _ _=>trodAll_cons_mk (shut_bool Tryz.underlying4 _) trodAll_mk0)
  (λsp hsp=>by
   have t0:=WideElems.Trod_stays (P:=Tryz.prog) acS (by kernel_rfl) (anl (by kernel_rfl)) h0 (sp':=sp) (λp hp=>Yp k (hlt p hp)) λp hp=>hsp p hp;have:=trodAll_cons_mk t0 (trodAll_mk0 (P:=Tryz.prog) (enc:=enc) (w:=W'));rw[show p0++[]=p0 by simp] at this;exact this) (λ_ _=>rfl) (by simp)
  k (ok_one (by kernel_rfl) rfl (okWide_bool_mk Tryz.underlying4 _))⟩
abbrev wit:ξ:=.agg #[.slice none 0 0,.int .i64 0]
abbrev aoZ {H:Type}:DataW H:=.agg [.nil,.lit (.int .i64 0)]
theorem reads (os:Os){H:Type}(enc:κ×ξ->H):∃places,DataW.whole enc Tryz.prog ((G3 os).forCall (λ_ _=>0) ⟨#[],#[wit],[]⟩).memory Tryz.f3.params.toList Rows.shareTreesSpec.vars false #[wit].toList 8=some ([aoZ],[],places):=
 ⟨[],by kernel_rfl⟩
set_option maxRecDepth 100000 in
theorem lifted (os:Os)(started:os.Started)(H:Type)(enc:κ×ξ->H)(F:Stop.Interp) :
  ReturnsInHanded {} Tryz.checked os 3 .any ((OpenSpec.ofChange Rows.shareTreesSpec).preRow enc Tryz.prog Tryz.f3 Rows.shareTreesRow.domain false Rows.shareTreesRow.laid) (((OpenSpec.ofChange Rows.shareTreesSpec).at F).post enc Tryz.prog Tryz.f3 false true false false):=by
 obtain⟨places,hx⟩:=reads os enc;refine returnsInHanded_of_row (C:=Tryz.checked) (s:=OpenSpec.ofChange Rows.shareTreesSpec) own started (by kernel_rfl) Tryz.func3
  (witness_row_atRef (enc:=enc) (C:=Tryz.checked) false (G3 os) #[wit] rfl (by kernel_rfl) (by kernel_rfl) (by kernel_rfl)
   (OpenSpec.preRow_of_cond 8 hx (by kernel_rfl) (λk hk=>by cases hk) (by kernel_rfl) (Zo os _))) ?_
 intro W base args ds gs before hval hW _ _ _ hL _ _;exact acT H enc W base args ds gs before hval hW hL
theorem k0:(Rows.shareTreesRow.inPlace==Tryz.pinned.checked.prog.inPlace 3)=true:=by kernel_rfl
theorem k1:(Rows.shareTreesRow.unfollowed==Tryz.pinned.checked.prog.unfollowed 3)=true:=by kernel_rfl
theorem k2:(Rows.shareTreesRow.recurses==Tryz.pinned.checked.prog.recurses 3)=true:=by kernel_rfl
theorem k3:(Rows.shareTreesRow.named==Tryz.pinned.checked.prog.varsNamed 3)=true:=by kernel_rfl
theorem k4:joinedFacts Tryz.pinned.checked.prog 3 Tryz.f3 (OpenSpec.ofChange Rows.shareTreesSpec).bare Rows.shareTreesRow=true:=by
 unfold joinedFacts;rw[k0,k1,k2,k3]
 kernel_rfl
theorem said:Rows.ShareTreesSaid:=
 OpenClaim.holds_of_cond 3 Tryz.f3 rfl rfl rfl rfl rfl rfl rfl ⟨rfl,rfl,rfl,rfl,rfl⟩ rfl rfl rfl rfl rfl (by kernel_rfl) Tryz.func3 k4
  (anl (by kernel_rfl)) (by unfold Func.isWrapper;first|(rw[By (by decide +kernel)];kernel_rfl)|(rw[AT (by decide +kernel)];exact⟨rfl,rfl⟩))
  (λos started H enc _ F=>by rw[OpenClaim.pre_eq_preRow];exact lifted os started H enc F)
theorem plain (f:FuncId)(fn:Func)(hf:Tryz.pinned.checked.prog.funcNamed Tryz.f3.name=some f)(hfn:Tryz.pinned.checked.prog.funcs[f]?=some fn) :
  true=Tryz.pinned.checked.prog.looks []/\∀(j:Nat) t,fn.params[j]?=some t->Tryz.pinned.checked.prog.wantsStandIn t=false:=by
 obtain rfl:f=3:=acZ ((show Tryz.prog.funcNamed Tryz.f3.name=some 3 by kernel_rfl).symm.trans hf) |>.symm;obtain rfl:fn=Tryz.f3:=(acZ (Tryz.func3.symm.trans hfn)).symm;refine⟨by kernel_rfl,λj t ht=>?_⟩;rw[Tryz.params3] at ht;have hm:=ao1 ht;simp only[List.mem_toArray,aok,List.not_mem_nil,or_false] at hm;rcases hm with rfl<;>exact (show Tryz.prog.wantsStandIn 24=false by kernel_rfl)
theorem card:Rows.ShareTreesCardSaid:=
 Claim7.holds_tied_plain_at .later [] _ _ _ _ said (λ_ h=>by cases h) (by kernel_rfl) (λ_ h=>by cases h) shareTrees_row_tie rfl ⟨rfl,rfl⟩ (by kernel_rfl) rfl plain (by kernel_rfl)
end Go.Proofs.YtpojbnjkkkiccaaGreatDoor.shareTrees
#print axioms Go.Proofs.YtpojbnjkkkiccaaGreatDoor.shareTrees.card
