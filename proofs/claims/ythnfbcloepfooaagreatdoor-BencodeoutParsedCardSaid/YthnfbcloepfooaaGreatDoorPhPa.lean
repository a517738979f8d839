
import Derived.Test.YthnfbcloepfooaaGreatDoorCd
import Derived.Test.YthnfbcloepfooaaGreatDoorPgPa
set_option linter.all false
namespace Go.Proofs.YthnfbcloepfooaaGreatDoor.bencodeoutParsed
open Go.ChangeShapes Go.WideShapes Go.ChangeAt Go.RowKit Go.Ago Go.Sh Go.ChangeMaps
set_option maxRecDepth 100000 in
theorem Sp (H:Type)(enc:κ×ξ->H)(W:World)(base:Nat)(args:ν)(ds gs:List (DataW H))(before:List MemPlace)
  (hval:∀(j:Nat) t v,Tryz.f3.params[j]?=some t->args[j]?=some v->Value.okWide Tryz.prog W .any base t v)
  (hW:DataW.Whole enc Tryz.prog Tryz.f3.params.toList Rows.bencodeoutParsedSpec.vars false W args.toList ds gs before) (hL:laidMetH Tryz.prog Rows.bencodeoutParsedRow.laid W) :
  Calls Tryz.prog 3 args W λe W'=>∃v,e=.returned v/\Rows.bencodeoutParsedSpec.post enc Tryz.prog Tryz.f3 false true false false W args v W':=by
 have hW':=hW;obtain⟨p,q,hA0,hV,rfl,hfz,hnd⟩:=hW;have hA:DataW.TrodAll enc Tryz.prog W 0 (λ_=>true) true Tryz.f3.params.toList args.toList ds p:=hA0;rw[Tryz.params3] at hA hval;obtain⟨v0,vs0,d0,ds0,p0,q0,hargs0,rfl,rfl,h0,r0⟩:=trodAll_cons hA;obtain⟨rfl,rfl,rfl⟩:=trodAll_nil r0;obtain rfl:args=#[v0]:=by cases args;simp_all
 obtain⟨rfl,rfl⟩:=trodVars_none hV;obtain⟨s0,rfl,rfl,rfl,ws0⟩:=open_string Tryz.underlying9 (hval 0 9 v0 rfl rfl) h0;clear hA0;simp only[aaF] at hW';have lf:jz W:=Tn hL;have run:=Iq (oS 20000000) (λargs w=>lM (fn:=Tryz.f3) (by kernel_rfl) (by kernel_rfl) (by kernel_rfl) args w) (x:=s0) (y:=true) (λh hw=>Pc s0 h hw) W (λW' k=>lf.kept k) #[.string s0] (bN.flat rfl);refine run.mono λe W' hx=>?_;obtain⟨v',ι',rfl,hv,k⟩:=hx;obtain rfl:=Qc hv;exact⟨_,rfl,Fm (pa:=[]) (pv:=[]) hW' (λ_ _ _=>trodAll_cons_mk (shut_bool Tryz.underlying4 _) trodAll_mk0) (λ_ _=>(trodAll_cons_mk (shut_string Tryz.underlying9 ws0) trodAll_mk0)) (λ_ _=>rfl) rfl
  k (ok_one (by kernel_rfl) rfl (okWide_bool_mk Tryz.underlying4 _))⟩
theorem reads (os:Os){H:Type}(enc:κ×ξ->H):∃places,DataW.whole enc Tryz.prog ((Ac os).forCall (λ_ _=>0) ⟨#[],#[.string ⟨#[]⟩],[]⟩).memory Tryz.f3.params.toList Rows.bencodeoutParsedSpec.vars false #[Value.string ⟨#[]⟩].toList 8=some ([.lit (.string [])],[],places):=
 ⟨[],by kernel_rfl⟩
set_option maxRecDepth 100000 in
theorem lifted (os:Os)(started:os.Started)(H:Type)(enc:κ×ξ->H)(F:Stop.Interp) :
  ReturnsInHanded {} Tryz.checked os 3 .any ((OpenSpec.ofChange Rows.bencodeoutParsedSpec).preRow enc Tryz.prog Tryz.f3 Rows.bencodeoutParsedRow.domain false Rows.bencodeoutParsedRow.laid) (((OpenSpec.ofChange Rows.bencodeoutParsedSpec).at F).post enc Tryz.prog Tryz.f3 false true false false):=by
 obtain⟨places,hx⟩:=reads os enc;refine returnsInHanded_of_row (C:=Tryz.checked) (s:=OpenSpec.ofChange Rows.bencodeoutParsedSpec) own started (by kernel_rfl) Tryz.func3
  (witness_row_atRef (enc:=enc) (C:=Tryz.checked) false (Ac os) #[.string ⟨#[]⟩] rfl (by kernel_rfl) (by kernel_rfl) (by kernel_rfl)
   (OpenSpec.preRow_of_cond 8 hx (by kernel_rfl) (λk hk=>by cases hk) (by kernel_rfl) (Qf os _))) ?_
 intro W base args ds gs before hval hW _ _ _ hL _ _;exact Sp H enc W base args ds gs before hval hW hL
theorem said:Rows.BencodeoutParsedSaid:=
 OpenClaim.holds_of_cond 3 Tryz.f3 rfl rfl rfl rfl rfl rfl rfl ⟨rfl,rfl,rfl,rfl,rfl⟩ rfl rfl rfl rfl rfl (by kernel_rfl) Tryz.func3 (by kernel_rfl)
  (abB (by kernel_rfl)) (by unfold Func.isWrapper;first|(rw[BY (by decide +kernel)];kernel_rfl)|(rw[By (by decide +kernel)];exact⟨rfl,rfl⟩))
  (λos started H enc _ F=>by rw[OpenClaim.pre_eq_preRow];exact lifted os started H enc F)
theorem plain (f:FuncId)(fn:Func)(hf:Tryz.pinned.checked.prog.funcNamed Tryz.f3.name=some f)(hfn:Tryz.pinned.checked.prog.funcs[f]?=some fn) :
  true=Tryz.pinned.checked.prog.looks []/\∀(j:Nat) t,fn.params[j]?=some t->Tryz.pinned.checked.prog.wantsStandIn t=false:=by
 obtain rfl:f=3:=aao ((show Tryz.prog.funcNamed Tryz.f3.name=some 3 by kernel_rfl).symm.trans hf) |>.symm;obtain rfl:fn=Tryz.f3:=(aao (Tryz.func3.symm.trans hfn)).symm;refine⟨by kernel_rfl,λj t ht=>?_⟩;rw[Tryz.params3] at ht;have hm:=abx ht;simp only[List.mem_toArray,abz,abw,ab9] at hm;subst hm;exact (show Tryz.prog.wantsStandIn 9=false by kernel_rfl)
theorem card:Rows.BencodeoutParsedCardSaid:=
 Claim7.holds_tied_plain_at .later [] _ _ _ _ said (λ_ h=>by cases h) (by kernel_rfl) (λ_ h=>by cases h) bencodeoutParsed_row_tie rfl ⟨rfl,rfl⟩ (by kernel_rfl) rfl plain (by kernel_rfl)
end Go.Proofs.YthnfbcloepfooaaGreatDoor.bencodeoutParsed
