
import Derived.Test.YtmjkmdhbcmckgaaGreatDoorDcPa
import Derived.Test.YtmjkmdhbcmckgaaGreatDoorKgPa
import Derived.WideKeyArgs
namespace Go.Proofs.YtmjkmdhbcmckgaaGreatDoor
open Go Go.Ago Go.Sh Go.ChangeShapes Go.WideShapes
theorem laidOut':laidOutB Tryz.prog=true:=by kernel_rfl
theorem kept_same {W W':World}(k:Kept W W'){p:MemPlace}(hp:p.block<W.heap.size):W.sameAt W' p:=by
 have h1:=k.1 p.block _ (Array.getElem?_eq_getElem hp)
 cases p with
 | cell b off =>
  show W'.cell? ⟨b,off,none⟩=W.cell? ⟨b,off,none⟩
  unfold World.cell?
  simp only
  rw [show W'.heap[b]?=W.heap[b]? from h1.trans (Array.getElem?_eq_getElem hp).symm]
 | map b=>exact h1.trans (Array.getElem?_eq_getElem hp).symm
end Go.Proofs.YtmjkmdhbcmckgaaGreatDoor
namespace Go.Proofs.YtmjkmdhbcmckgaaGreatDoor.spanNests
open Go.ChangeShapes Go.WideShapes Go.ChangeAt Go.RowKit Go.Ago Go.Sh Go.ChangeMaps
set_option maxRecDepth 100000 in
theorem contract (H:Type)(enc:TypeId×Value→H)(W:World)(base:Nat)(args:Array Value)(ds gs:List (DataW H))(before:List MemPlace)
  (hval:∀ (j:Nat) t v,Tryz.f3.params[j]?=some t→args[j]?=some v→Value.okWide Tryz.prog W .any base t v)
  (hW:DataW.Whole enc Tryz.prog Tryz.f3.params.toList Rows.spanNestsSpec.vars false W args.toList ds gs before) (hL:laidMetH Tryz.prog Rows.spanNestsRow.laid W) :
  Calls Tryz.prog 3 args W fun e W'=>∃ v,e=.returned v∧Rows.spanNestsSpec.post enc Tryz.prog Tryz.f3 false true false false W args v W':=by
 have hW':=hW
 obtain⟨p,q,hA0,hV,rfl,hfz,hnd⟩:=hW
 have hA:DataW.TrodAll enc Tryz.prog W 0 (fun _=>true) true Tryz.f3.params.toList args.toList ds p:=hA0
 rw [Tryz.params3] at hA hval
 obtain⟨v0,vs0,d0,ds0,p0,q0,hargs0,rfl,rfl,h0,r0⟩:=trodAll_cons hA
 obtain⟨v1,vs1,d1,ds1,p1,q1,hargs1,rfl,rfl,h1,r1⟩:=trodAll_cons r0
 obtain⟨rfl,rfl,rfl⟩:=trodAll_nil r1
 obtain rfl:args=#[v0,v1]:=by cases args;simp_all
 obtain⟨rfl,rfl⟩:=trodVars_none hV
 obtain⟨s1,rfl,rfl,rfl,ws1⟩:=open_int (k:=.i64) Tryz.underlying3 (hval 1 3 v1 rfl rfl) h1
 have hagg:∃ cs,v0=.agg cs:=by
  have h2:=hval 0 28 v0 rfl rfl
  unfold Value.okWide at h2
  rw [Tryz.underlying28] at h2
  obtain⟨cs,rfl,_⟩:=h2
  exact⟨cs,rfl⟩
 obtain⟨cs,rfl⟩:=hagg
 clear hA0
 simp only [List.append_nil] at hW'
 have lf:LibFact W:=libfact hL
 have h0':=h0
 obtain⟨fuel,hx⟩:=h0'
 obtain⟨ι,hh,z1,src,nsl,root,ssl,tsl,N,S,T,B,_,_,hl,G,R,RT,hE⟩:=beg_doc (Beg.emp fun W' k=>lf.kept k) hx
 have hl:LRel Tryz.prog ι [vi z1,.string src,pkL .sl nsl,vi root,pkL .sl ssl,pkL .sl tsl] cs.toList:=hl
 have run:=B.calls (rosettalaw18_SpanNests_ok 200000) (fun a w=>enter_ok Tryz.func3 (by kernel_rfl) (by kernel_rfl) a w) (x:=((z1,src,nsl,root,ssl,tsl),s1)) (y:=true) (nests_wp B.wf G R RT hE s1) #[.agg cs,.int .i64 s1]
  (.cons (.agg _ _ hl.1 fun i v v' a b=>hl.2 i v v' (by rw [List.getElem?_toArray] at a;exact a) (by rw [← Array.getElem?_toList] at b;exact b)) (.cons (.flat _ rfl) .nil))
 refine run.mono fun e W' hx=>?_
 obtain⟨v',ι',rfl,hv,k⟩:=hx
 obtain rfl:=ret_bool hv
 have hlt:=hW'.lt
 exact⟨_,rfl,post_of_kept (pa:=p0) (pv:=[]) hW' (fun _ _ _=>trodAll_cons_mk (shut_bool Tryz.underlying4 _) trodAll_mk0)
  (fun sp hsp=>by
   have t0:=WideElems.Trod_stays (P:=Tryz.prog) laidOut' (by kernel_rfl) (of_decide_eq_true (by kernel_rfl)) h0 (sp':=sp) (fun p hp=>kept_same k (hlt p hp)) hsp
   have:=trodAll_cons_mk t0 (trodAll_cons_mk (shut_int Tryz.underlying3 ws1) (trodAll_mk0 (P:=Tryz.prog) (enc:=enc) (w:=W')))
   rw [show p0++([]++[])=p0 by simp] at this
   exact this) (fun _ _=>rfl) (by simp)
  k (ok_one (by kernel_rfl) rfl (okWide_bool_mk Tryz.underlying4 _))⟩
abbrev wit:Value:=.agg #[.int .i64 0,.string ⟨#[]⟩,.slice none 0 0,.int .i64 0,.slice none 0 0,.slice none 0 0]
abbrev witD {H:Type}:DataW H:=.agg [.lit (.int .i64 0),.lit (.string []),.agg [.nil,.lit (.int .i64 0)],.nil,.nil]
theorem reads (os:Os){H:Type}(enc:TypeId×Value→H):∃ places,DataW.whole enc Tryz.prog ((laidWorld os).forCall (fun _ _=>0) ⟨#[],#[wit,.int .i64 0],[]⟩).memory Tryz.f3.params.toList Rows.spanNestsSpec.vars false #[wit,Value.int .i64 0].toList 8=some ([witD,.lit (.int .i64 0)],[],places) :=
 ⟨[],by kernel_rfl⟩
set_option maxRecDepth 100000 in
theorem lifted (os:Os)(started:os.Started)(H:Type)(enc:TypeId×Value→H)(F:Stop.Interp) :
  ReturnsInHanded {} Tryz.checked os 3 .any ((OpenSpec.ofChange Rows.spanNestsSpec).preRow enc Tryz.prog Tryz.f3 Rows.spanNestsRow.domain false Rows.spanNestsRow.laid) (((OpenSpec.ofChange Rows.spanNestsSpec).at F).post enc Tryz.prog Tryz.f3 false true false false):=by
 obtain⟨places,hx⟩:=reads os enc
 refine returnsInHanded_of_row (C:=Tryz.checked) (s:=OpenSpec.ofChange Rows.spanNestsSpec) own started (by kernel_rfl) Tryz.func3
  (witness_row_atRef (enc:=enc) (C:=Tryz.checked) false (laidWorld os) #[wit,.int .i64 0] rfl (by kernel_rfl) (by kernel_rfl) (by kernel_rfl)
   (OpenSpec.preRow_of_cond 8 hx (by kernel_rfl) (fun k hk=>by cases hk) (by kernel_rfl) (laid_met os _))) ?_
 intro W base args ds gs before hval hW _ _ _ hL _ _
 exact contract H enc W base args ds gs before hval hW hL
theorem said:Rows.SpanNestsSaid :=
 OpenClaim.holds_of_cond 3 Tryz.f3 rfl rfl rfl rfl rfl rfl rfl ⟨rfl,rfl,rfl,rfl,rfl⟩ rfl rfl rfl rfl rfl (by kernel_rfl) Tryz.func3 (by kernel_rfl)
  (of_decide_eq_true (by kernel_rfl)) (by unfold Func.isWrapper;first | (rw [if_pos (by decide +kernel)];kernel_rfl) | (rw [if_neg (by decide +kernel)];exact⟨rfl,rfl⟩))
  (fun os started H enc _ F=>by rw [OpenClaim.pre_eq_preRow];exact lifted os started H enc F)
theorem plain (f:FuncId)(fn:Func)(hf:Tryz.pinned.checked.prog.funcNamed Tryz.f3.name=some f)(hfn:Tryz.pinned.checked.prog.funcs[f]?=some fn) :
  true=Tryz.pinned.checked.prog.looks []∧∀ (j:Nat) t,fn.params[j]?=some t→Tryz.pinned.checked.prog.wantsStandIn t=false:=by
 obtain rfl:f=3:=Option.some.inj ((show Tryz.prog.funcNamed Tryz.f3.name=some 3 by kernel_rfl).symm.trans hf) |>.symm
 obtain rfl:fn=Tryz.f3:=(Option.some.inj (Tryz.func3.symm.trans hfn)).symm
 refine⟨by kernel_rfl,fun j t ht=>?_⟩
 rw [Tryz.params3] at ht
 have hm:=Array.mem_of_getElem? ht
 simp only [List.mem_toArray,List.mem_cons,List.not_mem_nil,or_false] at hm
 rcases hm with rfl | rfl
 ·exact (show Tryz.prog.wantsStandIn 28=false by kernel_rfl)
 ·exact (show Tryz.prog.wantsStandIn 3=false by kernel_rfl)
theorem card:Rows.SpanNestsCardSaid :=
 Claim7.holds_tied_plain_at .later [] _ _ _ _ said (fun _ h=>by cases h) (by kernel_rfl) (fun _ h=>by cases h) spanNests_row_tie rfl ⟨rfl,rfl⟩ (by kernel_rfl) rfl plain (by kernel_rfl)
end Go.Proofs.YtmjkmdhbcmckgaaGreatDoor.spanNests
#print axioms Go.Proofs.YtmjkmdhbcmckgaaGreatDoor.spanNests.card
