
import Derived.Test.YtmjkmdhbcmckgaaGreatDoorPae
set_option linter.all false
namespace Go.Sh
open Go Go.Ago Go.Proofs
variable {α β:Type}{h h' h0:AHeap}{L:List Own}
def exSrc:ByteArray:=ofBytes [91,55,44,32,56,93]
def exN:List NodeV:=[⟨9,ofBytes [],false,[],[1,2]⟩,⟨2,ofBytes [55],false,[],[]⟩,⟨2,ofBytes [56],false,[],[]⟩]
def exS:List SpanV:=[⟨0,-1,0,0,6,0,0,false,true⟩,⟨1,0,0,1,2,0,0,false,true⟩,⟨2,0,1,4,5,0,0,false,true⟩]
theorem ex_inds:inds exN 0=true:=by decide +kernel
theorem ex_form:∀ x ∈ exN,formP x=some true:=by
 have h7:intOK (ofBytes [55])=true:=by decide +kernel
 have h8:intOK (ofBytes [56])=true:=by decide +kernel
 intro x hx
 simp only [exN,List.mem_cons,List.not_mem_nil,or_false] at hx
 rcases hx with rfl | rfl | rfl
 ·unfold formP;simp [eqS_rfl]
 ·unfold formP scalP;simp [h7]
 ·unfold formP scalP;simp [h8]
theorem ex_vis:vis 100 exN 0 (List.replicate exN.length false)=some [true,true,true]:=by decide +kernel
theorem ex_rest:cnt exN 0=some [1,1,1]∧inK 100 exN exN (List.replicate exN.length false)=some [false,false,false]∧twN 100 exN exN=some false∧dep 100 exN 0=some (1,true):=by decide +kernel
theorem ex_gA:gA [true,true,true] exN=some true:=by
 obtain⟨r,hr,_⟩:=gA_tot (ms:=[true,true,true]) (X:=exN) rfl
 have h1:=ex_form
 unfold exN at h1 ⊢
 simp only [gA,h1 _ (List.mem_cons_self),h1 _ (List.mem_cons_of_mem _ List.mem_cons_self),h1 _ (List.mem_cons_of_mem _ (List.mem_cons_of_mem _ List.mem_cons_self))]
 simp
theorem ex_gcheck:gcheck 100 exN 0=some 0:=by
 obtain⟨h1,h2,h3,h4⟩:=ex_rest
 unfold gcheck
 rw [if_neg (by decide),if_neg (by decide),if_neg (by rw [ex_inds];decide),ex_vis]
 simp only [ex_gA,h1,h2,h3,h4]
 decide
theorem ex_spCheck:spCheck 100 0 exSrc exN 0 exS []=some 0:=by
 have e0:occ0 exN exS 0 (exS.drop 1)=some true:=by decide +kernel
 have e1:occ1 exN exS 0 exS (List.replicate exN.length 0)=some (some [1,1,1]):=by decide +kernel
 have e2:rngs exSrc exN exS []=some true:=by decide +kernel
 have e3:nst0 exN exS 0 exS=some true:=by decide +kernel
 have eo:occs 100 exN 0 exS=some true:=by
  unfold occs
  rw [ex_gcheck]
  have e0':=e0
  have e1':=e1
  unfold exS at e0' e1' ⊢
  simp only [List.drop] at e0'
  simp only [e0',e1',ex_rest.2.1]
  decide
 unfold spCheck
 rw [if_neg (by decide),if_neg (by decide),eo]
 simp only [e2,e3]
theorem ex_rng:∀ x ∈ exS,RngOK exSrc.size x:=by
 intro x hx
 simp only [exS,List.mem_cons,List.not_mem_nil,or_false] at hx
 rcases hx with rfl | rfl | rfl <;> exact⟨by decide,by decide,by decide,by decide⟩
theorem example_wp (hw:WF h){n:Nat}:Wp (rosettalaw18_example n) h fun d h1=>∃ nsl ssl,d=(0,exSrc,nsl,0,ssl,sl0)∧Fr (fun _=>False) h h1∧DocR h1 nsl ssl sl0 exN exS [] 3:=by
 unfold rosettalaw18_example
 refine (Z.start hw).new fun x0 h1 z _=>z.new fun x1 h2 z _=>z.new fun x2 h3 z _=>z.new fun x3 h4 z _=>?_
 refine z.st 3 (cs':=[vi 0,.string exSrc,.slice (some (adr x2)) 3 4,vi 0,.slice (some (adr x3)) 3 4,vsl0]) fun h5 z=>?_
 refine z.lds 3 (ls:=[li,.str,.sl,li,.sl,.sl]) (x:=(0,exSrc,⟨some (adr x2),3,4⟩,0,⟨some (adr x3),3,4⟩,sl0)) ?_
 rw [Wp_pure]
 have l1:LB h5 x1 _ _:=z.get 2 rfl
 have l2:LB h5 x2 _ _:=z.get 1 rfl
 have l3:LB h5 x3 _ _:=z.get 0 rfl
 refine⟨⟨some (adr x2),3,4⟩,⟨some (adr x3),3,4⟩,rfl,z.fr,?_,⟨by decide,by decide,?_⟩,?_,⟨_,l3.rsl (n:=3) (sz:=9) rfl⟩,⟨0,RSl.nil rfl⟩,fun h' f _=>?_,by decide,by decide⟩
 ·refine⟨[⟨9,ofBytes [],false,sl0,[],0,⟨some (adr x1),2,3⟩,[1,2],0⟩,⟨2,ofBytes [55],false,sl0,[],0,sl0,[],0⟩,⟨2,ofBytes [56],false,sl0,[],0,sl0,[],0⟩],_,rfl,l2.rsl (n:=3) (sz:=5) rfl,fun x hx=>?_⟩
  simp only [List.mem_cons,List.not_mem_nil,or_false] at hx
  rcases hx with rfl | rfl | rfl
  ·exact⟨⟨0,RSl.nil rfl⟩,⟨_,l1.rsl (n:=2) (sz:=1) rfl⟩⟩
  ·exact⟨⟨0,RSl.nil rfl⟩,⟨0,RSl.nil rfl⟩⟩
  ·exact⟨⟨0,RSl.nil rfl⟩,⟨0,RSl.nil rfl⟩⟩
 ·intro x hx
  simp only [exN,List.mem_cons,List.not_mem_nil,or_false] at hx
  rcases hx with rfl | rfl | rfl <;> exact⟨by decide,by decide⟩
 ·intro x hx
  simp only [exN,List.mem_cons,List.not_mem_nil,or_false] at hx
  rcases hx with rfl | rfl | rfl <;> (show ByteArray.size (ofBytes _)≤65536;decide)
 ·have l4:LB h' x3 _ _:=l3.fr f fun hx=>hx.elim
  unfold elemOk
  simp only [l4.get,adr,Nat.beq_refl,Bool.or_true]
section
variable {nsl ssl tsl:Sl}
theorem path_ex (D:DocR h0 nsl ssl tsl exN exS [] 3)(z:Z h0 h L){n:Nat}(hn:66000<n):Wp (span_Path n (0,exSrc,nsl,0,ssl,tsl) 2) h fun y h'=>∃ b,y=(⟨some (adr b),1,2⟩,0)∧Z h0 h' (.blk b [vi 1,.string (ofBytes [])] T_api_Step::L):=by
 unfold span_Path
 refine z.new fun x0 h1 z _=>?_
 refine z.lds 0 (ls:=[li,.str,.sl,li,.sl,.sl]) (x:=(0,exSrc,nsl,0,ssl,tsl)) ?_
 rw [Wp_bind]
 refine (D.check z (k:=100) (by omega) ex_spCheck).mono fun y h2 hy=>?_
 obtain⟨rfl,z⟩:=hy
 rw [if_neg (by decide),if_neg (by decide)]
 refine z.ld 0 (o:=4) (l:=.sl) (x:=ssl) ?_
 rw [D.R.len,if_neg (by decide),Wp_bind]
 obtain⟨n,rfl⟩:∃ m,n=m+1:=⟨n - 1,by omega⟩
 rw [span_Path_L0_succ]
 unfold span_Path_L0_B
 rw [if_pos (by decide)]
 refine z.ld 0 (o:=4) (l:=.sl) (x:=ssl) ?_
 refine D.R.at z (x:=⟨2,0,1,4,5,0,0,false,true⟩) rfl fun a c1=>c1.lds ?_
 refine z.span (x:=⟨2,0,1,4,5,0,0,false,true⟩) fun b h3 z=>?_
 refine z.reserve [12] (by decide) (by decide) fun nb h4 z=>?_
 refine z.ld 2 (o:=2) (l:=.sl) (x:=nsl) ?_
 refine z.ld 2 (o:=4) (l:=.sl) (x:=ssl) ?_
 refine z.ld 1 (o:=1) (l:=li) (x:=0) ?_
 refine D.R.at z (x:=⟨0,-1,0,0,6,0,0,false,true⟩) rfl fun a2 c2=>c2.ld 0 (l:=li) (y:=0) ?_
 refine D.G.at z (x:=⟨9,ofBytes [],false,[],[1,2]⟩) (by decide) rfl fun a3 ks is nd ik ii=>nd.lds ?_
 refine z.newAt 0 fun h5 z=>?_
 refine z.st 0 (cs':=[vi 9,.string (ofBytes []),.bool false,vsl ks,vsl is]) fun h6 z=>?_
 refine z.ld 1 (o:=2) (l:=li) (x:=1) ?_
 refine z.new fun x16 h7 z _=>z.st 0 (cs':=[vi 1,.string (ofBytes [])]) fun h8 z=>?_
 refine z.ld 1 (o:=0) (l:=li) (x:=9) ?_
 rw [if_neg (by decide)]
 refine z.lds 0 (ls:=[li,.str]) (x:=(1,ofBytes [])) ?_
 refine z.new fun x20 h9 z _=>?_
 rw [Wp_bind,Wp_rdS]
 refine⟨[],rfl,?_⟩
 rw [Wp_bind]
 refine⟨⟨some (adr x20),1,2⟩,h9,rfl,?_⟩
 refine z.ld 3 (o:=1) (l:=li) (x:=0) ?_
 obtain⟨n,rfl⟩:∃ m,n=m+1:=⟨n - 1,by omega⟩
 rw [span_Path_L0_succ]
 unfold span_Path_L0_B
 rw [if_neg (by decide),Wp_pure,Wp_pure]
 refine⟨x20,rfl,z.sub ?_⟩
 exact List.Sublist.cons₂ _ (List.Sublist.cons _ (List.Sublist.cons _ (List.Sublist.cons _ (List.Sublist.cons _ (List.Sublist.refl _)))))
theorem text_ex (D:DocR h0 nsl ssl tsl exN exS [] 3)(z:Z h0 h L){n:Nat}(hn:66000<n):Wp (span_Text n (0,exSrc,nsl,0,ssl,tsl) 1) h fun y h'=>y=(exSrc.extract 1 2,0)∧Z h0 h' L:=by
 unfold span_Text
 refine z.new fun x0 h1 z _=>?_
 refine z.lds 0 (ls:=[li,.str,.sl,li,.sl,.sl]) (x:=(0,exSrc,nsl,0,ssl,tsl)) ?_
 rw [Wp_bind]
 refine (D.check z (k:=100) (by omega) ex_spCheck).mono fun y h2 hy=>?_
 obtain⟨rfl,z⟩:=hy
 rw [if_neg (by decide),if_neg (by decide)]
 refine z.ld 0 (o:=4) (l:=.sl) (x:=ssl) ?_
 rw [D.R.len,if_neg (by decide)]
 unfold span_Text_J0
 refine z.ld 0 (o:=1) (l:=.str) (x:=exSrc) (z.ld 0 (o:=4) (l:=.sl) (x:=ssl) ?_)
 refine D.R.at z (x:=⟨1,0,0,1,2,0,0,false,true⟩) rfl fun a2 c2=>c2.ld 3 (l:=li) (y:=1) ?_
 refine z.ld 0 (o:=4) (l:=.sl) (x:=ssl) ?_
 refine D.R.at z (x:=⟨1,0,0,1,2,0,0,false,true⟩) rfl fun a2 c2=>c2.ld 4 (l:=li) (y:=2) ?_
 rw [Wp_bind,Wp_sliceS]
 refine⟨by decide,by decide,by decide,?_⟩
 rw [Wp_pure]
 exact⟨rfl,z.drop⟩
theorem ints_L0 {a b:Sl}{xs:List Int}(ia:IL h a xs)(ib:IL h b xs)(hB:xs.length<1073741824):∀ (n i:Nat),xs.length - i<n→i≤xs.length→Wp (rosettaref13_ints_L0 n a b (i:Int)) h fun y h'=>y=.inl ()∧h'=h:=by
 intro n
 induction n with
 | zero=>intro i h1;omega
 | succ n ih =>
  intro i h1 h2
  rw [rosettaref13_ints_L0_succ]
  unfold rosettaref13_ints_L0_B
  rw [ia.len]
  by_cases hi:i<xs.length
  ·rw [if_pos (by simp;omega)]
   obtain⟨x,hx⟩:=getI hi
   refine ia.ix (by omega) (by simpa using hx) fun p g c=>ib.ix (by omega) (by simpa using hx) fun q g2 c2=>?_
   refine c.ld0 (l:=li) rfl rfl (c2.ld0 (l:=li) rfl rfl ?_)
   rw [if_neg (by simp),up1 (B:=xs.length) h2 hB]
   exact ih (i+1) (by omega) (by omega)
  ·rw [if_neg (by simp;omega),Wp_pure]
   exact⟨rfl,rfl⟩
theorem ints_wp {a b:Sl}{xs:List Int}(ia:IL h a xs)(ib:IL h b xs)(hB:xs.length<1073741824){n:Nat}(hn:xs.length<n):Wp (rosettaref13_Ints n a b) h fun y h'=>y=true∧h'=h:=by
 unfold rosettaref13_Ints rosettaref13_ints
 rw [Wp_bind,ia.len,ib.len,if_neg (by simp),Wp_bind]
 refine (ints_L0 ia ib hB n 0 (by omega) (by omega)).mono fun y h' hy=>?_
 obtain⟨rfl,rfl⟩:=hy
 show Wp (M.pure true) h' _
 rw [Wp_pure,Wp_pure]
 exact⟨rfl,rfl⟩
theorem awake18_wp (hw:WF h){n:Nat}(hn:66000<n):Wp (rosettalaw18_awake n) h fun y h'=>y=true∧Fr (fun _=>False) h h':=by
 unfold rosettalaw18_awake
 rw [Wp_bind]
 refine (example_wp hw).mono fun d h1 hd=>?_
 obtain⟨nsl,ssl,rfl,f1,D⟩:=hd
 refine (Z.start f1.wf).new fun x1 h2 z _=>?_
 refine z.st 0 (cs':=[vi 0,.string exSrc,vsl nsl,vi 0,vsl ssl,vsl sl0]) fun h3 z=>?_
 have ld:∀ {h4:AHeap} {L:List Own} {Q:Bool→AHeap→Prop} {f:Int×ByteArray×Sl×Int×Sl×Sl→M Bool} (z:Z h1 h4 L) (i:Nat),L[i]?=some (DB x1 0 exSrc nsl 0 ssl sl0)→Wp (f (0,exSrc,nsl,0,ssl,sl0)) h4 Q→Wp (M.bind (ldLs [li,.str,.sl,li,.sl,.sl] (adr x1)) f) h4 Q :=
  fun z i hi q=>z.lds i (ls:=[li,.str,.sl,li,.sl,.sl]) (x:=(0,exSrc,nsl,0,ssl,sl0)) q hi
 refine ld z 0 rfl ?_
 rw [Wp_bind]
 refine (At_wp D z (k:=100) (by omega) ex_spCheck ex_rng (by decide) 4).mono fun y h4 hy=>?_
 obtain⟨ha,z⟩:=hy
 have hat:y=(2,true):=by
  rcases ha with ⟨_,h5⟩ | ⟨b,x,rfl,h5,h6,h7⟩
  ·exact absurd ⟨by decide,by decide⟩ (h5 2 ⟨2,0,1,4,5,0,0,false,true⟩ rfl)
  ·have hlt:=(List.getElem?_eq_some_iff.1 h5).1
   have hlt:b<3:=hlt
   have hb:b=0∨b=1∨b=2:=by omega
   rcases hb with rfl | rfl | rfl
   ·cases h5
    have:=h7 2 ⟨2,0,1,4,5,0,0,false,true⟩ rfl ⟨by decide,by decide⟩
    exact absurd this (by decide)
   ·cases h5;exact absurd h6.2 (by decide)
   ·rfl
 subst hat
 refine ld z 0 rfl ?_
 rw [Wp_bind]
 refine (path_ex D z hn).mono fun y h5 hy=>?_
 obtain⟨bp,rfl,z⟩:=hy
 refine ld z 1 rfl ?_
 rw [Wp_bind]
 refine (text_ex D z hn).mono fun y h6 hy=>?_
 obtain⟨rfl,z⟩:=hy
 refine ld z 1 rfl ?_
 rw [Wp_bind]
 refine (D.check z (k:=100) (by omega) ex_spCheck).mono fun y h7 hy=>?_
 obtain⟨rfl,z⟩:=hy
 rw [if_pos (by decide),if_pos rfl,if_pos (by decide),if_pos (by rfl),if_pos (by rfl),Wp_bind,Wp_idxA]
 refine⟨adr bp,rfl,by decide,Int.zero_lt_one,?_⟩
 refine z.lds 0 (ls:=[li,.str]) (x:=(1,ofBytes [])) ?_
 rw [if_pos (by simp [eqS_rfl]),if_pos (by rfl),if_pos (by decide +kernel)]
 refine ld z 1 rfl ?_
 rw [Wp_bind]
 refine (Children_wp D z (k:=100) (by omega) ex_spCheck (i:=0) (by decide) (l:=[1,2]) (by decide +kernel)).mono fun y h8 hy=>?_
 obtain⟨b,rfl,_,z⟩:=hy
 refine z.new fun x15 h9 z _=>?_
 rw [Wp_bind]
 have l15:LB h9 x15 _ _:=z.get 0 rfl
 have lb:LB h9 b _ _:=z.get 1 rfl
 refine (ints_wp (xs:=[1,2]) ⟨_,lb.rsl (n:=2) (sz:=1) rfl⟩ ⟨_,l15.rsl (n:=2) (sz:=1) rfl⟩ (by decide) (by show 2<n;omega)).mono fun y h10 hy=>?_
 obtain⟨rfl,rfl⟩:=hy
 rw [Wp_pure]
 exact⟨rfl,fr_trans hw f1 z.fr⟩
end
section
variable {N:List NodeV}{S:List SpanV}{T:List NoteV}{B:Nat}{root d1:Int}{src:ByteArray}{nsl ssl tsl:Sl}
theorem nest_L0 (D:DocR h0 nsl ssl tsl N S T B)(ok:DocOK src.size N S){k:Nat}(hv:spCheck k d1 src N root S T=some 0){x0:Nat}(off:Int) :
  ∀ (n i:Nat) (h:AHeap),(S.length - i)+k+4 * B+65620<n→i≤S.length→(∀ (j:Nat) (x:SpanV),j<i→S[j]?=some x→x.whole=true∨chl 0 S (j:Int)=[])→Z h0 h (DB x0 d1 src nsl root ssl tsl::L) →
   Wp (rosettalaw18_SpanNests_L0 n off (adr x0) (i:Int)) h fun y h'=>(y=.inr true∨y=.inl ()∧AllW S)∧Z h0 h' (DB x0 d1 src nsl root ssl tsl::L):=by
 intro n
 induction n with
 | zero=>intro i h h1;omega
 | succ n ih =>
  intro i h h1 h2 hw z
  have hB:=D.hB
  have hB2:=D.hN.2.1
  rw [rosettalaw18_SpanNests_L0_succ]
  unfold rosettalaw18_SpanNests_L0_B
  refine z.ld 0 (o:=4) (l:=.sl) (x:=ssl) ?_
  rw [D.R.len]
  by_cases hi:i<S.length
  ·rw [if_pos (by simp;omega)]
   obtain⟨x,hx⟩:=getI hi
   have nxt:∀ {h2':AHeap} {L2:List Own},Z h0 h2' (DB x0 d1 src nsl root ssl tsl::L)→(x.whole=true∨chl 0 S (i:Int)=[])→Wp (rosettalaw18_SpanNests_L0 n off (adr x0) (IntKind.i64.wrap ((i:Int)+1))) h2' fun y h'=>(y=.inr true∨y=.inl ()∧AllW S)∧Z h0 h' (DB x0 d1 src nsl root ssl tsl::L):=fun z hx2=>by
    rw [up1 h2 (by omega)]
    refine ih (i+1) _ (by omega) (by omega) (fun j y hj hy=>?_) z
    by_cases hji:j=i
    ·subst hji;rw [hx] at hy;cases hy;exact hx2
    ·exact hw j y (by omega) hy
   refine z.ld 0 (o:=4) (l:=.sl) (x:=ssl) ?_
   refine D.R.at z (gtN hx) fun a c1=>c1.ld 8 (l:=.bool) (y:=x.whole) ?_
   cases hwh:x.whole with
   | true=>rw [if_neg (by simp)];exact nxt (L2:=[]) z (.inl hwh)
   | false =>
    rw [if_pos (by rfl)]
    refine z.lds 0 (ls:=[li,.str,.sl,li,.sl,.sl]) (x:=(d1,src,nsl,root,ssl,tsl)) ?_
    have hord:∃ l,ordP S (List.replicate (chl 0 S (i:Int)).length 0) (chl 0 S (i:Int))=some l:=by
     cases ha:x.alias with
     | false=>obtain⟨l,e,_⟩:=ord_child ok.sok hx ha;exact⟨l,e⟩
     | true =>
      have:chl 0 S (i:Int)=[]:=by
       refine List.eq_nil_iff_forall_not_mem.2 fun c hc=>?_
       obtain⟨y,hy,hp⟩:=chl_in.1 hc
       obtain⟨g1,g2⟩:=gt_some hy
       obtain⟨_,x',_,hx',ha',_⟩:=ok.sok.child g2 hp
       rw [hx] at hx';cases hx'
       rw [ha] at ha';cases ha'
      rw [this];exact⟨_,rfl⟩
    obtain⟨l,hl⟩:=hord
    rw [Wp_bind]
    refine (Children_wp D z (by omega) hv hi hl).mono fun y h3 hy=>?_
    obtain⟨b,rfl,_,z⟩:=hy
    by_cases hc:(chl 0 S (i:Int)).length=0
    ·rw [if_neg (by simp [arr,hc])]
     exact nxt (L2:=[]) z.drop (.inr (List.eq_nil_of_length_eq_zero hc))
    ·rw [if_pos (show decide ((0:Int)<((arr b (chl 0 S (i:Int)).length).len:Int))=true from decide_eq_true (by show (0:Int)<((chl 0 S (i:Int)).length:Int);omega)),Wp_pure]
     exact⟨.inl rfl,z.drop⟩
  ·rw [if_neg (by simp;omega),Wp_pure]
   exact⟨.inr ⟨rfl,fun j x hx=>hw j x (by have:=(List.getElem?_eq_some_iff.1 hx).1;omega) hx⟩,z⟩
theorem nest_L1 (R:SR h0 ssl S)(hB:S.length<1073741824){x0:Nat}{off:Int}{at':Int}{ok:Bool}(hat:∀ (j:Nat) (x:SpanV),S[j]?=some x→Has off x→ok=true∧∃ b,gt S at'=some b∧x.frm≤b.frm∧b.to≤x.to) :
  ∀ (n i:Nat) (m:Bool) (h:AHeap),S.length - i<n→i≤S.length→(m=true↔∃ (j:Nat) (x:SpanV),j<i∧S[j]?=some x∧Has off x)→Z h0 h (DB x0 d1 src nsl root ssl tsl::L) →
   Wp (rosettalaw18_SpanNests_L1 n off (adr x0) at' ok m (i:Int)) h fun y _=>∃ r:Bool,y=.inl r∧(r=true↔∃ (j:Nat) (x:SpanV),S[j]?=some x∧Has off x):=by
 intro n
 induction n with
 | zero=>intro i m h h1;omega
 | succ n ih =>
  intro i m h h1 h2 hm z
  have b1:i<S.length→S.length - (i+1)<n∧i+1≤S.length:=fun hi=>by clear hm hat;omega
  rw [rosettalaw18_SpanNests_L1_succ]
  unfold rosettalaw18_SpanNests_L1_B
  refine z.ld 0 (o:=4) (l:=.sl) (x:=ssl) ?_
  rw [R.len]
  by_cases hi:i<S.length
  ·rw [if_pos (by simp;omega)]
   obtain⟨x,hx⟩:=getI hi
   refine z.ld 0 (o:=4) (l:=.sl) (x:=ssl) ?_
   refine R.at z (gtN hx) fun a c1=>c1.lds ?_
   refine z.span (x:=x) fun b2 h2' z=>?_
   have nxt:∀ {m':Bool},(m'=true↔∃ (j:Nat) (x:SpanV),j<i+1∧S[j]?=some x∧Has off x)→Wp (rosettalaw18_SpanNests_L1 n off (adr x0) at' ok m' (IntKind.i64.wrap ((i:Int)+1))) h2' fun y _=>∃ r:Bool,y=.inl r∧(r=true↔∃ (j:Nat) (x:SpanV),S[j]?=some x∧Has off x):=fun {m'} hm'=>by
    rw [up1 h2 hB]
    exact ih (i+1) m' h2' (b1 hi).1 (b1 hi).2 hm' z.drop
   have keep:¬ Has off x→(m=true↔∃ (j:Nat) (x:SpanV),j<i+1∧S[j]?=some x∧Has off x):=fun hno=>by
    rw [hm]
    constructor
    ·rintro⟨j,y,g1,g2,g3⟩;exact⟨j,y,by omega,g2,g3⟩
    ·rintro⟨j,y,g1,g2,g3⟩
     by_cases hji:j=i
     ·subst hji;rw [hx] at g2;cases g2;exact absurd g3 hno
     ·exact⟨j,y,by omega,g2,g3⟩
   refine z.ld 0 (o:=3) (l:=li) (x:=x.frm) ?_
   by_cases c2:x.frm≤off
   rotate_left
   ·rw [if_neg (by simpa using c2)];exact nxt (keep fun h=>c2 h.1)
   rw [if_pos (by simpa using c2)]
   refine z.ld 0 (o:=4) (l:=li) (x:=x.to) ?_
   by_cases c3:off<x.to
   rotate_left
   ·rw [if_neg (by simpa using c3)];exact nxt (keep fun h=>c3 h.2)
   rw [if_pos (by simpa using c3)]
   obtain⟨hok,b,hb,g1,g2⟩:=hat i x hx ⟨c2,c3⟩
   unfold rosettalaw18_SpanNests_L1_J0_B
   subst hok
   rw [if_neg (by simp)]
   refine z.ld 0 (o:=3) (l:=li) (x:=x.frm) (z.ld 1 (o:=4) (l:=.sl) (x:=ssl) ?_)
   refine R.at z hb fun a2 c4=>c4.ld 3 (l:=li) (y:=b.frm) ?_
   rw [if_neg (by simp;omega)]
   refine z.ld 0 (o:=4) (l:=li) (x:=x.to) (z.ld 1 (o:=4) (l:=.sl) (x:=ssl) ?_)
   refine R.at z hb fun a3 c5=>c5.ld 4 (l:=li) (y:=b.to) ?_
   rw [if_neg (by simp;omega)]
   exact nxt ⟨fun _=>⟨i,x,by omega,hx,c2,c3⟩,fun _=>rfl⟩
  ·rw [if_neg (by simp;omega),Wp_pure]
   refine⟨m,rfl,hm.trans ⟨fun ⟨j,x,_,g2,g3⟩=>⟨j,x,g2,g3⟩,fun ⟨j,x,g2,g3⟩=>⟨j,x,?_,g2,g3⟩⟩⟩
   have:=(List.getElem?_eq_some_iff.1 g2).1
   omega
theorem nests_wp (hw:WF h0)(G:GrR h0 nsl N)(R:SR h0 ssl S)(RT:NtR h0 tsl T)(hE:∀ h',Fr (fun _=>False) h0 h'→ssl.len≠0→elemOk h' ssl T_api_Span=true)(off:Int) :
  Wp (rosettalaw18_SpanNests 200000 (d1,src,nsl,root,ssl,tsl) off) h0 fun x _=>x=true:=by
 unfold rosettalaw18_SpanNests
 refine (Z.start hw).new fun x0 h1 z _=>?_
 rw [Wp_bind]
 refine (awake18_wp z.wf (by omega)).mono fun y h2 hy=>?_
 obtain⟨rfl,f2⟩:=hy
 have z:=z.pure f2
 rw [if_neg (by decide)]
 refine z.lds 0 (ls:=[li,.str,.sl,li,.sl,.sl]) (x:=(d1,src,nsl,root,ssl,tsl)) ?_
 rw [Wp_bind]
 refine (few18_wp G R RT z (by omega)).mono fun y h3 hy=>?_
 obtain⟨fw,z⟩:=hy
 cases y with
 | false=>rw [if_pos (by rfl),Wp_pure]
 | true =>
 have fw:=fw rfl
 rw [if_neg (by decide)]
 refine z.lds 0 (ls:=[li,.str,.sl,li,.sl,.sl]) (x:=(d1,src,nsl,root,ssl,tsl)) ?_
 have D:DocR h0 nsl ssl tsl N S T 80:=⟨G,⟨by have:=fw.g.n;omega,by decide,fun x hx=>(fw.g.x x hx).2⟩,fun x hx=>by have:=(fw.g.x x hx).1;omega,R,RT,hE,by have:=fw.s;omega,by have:=fw.t;omega⟩
 obtain⟨r,hr,hok⟩:=D.ex d1 src root
 have hk:gK N.length 80≤10000:=by
  unfold gK
  have:=Nat.mul_le_mul_right (2 * 80+8) (show N.length+1≤41 by have:=fw.g.n;omega)
  omega
 rw [Wp_bind]
 refine (D.check z (by omega) hr).mono fun y h4 hy=>?_
 obtain⟨rfl,z⟩:=hy
 by_cases h0:y=0
 rotate_left
 ·rw [if_pos (by simpa using h0),Wp_pure]
 rw [if_neg (by simpa using h0)]
 subst h0
 have ok:=hok rfl
 unfold rosettalaw18_SpanNests_J0
 rw [Wp_bind]
 have hB:=fw.s
 refine (nest_L0 D ok hr off 200000 0 h4 (by omega) (by omega) (fun j x hj=>by omega) z).mono fun y h5 hy=>?_
 obtain⟨hy,z⟩:=hy
 rcases hy with rfl | ⟨rfl,W⟩
 ·show Wp (M.pure true) h5 _
  rw [Wp_pure]
 show Wp (M.bind _ _) h5 _
 refine z.lds 0 (ls:=[li,.str,.sl,li,.sl,.sl]) (x:=(d1,src,nsl,root,ssl,tsl)) ?_
 rw [Wp_bind]
 refine (At_wp D z (by omega) hr ok.rng (by have h2:src.size≤2000:=fw.src;omega) off).mono fun y h6 hy=>?_
 obtain⟨ha,z⟩:=hy
 rw [Wp_bind]
 have hat:∀ (j:Nat) (x:SpanV),S[j]?=some x→Has off x→y.2=true∧∃ b,gt S y.1=some b∧x.frm≤b.frm∧b.to≤x.to:=fun j x hx hox=>by
  rcases ha with ⟨rfl,hno⟩ | ⟨b,v,rfl,hb,hob,hmin⟩
  ·exact absurd hox (hno j x hx)
  ·have:=inner ok W hb hx hob hox (hmin j x hx hox)
   exact⟨rfl,v,by rw [gt_nat];exact hb,this.1,this.2⟩
 refine (nest_L1 R (by omega) hat 200000 0 false h6 (by omega) (by omega) ⟨fun h=>(by cases h),fun ⟨j,x,hj,_⟩=>(by omega)⟩ z).mono fun v h7 hv=>?_
 obtain⟨m,rfl,hm⟩:=hv
 show Wp (M.pure (y.2 == m)) h7 _
 rw [Wp_pure]
 rcases ha with ⟨rfl,hno⟩ | ⟨b,v,rfl,hb,hob,hmin⟩
 ·cases m with
  | false=>rfl
  | true=>obtain⟨j,x,hx,hox⟩:=hm.1 rfl;exact absurd hox (hno j x hx)
 ·rw [hm.2 ⟨b,v,hb,hob⟩];rfl
end
end Go.Sh
