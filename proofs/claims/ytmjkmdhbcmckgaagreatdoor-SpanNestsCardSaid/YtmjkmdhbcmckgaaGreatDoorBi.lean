
import Derived.Test.YtmjkmdhbcmckgaaGreatDoorBa
set_option linter.all false
namespace Go.Sh
open Go Go.Ago
def u8s (cs:List Value):Prop:=∀ v ∈ cs,∃ k,v=Value.int .u8 k
theorem u8s.get {cs:List Value}(hu:u8s cs){i:Nat}(hi:i<cs.length):∃ k,cs[i]?=some (.int .u8 k):=by
 obtain⟨k,hk⟩:=hu cs[i] (List.getElem_mem hi)
 exact⟨k,by rw [List.getElem?_eq_getElem hi,hk]⟩
theorem u8s.set {cs:List Value}(hu:u8s cs)(i:Nat)(k:Int):u8s (cs.set i (.int .u8 k)):=fun v hv=>by
 rcases List.mem_or_eq_of_mem_set hv with h | h
 ·exact hu v h
 ·exact⟨k,h⟩
theorem trim_ok {cs:List Value}{bd c:Nat}(hu:u8s cs)(hsz:cs.length≤65536):∀ (n k:Nat) (h:AHeap),WF h→LB h bd cs T_u8→k≤cs.length→k<n →
  Wp (integer_trim_L0 n ⟨some ⟨bd,0,none⟩,k,c⟩) h fun x h'=>h'=h∧∃ k',k'≤k∧x=⟨some ⟨bd,0,none⟩,k',c⟩
 | 0,_,_,_,_,_,hn=>by omega
 | n+1,k,h,hw,l,hk,hn=>by
  rw [integer_trim_L0_succ]
  unfold integer_trim_L0_B
  simp only [Wp_bind,Wp_nn',Wp_ldI,Wp_ldS,Wp_ldV,Wp_ldB,Wp_idxS,Wp_sliceS,Wp_pure,plus_eq,Nat.zero_add,Nat.reduceAdd,Option.some.injEq,exists_eq_left',decide_eq_true_eq]
  split
  ·rename_i h1
   have hk0:0<k:=by omega
   have e1:IntKind.i64.wrap ((k:Int) - 1)=(k - 1:Nat):=by rw [w64 (by omega) (by omega)];omega
   simp only [Wp_bind,Wp_nn',Wp_ldI,Wp_ldS,Wp_ldV,Wp_ldB,Wp_idxS,Wp_sliceS,Wp_pure,plus_eq,Nat.zero_add,Nat.reduceAdd,Option.some.injEq,exists_eq_left',decide_eq_true_eq,Wp_idxA,e1,exists_eq_left',Int.toNat_natCast,Nat.mul_one]
   obtain⟨d,hd⟩:=hu.get (i:=k - 1) (by omega)
   refine⟨by omega,by omega,d,l.ld (lf:=.int .u8) hd rfl,?_⟩
   split
   ·rw [Wp_bind]
    refine Wp_sliceL (by omega) (by omega) (by show ((k - 1:Nat):Int)≤k;omega) ?_ ?_
    ·unfold elemOk;simp only [l.get];simp [Nat.beq_refl]
    ·have e2:(⟨Option.map (fun x=>x.plus ((0:Int).toNat * 1)) (some (⟨bd,0,none⟩:Addr)),((k - 1:Nat):Int).toNat - (0:Int).toNat,c - (if c=0 then 0 else (0:Int).toNat)⟩:Sl)=⟨some ⟨bd,0,none⟩,k - 1,c⟩:=by
      simp [plus_eq]
     show Wp (integer_trim_L0 n ⟨_,_,_⟩) h _
     rw [e2]
     refine (trim_ok hu hsz n (k - 1) h hw l (by omega) (by omega)).mono fun x h' hx=>?_
     obtain⟨rfl,k',h3,rfl⟩:=hx
     exact⟨rfl,k',by omega,rfl⟩
   ·rw [Wp_pure];exact⟨rfl,k,Nat.le_refl _,rfl⟩
  ·rw [Wp_pure];exact⟨rfl,k,Nat.le_refl _,rfl⟩
theorem all_drop {L:List UInt8}{i:Nat}{c:UInt8}(hc:L[i]?=some c):(L.drop i).all isDig=(isDig c && (L.drop (i+1)).all isDig):=by
 have hlt:=(List.getElem?_eq_some_iff.1 hc).1
 have hd:L.drop i=c::L.drop (i+1):=by
  rw [List.drop_eq_getElem_cons hlt,(List.getElem?_eq_some_iff.1 hc).2]
 rw [hd,List.all_cons]
theorem readLoop_ok {s:ByteArray}{b0 b1 bd:Nat}{ng:Bool}(hs:s.size≤65536)(d0:b0≠b1)(d1:b0≠bd)(d2:b1≠bd):∀ (n i:Nat) (h:AHeap) (cs:List Value),WF h→u8s cs→cs.length=s.size →
  LB h b0 [.bool false,vsl0] T_integer_number→LB h b1 [.bool ng,vsl ⟨some ⟨bd,0,none⟩,s.size,s.size+1⟩] T_integer_number→LB h bd cs T_u8→i≤s.size→s.size - i<n →
  Wp (integer_read_L0 n (adr b0) (adr b1) s s.size i) h fun x h'=>Fr (fun g=>g=b0+1∨g=bd+1) h h' ∧
   (if (s.data.toList.drop i).all isDig=true then x=.inl ()∧LB h' b0 [.bool false,vsl0] T_integer_number∧LB h' b1 [.bool ng,vsl ⟨some ⟨bd,0,none⟩,s.size,s.size+1⟩] T_integer_number∧∃ cs',u8s cs'∧cs'.length=s.size∧LB h' bd cs' T_u8
    else x=.inr false∧LB h' b0 [.bool false,vsl0] T_integer_number)
 | 0,_,_,_,_,_,_,_,_,_,_,hn=>by omega
 | n+1,i,h,cs,hw,hu,hlen,l0,l1,ld,hi,hn=>by
  rw [integer_read_L0_succ]
  unfold integer_read_L0_B
  simp only [Wp_bind,Wp_nn',Wp_ldI,Wp_ldS,Wp_ldV,Wp_ldB,Wp_idxS,Wp_sliceS,Wp_pure,plus_eq,Nat.zero_add,Nat.reduceAdd,Option.some.injEq,exists_eq_left',decide_eq_true_eq]
  split
  ·rename_i h1
   have h1':i<s.size:=by omega
   have hc:s.data.toList[i]?=some s.data.toList[i]:=List.getElem?_eq_getElem (by rwa [size_toList])
   generalize s.data.toList[i]=c at hc
   have had:=all_drop hc
   rw [isDig_int] at had
   simp only [Wp_bind,Wp_nn',Wp_ldI,Wp_ldS,Wp_ldV,Wp_ldB,Wp_idxS,Wp_sliceS,Wp_pure,plus_eq,Nat.zero_add,Nat.reduceAdd,Option.some.injEq,exists_eq_left',decide_eq_true_eq,ba_get,Int.toNat_natCast,hc,Int.natCast_nonneg,true_and]
   have bad:Wp (stN (adr b0) [Value.bool false,vsl0]) h fun _ h'=>Fr (fun g=>g=b0+1∨g=bd+1) h h'∧LB h' b0 [.bool false,vsl0] T_integer_number :=
    l0.st hw (by simp) (by rfl) fun h' l0' f=>⟨f.mono hw fun g hg _=>.inl (.inl hg),l0'⟩
   split
   ·rename_i h2
    have hb:(s.data.toList.drop i).all isDig=false:=by rw [had];simp;intro h3;omega
    simp only [Wp_bind,Wp_pure]
    refine bad.mono fun _ h' hx=>?_
    simp only [hb,Bool.false_eq_true,if_false]
    exact⟨hx.1,by trivial,hx.2⟩
   ·rename_i h2
    simp only [Wp_bind,Wp_nn',Wp_ldI,Wp_ldS,Wp_ldV,Wp_ldB,Wp_idxS,Wp_sliceS,Wp_pure,plus_eq,Nat.zero_add,Nat.reduceAdd,Option.some.injEq,exists_eq_left',decide_eq_true_eq,ba_get,Int.toNat_natCast,hc,Int.natCast_nonneg,true_and]
    split
    ·rename_i h3
     have hb:(s.data.toList.drop i).all isDig=false:=by rw [had];simp;intro h3;omega
     simp only [Wp_bind,Wp_pure]
     refine bad.mono fun _ h' hx=>?_
     simp only [hb,Bool.false_eq_true,if_false]
     exact⟨hx.1,by trivial,hx.2⟩
    ·rename_i h3
     unfold integer_read_L0_J0_B
     have e1:IntKind.i64.wrap (IntKind.i64.wrap ((s.size:Int) - 1) - i)=(s.size - 1 - i:Nat):=by
      rw [w64 (x:=(s.size:Int) - 1) (by omega) (by omega),w64 (by omega) (by omega)];omega
     have e2:IntKind.i64.wrap ((i:Int)+1)=(i+1:Nat):=by rw [w64 (by omega) (by omega)];omega
     have hl:h.ldV b1 1=some ⟨some ⟨bd,0,none⟩,s.size,s.size+1⟩:=l1.ld (lf:=.sl) (v:=vsl ⟨some ⟨bd,0,none⟩,s.size,s.size+1⟩) rfl rfl
     simp only [Wp_bind,Wp_nn',Wp_ldI,Wp_ldS,Wp_ldV,Wp_ldB,Wp_idxS,Wp_sliceS,Wp_pure,plus_eq,Nat.zero_add,Nat.reduceAdd,Option.some.injEq,exists_eq_left',decide_eq_true_eq,ba_get,Int.toNat_natCast,hc,Int.natCast_nonneg,true_and,hl,Wp_idxA,e1,e2,Nat.mul_one]
     refine⟨by omega,?_⟩
     refine ld.st hw (by simp;omega) (by rfl) fun h' ld' f=>?_
     rw [splice1 (by omega)] at ld'
     have ih:=readLoop_ok hs d0 d1 d2 n (i+1) h' _ f.wf (hu.set _ _) (by simp [hlen]) (l0.fr f (by omega)) (l1.fr f (by omega)) ld' h1' (by omega)
     refine ih.mono fun x h2 hx=>?_
     obtain⟨f2,hx⟩:=hx
     refine⟨(f.mono hw fun g hg _=>.inl (.inr hg)).trans hw f2 fun g hg _=>.inl hg,?_⟩
     have:(s.data.toList.drop i).all isDig=(s.data.toList.drop (i+1)).all isDig:=by
      rw [had];simp;intro;omega
     rw [this];exact hx
  ·rename_i h1
   rw [Wp_pure,List.drop_eq_nil_of_le (by rw [size_toList];omega)]
   refine⟨Fr.refl hw,?_⟩
   simp only [List.all_nil,if_true]
   exact⟨by trivial,l0,l1,cs,hu,hlen,ld⟩
theorem flat_one {n:Nat}{v:Value}:(List.replicate n [v]).flatten=List.replicate n v:=by
 induction n with
 | zero=>rfl
 | succ n ih=>simp [List.replicate_succ,ih]
theorem readJ1_wp {s:ByteArray}{b0 b1:Nat}{ng:Bool}{n:Nat}{h:AHeap}(hs:s.size≤65536)(hn:s.size+1<n)(hw:WF h)(d0:b0≠b1)(l0:LB h b0 [.bool false,vsl0] T_integer_number)(l1:LB h b1 [.bool ng,vsl0] T_integer_number) :
  Wp (integer_read_J1 n (adr b0) (adr b1) s) h fun x h'=>x.2=s.data.toList.all isDig∧Fr (fun g=>g=b0+1∨g=b1+1) h h':=by
 unfold integer_read_J1
 rw [Wp_bind]
 refine Wp_mkS (by omega) (by omega) (by unfold bigN;omega) ?_
 simp only [Int.toNat_natCast,flat_one]
 have k0:=l0.lt hw
 have k1:=l1.lt hw
 have f1:=Fr.new (e:=T_u8) (cs:=List.replicate s.size (.int .u8 0)) hw
 have ld:=LB.new (h:=h) (e:=T_u8) (cs:=List.replicate s.size (.int .u8 0))
 have l0:=l0.fr f1 (fun hx=>hx)
 have l1:=l1.fr f1 (fun hx=>hx)
 generalize h.new T_u8 (List.replicate s.size (.int .u8 0))=h1 at *
 generalize hbd:h.next=bd at *
 simp only [Wp_bind,Wp_nn',Wp_ldI,Wp_ldS,Wp_ldV,Wp_ldB,Wp_idxS,Wp_sliceS,Wp_pure,plus_eq,Nat.zero_add,Nat.reduceAdd,Option.some.injEq,exists_eq_left',decide_eq_true_eq]
 refine l1.st f1.wf (by simp) rfl fun h2 l1 f2=>?_
 have hu:u8s (List.replicate s.size (.int .u8 0)):=fun v hv=>⟨0,(List.eq_of_mem_replicate hv)⟩
 refine (readLoop_ok (ng:=ng) hs d0 (by omega) (by omega) n 0 h2 _ f2.wf hu (by simp) (l0.fr f2 (by omega)) l1 (ld.fr f2 (by omega)) (by omega) (by omega)).mono fun x h3 hx=>?_
 obtain⟨f3,hx⟩:=hx
 have f03:Fr (fun g=>g=b0+1∨g=b1+1) h h3:=by
  have a1:Fr (fun g=>g=b0+1∨g=b1+1) h h1:=f1.mono hw (fun _ hx _=>hx.elim)
  have a2:=a1.fresh hw f2 (fun g hg=>.inl (.inr hg))
  refine a2.fresh hw f3 fun g hg=>?_
  rcases hg with hg | hg
  ·exact .inl (.inl hg)
  ·exact .inr (by omega)
 simp only [List.drop_zero] at hx
 split at hx
 ·rename_i hall
  obtain⟨rfl,l0,l1,cs',hu',hl',ld'⟩:=hx
  have hl:h3.ldV b1 1=some ⟨some ⟨bd,0,none⟩,s.size,s.size+1⟩:=l1.ld (lf:=.sl) (v:=vsl ⟨some ⟨bd,0,none⟩,s.size,s.size+1⟩) rfl rfl
  simp only [sumElim,Wp_bind,Wp_nn',Wp_ldI,Wp_ldS,Wp_ldV,Wp_ldB,Wp_idxS,Wp_sliceS,Wp_pure,plus_eq,Nat.zero_add,Nat.reduceAdd,Option.some.injEq,exists_eq_left',decide_eq_true_eq,hl]
  unfold integer_trim
  simp only [Wp_bind,Wp_nn',Wp_ldI,Wp_ldS,Wp_ldV,Wp_ldB,Wp_idxS,Wp_sliceS,Wp_pure,plus_eq,Nat.zero_add,Nat.reduceAdd,Option.some.injEq,exists_eq_left',decide_eq_true_eq]
  refine (trim_ok hu' (by omega) n s.size h3 f3.wf ld' (by omega) (by omega)).mono fun x h4 hx=>?_
  obtain⟨rfl,k',hk',rfl⟩:=hx
  refine l1.st f3.wf (by simp [splice]) rfl fun h5 l1 f5=>?_
  refine Wp_ldLs.2 ⟨(ng,⟨some ⟨bd,0,none⟩,k',s.size+1⟩),l1.lds (by simp [splice]) rfl,?_⟩
  refine (l0.fr f5 (by omega)).st f5.wf (by simp) rfl fun h6 l0 f6=>?_
  refine Wp_ldLs.2 ⟨(ng,⟨some ⟨bd,0,none⟩,k',s.size+1⟩),l0.lds (by simp [splice]) rfl,?_⟩
  refine⟨hall.symm,(f03.fresh hw f5 fun g hg=>?_).fresh hw f6 fun g hg=>?_⟩
  ·exact .inl (.inr hg)
  ·exact .inl (.inl hg)
 ·rename_i hall
  obtain⟨rfl,l0⟩:=hx
  simp only [sumElim,Wp_bind,Wp_nn',Wp_ldI,Wp_ldS,Wp_ldV,Wp_ldB,Wp_idxS,Wp_sliceS,Wp_pure,plus_eq,Nat.zero_add,Nat.reduceAdd,Option.some.injEq,exists_eq_left',decide_eq_true_eq]
  refine Wp_ldLs.2 ⟨(false,sl0),l0.lds (by simp) rfl,?_⟩
  exact⟨by simp at hall ⊢;exact hall,f03⟩
def okT (m:Nat)(T:List UInt8):Bool:=decide (T.length≠0∧T.length≤400∧¬(T.head?=some 48∧1<m)) && T.all isDig
theorem readJ0_wp {s t:ByteArray}{b0 b1:Nat}{ng:Bool}{n:Nat}{h:AHeap}(hs:t.size≤65536)(hn:t.size+1<n)(hw:WF h)(d0:b0≠b1)(l0:LB h b0 [.bool false,vsl0] T_integer_number)(l1:LB h b1 [.bool ng,vsl0] T_integer_number) :
  Wp (integer_read_J0 n s (adr b0) (adr b1) t) h fun x h'=>x.2=okT s.size t.data.toList∧Fr (fun g=>g=b0+1∨g=b1+1) h h':=by
 unfold integer_read_J0
 have bad:okT s.size t.data.toList=false→Wp (M.bind (stN (adr b0) [Value.bool false,vsl0]) fun x0=>M.bind (ldLs [.bool,.sl] (adr b0)) fun (x1:Bool×Sl)=>M.pure ((x1.1,x1.2),false)) h fun x h'=>x.2=okT s.size t.data.toList∧Fr (fun g=>g=b0+1∨g=b1+1) h h':=by
  intro hb
  simp only [Wp_bind,Wp_nn',Wp_ldI,Wp_ldS,Wp_ldV,Wp_ldB,Wp_idxS,Wp_sliceS,Wp_pure,plus_eq,Nat.zero_add,Nat.reduceAdd,Option.some.injEq,exists_eq_left',decide_eq_true_eq]
  refine l0.st hw (by simp) rfl fun h5 l0 f5=>?_
  refine Wp_ldLs.2 ⟨(false,sl0),l0.lds (by simp [splice]) rfl,?_⟩
  exact⟨hb.symm,f5.mono hw fun g hg _=>.inl (.inl hg)⟩
 have good:okT s.size t.data.toList=t.data.toList.all isDig→Wp (integer_read_J1 n (adr b0) (adr b1) t) h fun x h'=>x.2=okT s.size t.data.toList∧Fr (fun g=>g=b0+1∨g=b1+1) h h':=by
  intro hg;rw [hg];exact readJ1_wp hs hn hw d0 l0 l1
 have hl:t.data.toList.length=t.size:=size_toList t
 simp only [decide_eq_true_eq]
 split
 ·rename_i h1
  have hz:t.size=0:=by omega
  exact bad (by unfold okT;simp [hl,hz])
 ·rename_i h1
  have hz:t.size≠0:=by omega
  split
  ·rename_i h2
   have hz4:¬ t.size≤400:=by omega
   exact bad (by unfold okT;simp [hl,hz4])
  ·rename_i h2
   have hz4:t.size≤400:=by omega
   have hc:t.data.toList[0]?=some t.data.toList[0]:=List.getElem?_eq_getElem (by omega)
   generalize t.data.toList[0]=c at hc
   have hh:t.data.toList.head?=some c:=by rw [List.head?_eq_getElem?];exact hc
   have hcc:((c.toNat:Int)=48)↔c=48:=by
    rw [← UInt8.toNat_inj];simp;omega
   rw [Wp_bind,Wp_idxS]
   refine⟨c,by omega,by rw [ba_get];exact hc,?_⟩
   by_cases h3:c=48
   ·rw [if_pos (hcc.2 h3)]
    split
    ·rename_i h4
     exact bad (by unfold okT;rw [hh,h3];simp;intro _ _ hm;omega)
    ·rename_i h4
     exact good (by unfold okT;rw [hh,h3];simp [hl,hz,hz4];intro _;omega)
   ·rw [if_neg (fun e=>h3 (hcc.1 e))]
    exact good (by unfold okT;rw [hh];simp [hl,hz,hz4,h3])
theorem integer_Valid_wp {s:ByteArray}{h:AHeap}{n:Nat}(hs:s.size≤65536)(hn:s.size+1<n)(hw:WF h):Wp (integer_Valid n s) h fun x h'=>x=intOK s∧Fr (fun _=>False) h h':=by
 have main:Wp (integer_read n s) h fun x h'=>x.2=intOK s∧Fr (fun _=>False) h h':=by
  unfold integer_read
  simp only [Wp_bind,Wp_nn',Wp_ldI,Wp_ldS,Wp_ldV,Wp_ldB,Wp_idxS,Wp_sliceS,Wp_pure,plus_eq,Nat.zero_add,Nat.reduceAdd,Option.some.injEq,exists_eq_left',decide_eq_true_eq,Wp_new]
  refine⟨rfl,rfl,?_⟩
  have f1:=Fr.new (e:=T_integer_number) (cs:=[.bool false,vsl0]) hw
  have l0:=LB.new (h:=h) (e:=T_integer_number) (cs:=[.bool false,vsl0])
  have nx:(h.new T_integer_number [.bool false,vsl0]).next=h.next+1:=rfl
  generalize h.new T_integer_number [.bool false,vsl0]=h1 at *
  have f2:=Fr.new (e:=T_integer_number) (cs:=[.bool false,vsl0]) f1.wf
  have l1:=LB.new (h:=h1) (e:=T_integer_number) (cs:=[.bool false,vsl0])
  have l0':=l0.fr f2 (by simp)
  have f3:=f1.fresh hw f2 (by simp)
  rw [nx] at *
  generalize h1.new T_integer_number [.bool false,vsl0]=h2 at *
  refine l1.st f3.wf (by simp) rfl fun h4 l1' f4=>?_
  have l0'':=l0'.fr f4 (by simp)
  have f5:=f3.fresh hw f4 (fun g hg=>.inr (by omega))
  have J0:∀ {t:ByteArray} {ng:Bool} {h5:AHeap},t.size≤s.size→LB h5 h.next [.bool false,vsl0] T_integer_number→LB h5 (h.next+1) [.bool ng,vsl0] T_integer_number→Fr (fun _=>False) h h5→okT s.size t.data.toList=intOK s →
    Wp (integer_read_J0 n s (adr h.next) (adr (h.next+1)) t) h5 fun x h'=>x.2=intOK s∧Fr (fun _=>False) h h':=by
   intro t ng h5 ht a0 a1 fa he
   refine (readJ0_wp (by omega) (by omega) fa.wf (by omega) a0 a1).mono fun x h' hx=>?_
   exact⟨hx.1.trans he,fa.fresh hw hx.2 fun g hg=>.inr (by omega)⟩
  have hl:s.data.toList.length=s.size:=size_toList s
  split
  ·rename_i h1
   have h1':1<s.size:=by omega
   have hc:s.data.toList[0]?=some s.data.toList[0]:=List.getElem?_eq_getElem (by omega)
   generalize s.data.toList[0]=c at hc
   have hh:s.data.toList.head?=some c:=by rw [List.head?_eq_getElem?];exact hc
   have hcc:((c.toNat:Int)=45)↔c=45:=by
    rw [← UInt8.toNat_inj];simp;omega
   rw [Wp_bind,Wp_idxS]
   refine⟨c,by omega,by rw [ba_get];exact hc,?_⟩
   split
   ·rename_i h3
    have h3':=hcc.1 h3
    simp only [Wp_bind,Wp_nn',Wp_ldI,Wp_ldS,Wp_ldV,Wp_ldB,Wp_idxS,Wp_sliceS,Wp_pure,plus_eq,Nat.zero_add,Nat.reduceAdd,Option.some.injEq,exists_eq_left',decide_eq_true_eq]
    refine l1'.st f5.wf (by simp [splice]) rfl fun h6 l1 f6=>?_
    refine⟨by omega,by omega,by omega,?_⟩
    refine J0 (ng:=true) ?_ (l0''.fr f6 (by simp)) l1 (f5.fresh hw f6 fun g hg=>.inr (by omega)) ?_
    ·rw [← size_toList,ex_list];simp
    ·have:(s.extract (1:Int).toNat (s.size:Int).toNat).data.toList=s.data.toList.tail:=by
      rw [ex_list,Int.toNat_natCast]
      show (s.data.toList.drop 1).take (s.size - 1)=_
      rw [List.drop_one,List.take_of_length_le (by simp [hl])]
     rw [this]
     unfold intOK okT
     simp only [hl,h1',hh,h3',true_and,if_true]
   ·rename_i h3
    have h3':¬ c=45:=fun e=>h3 (hcc.2 e)
    refine J0 (ng:=false) (Nat.le_refl _) l0'' l1' f5 ?_
    unfold intOK okT
    simp only [hl,h1',hh,h3',true_and,if_false,Option.some.injEq]
  ·rename_i h1
   have h1':¬ 1<s.size:=by omega
   refine J0 (ng:=false) (Nat.le_refl _) l0'' l1' f5 ?_
   unfold intOK okT
   simp only [hl,h1',false_and,if_false]
 unfold integer_Valid
 refine Wp.seq main fun x h1 hx=>?_
 obtain⟨e1,f1⟩:=hx
 simp only [Wp_bind,Wp_nn',Wp_ldI,Wp_ldS,Wp_ldV,Wp_ldB,Wp_idxS,Wp_sliceS,Wp_pure,plus_eq,Nat.zero_add,Nat.reduceAdd,Option.some.injEq,exists_eq_left',decide_eq_true_eq,Wp_new]
 refine⟨rfl,?_⟩
 have f2:=Fr.new (e:=T_integer_number) (cs:=[.bool false,vsl0]) f1.wf
 have l1:=LB.new (h:=h1) (e:=T_integer_number) (cs:=[.bool false,vsl0])
 refine l1.st f2.wf (by simp) rfl fun h4 l1' f4=>?_
 refine⟨e1,(f1.fresh hw f2 (by simp)).fresh hw f4 fun g hg=>.inr ?_⟩
 have:=f1.next;omega
end Go.Sh
