
import Derived.Test.YtlbigfjnapgioaaGreatDoorPac
import Derived.Test.YtlbigfjnapgioaaGreatDoorPae
import Derived.Test.YtlbigfjnapgioaaGreatDoorAw
set_option linter.all false
namespace Go.Sh
open Go Go.Ago Go.Proofs
variable {β : Type} {h h' h0 : AHeap} {L : List Own} {Q : β → AHeap → Prop} {S : PSt}
theorem St.gr (st : St h S) : GrR h S.nsl (S.nodes.map NodeR.v):=by
 refine ⟨S.nodes,S.ng,rfl,st.nodes.rsl,fun x hx=>?_⟩
 obtain ⟨i,hi⟩:=List.mem_iff_getElem?.1 hx
 exact ⟨⟨_,(st.keys i x hi).rsl⟩,⟨_,(st.items i x hi).rsl⟩⟩
theorem _root_.Go.Ago.OSl.elem {s : Sl} {sz : Nat} {e : TypeId} {cs : List Value} {g : Nat} (o : OSl h s sz e cs g) : elemOk h s e = true:=by
 rcases o.2 with ⟨rfl,_⟩ | ⟨_,_,_,b,base,h5,h6,_⟩
 ·rfl
 ·unfold elemOk;rw [h5];simp only [h6];simp [Nat.beq_refl]
theorem Bd_tree (v : BTv) (hn : nsz v ≤ 4096) : Bd (nds 0 v) 4096:=by
 have h1:=refs_len v 0
 refine ⟨by rw [nds_len];exact hn,by omega,fun x hx=>?_⟩
 have h2 : (refs x).length ≤ (refsL (nds 0 v)).length:=(List.sublist_flatten_of_mem (List.mem_map_of_mem hx)).length_le
 unfold refs at h2
 rw [List.length_append] at h2
 omega
mutual
theorem txt_le : ∀ (v : BTv) (b : Nat),∀ x ∈ nds b v,x.text.size ≤ (enc v).length
 | .int t,b,x,hx=>by
  rw [nds,List.mem_singleton] at hx
  subst hx
  have:=size_toList t
  simp only [enc,List.length_cons,List.length_append,List.length_nil];omega
 | .str t,b,x,hx=>by
  rw [nds,List.mem_singleton] at hx
  subst hx
  have:=size_toList t
  simp only [enc,encS,List.length_cons,List.length_append];omega
 | .list l,b,x,hx=>by
  rw [nds] at hx
  simp only [enc,List.length_cons,List.length_append,List.length_nil]
  rcases List.mem_cons.1 hx with rfl | hx
  ·exact Nat.zero_le _
  ·have:=txtL_le l _ x hx;omega
 | .map l,b,x,hx=>by
  rw [nds] at hx
  simp only [enc,List.length_cons,List.length_append,List.length_nil]
  rcases List.mem_cons.1 hx with rfl | hx
  ·exact Nat.zero_le _
  ·have:=txtD_le l _ x hx;omega
theorem txtL_le : ∀ (l : BTl) (b : Nat),∀ x ∈ ndsL b l,x.text.size ≤ (encL l).length
 | .nil,b,x,hx=>by rw [ndsL] at hx;cases hx
 | .cons v l,b,x,hx=>by
  rw [ndsL] at hx
  simp only [encL,List.length_append]
  rcases List.mem_append.1 hx with hx | hx
  ·have:=txt_le v _ x hx;omega
  ·have:=txtL_le l _ x hx;omega
theorem txtD_le : ∀ (l : BTd) (b : Nat),∀ x ∈ ndsD b l,x.text.size ≤ (encD l).length
 | .nil,b,x,hx=>by rw [ndsD] at hx;cases hx
 | .cons k v l,b,x,hx=>by
  rw [ndsD] at hx
  simp only [encD,List.length_append]
  rcases List.mem_cons.1 hx with rfl | hx
  ·have:=size_toList k
   simp only [encS,List.length_append,List.length_cons];omega
  ·rcases List.mem_append.1 hx with hx | hx
   ·have:=txt_le v _ x hx;omega
   ·have:=txtD_le l _ x hx;omega
end
theorem item_in {v : BTv} : ∀ x ∈ nds 0 v,∀ y ∈ x.items,∃ z,gt (nds 0 v) y = some z:=by
 intro x hx y hy
 have hr : y ∈ refsL (nds 0 v):=List.mem_flatMap.2 ⟨x,hx,by unfold refs;exact List.mem_append_right _ hy⟩
 obtain ⟨j,rfl,_,h2⟩:=ref_in hr (ref_nn v 0 y hr)
 obtain ⟨z,hz⟩:=getI (l:=nds 0 v) (i:=j) (by rw [nds_len];omega)
 exact ⟨z,by rw [gt_nat];exact hz⟩
theorem accepts_wp (s : ByteArray) (h : AHeap) (hw : WF h) : Wp (rosettalaw34_BencodeAccepts 20000000 s) h fun x _=>x = true:=by
 have aw : ∀ {h1 : AHeap},WF h1 → Wp (M.bind (rosettalaw34_awake 20000000) fun x=>M.pure x) h1 fun x _=>x = true:=fun hw1=>by
  rw [Wp_bind]
  refine (awake_wp hw1 (by omega)).mono fun x h2 hx=>?_
  rw [Wp_pure];exact hx.1
 unfold rosettalaw34_BencodeAccepts
 by_cases hbig : (400 : Int) < (s.size : Int)
 ·rw [if_pos (by simpa using hbig)];exact aw hw
 rw [if_neg (by simpa using hbig)]
 have hs : s.size ≤ 400:=by omega
 obtain ⟨r,hr⟩:=spParse_some s 900 (by omega)
 rw [Wp_bind]
 refine (bencode_Parse_wp hw (by omega) hr).mono fun x h1 hx=>?_
 obtain ⟨f1,hx⟩:=hx
 have w : Z h1 h1 []:=Z.start f1.wf
 cases r with
 | error e =>
  obtain ⟨rfl,he⟩:=hx
  refine w.new fun b h2 w _=>w.st 0 (o:=0) (cs':=[vi 0,.string (ofBytes []),vsl sl0,vi 0,vsl sl0,vsl sl0]) fun h3 w=>?_
  rw [if_pos (by simpa using he)]
  refine w.ld 0 (o:=4) (l:=.sl) (x:=sl0) ?_
  rw [if_pos (by rfl)]
  refine w.ld 0 (o:=1) (l:=.str) (x:=ofBytes []) ?_
  rw [if_pos (eqS_rfl _)]
  exact aw w.wf
 | ok p =>
  obtain ⟨S,st,_,rfl,hN,hS⟩:=hx
  obtain ⟨v,v1,v2,v3,rfl⟩:=snd_parse hr
  have hnn:=sizes_ok hr
  simp only at hN hS hnn
  rw [nds_len] at hnn
  have G : GrR h1 S.nsl (nds 0 v):=by have:=St.gr st;rw [hN] at this;exact this
  have R : SR h1 S.ssl (sps 0 0 0 (-1) 0 0 0 v):=by have:=OSl.rsl st.spans;rw [hS] at this;exact ⟨_,this⟩
  have hE : ∀ h',Fr (fun _=>False) h1 h' → elemOk h' S.ssl T_api_Span = true:=fun h' f=>(st.spans.fr f fun hx=>hx.elim).elem
  have hsl : (enc v).length = s.size:=by rw [← v2,size_toList]
  have hsp:=sps_len 0 0 0 (-1) 0 0 0 v
  have hsp2:=nsp_le v
  have hB:=Bd_tree v hnn
  have ht : ∀ x ∈ nds 0 v,x.text.size ≤ 65536:=fun x hx=>by have:=txt_le v 0 x hx;omega
  have hgc : gcheck 135300 (nds 0 v) 0 = some 0:=gcheck_tree v1 hnn (by omega)
  refine w.new fun b h2 w _=>w.st 0 (o:=0) (cs':=[vi 5,.string s,vsl S.nsl,vi 0,vsl S.ssl,vsl sl0]) fun h3 w=>?_
  rw [if_neg (by simp)]
  refine w.ld 0 (o:=1) (l:=.str) (x:=s) ?_
  rw [if_pos (eqS_rfl _)]
  refine w.ld 0 (o:=0) (l:=li) (x:=5) ?_
  rw [if_pos (by rfl)]
  refine w.lds 0 (ls:=[li,.str,.sl,li,.sl,.sl]) (x:=(5,s,S.nsl,0,S.ssl,sl0)) ?_
  rw [Wp_bind]
  refine (spanCheck_wp w G hB ht R ⟨0,OSl.rsl (e:=T_api_Note) OSl.nil⟩ hE (by omega) (T:=[]) (Nat.zero_le _) (k:=135300) (by omega) (spCheck_tree v1 hnn (by omega) v2 (by omega))).mono fun y h4 hy=>?_
  obtain ⟨rfl,w⟩:=hy
  rw [if_pos (by rfl)]
  refine (Cl.sub (LB.cl (w.get 0 rfl)) (o:=2) (n:=2) (by show 4 ≤ 6;decide)).lds (ls:=[.sl,li]) (x:=(S.nsl,0)) rfl ?_
  rw [Wp_bind]
  refine (Check_wp w G hB ht (by omega) hgc).mono fun y h5 hy=>?_
  obtain ⟨rfl,w⟩:=hy
  rw [if_pos (by rfl)]
  refine (Cl.sub (LB.cl (w.get 0 rfl)) (o:=2) (n:=2) (by show 4 ≤ 6;decide)).lds (ls:=[.sl,li]) (x:=(S.nsl,0)) rfl ?_
  rw [Wp_bind]
  obtain ⟨r0,hr0⟩:=getI (l:=nds 0 v) (i:=0) (by rw [nds_len];exact nsz_pos v)
  obtain ⟨r,hr1,hr2⟩:=scnt_tree (v:=v) hnn
  refine (Tree_wp w G hB ht (k:=135300) (by omega) hgc (fun x hx hk _=>tk_tree v 0 0 (Pt.self _) v1 (by omega) x hx hk) item_in (r0:=r0) (by rw [show (0 : Int) = ((0 : Nat) : Int) from rfl,gt_nat];exact hr0) hr1 hr2).mono fun y h6 hy=>?_
  obtain ⟨rfl,w⟩:=hy
  rw [if_pos rfl]
  exact aw w.wf
end Go.Sh
