
import Derived.Test.YtmjkmdhbcmckgaaGreatDoorCd
import Derived.Test.YtmjkmdhbcmckgaaGreatDoorAgoN
import Derived.Test.YtmjkmdhbcmckgaaGreatDoorPae
set_option linter.all false
namespace Go.Proofs.YtmjkmdhbcmckgaaGreatDoor
open Go Go.Ago Go.Sh Go.ChangeShapes
variable {W:World}{ι:IMap}{h h':AHeap}{H:Type}{enc:TypeId×Value→H}
abbrev TR (enc:TypeId×Value→H)(W:World)(n:Nat)(t:TypeId)(cs:List Value)(y:DataW H×List MemPlace):Prop:=DataW.trod enc Tryz.prog W 0 (fun _=>true) true n t cs=some y
theorem co3:Tryz.prog.cellsOf 3=1:=by kernel_rfl
theorem co4:Tryz.prog.cellsOf 4=1:=by kernel_rfl
theorem co9:Tryz.prog.cellsOf 9=1:=by kernel_rfl
theorem co22:Tryz.prog.cellsOf 22=1:=by kernel_rfl
theorem co24:Tryz.prog.cellsOf 24=2:=by kernel_rfl
theorem co25:Tryz.prog.cellsOf 25=1:=by kernel_rfl
theorem co26:Tryz.prog.cellsOf 26=1:=by kernel_rfl
theorem co28:Tryz.prog.cellsOf 28=6:=by kernel_rfl
theorem co34:Tryz.prog.cellsOf 34=9:=by kernel_rfl
theorem co35:Tryz.prog.cellsOf 35=1:=by kernel_rfl
theorem co50:Tryz.prog.cellsOf 50=5:=by kernel_rfl
theorem co78:Tryz.prog.cellsOf 78=3:=by kernel_rfl
theorem fld {t t':TypeId}{fs:Array Field}{fuel k o:Nat}{cs:List Value}{x:DataW H×List MemPlace}(ht:Tryz.prog.underlying t=some (.struct fs))(hx:TR enc W fuel t cs x)(i:Nat){f:Field}(hf:fs[i]?=some f)(h1:f.type=t')(h2:f.offset=o)(h3:Tryz.prog.cellsOf t'=k) :
  ∃ n y,TR enc W n t' ((cs.drop o).take k) y:=by
 obtain⟨xs,n,_,_,_,hl,hfs⟩:=DataW.trod_struct ht hx
 have h4:=hfs i f hf
 have hlt:i<fs.size:=(Array.getElem?_eq_some_iff.1 hf).1
 rw [List.getElem?_eq_getElem (by omega),h1,h2,h3] at h4
 exact⟨n,_,h4⟩
theorem slen {t:TypeId}{fs:Array Field}{fuel:Nat}{cs:List Value}{x:DataW H×List MemPlace}(ht:Tryz.prog.underlying t=some (.struct fs))(hx:TR enc W fuel t cs x):cs.length=Tryz.prog.cellsOf t:=by
 obtain⟨xs,n,_,_,hl,_⟩:=DataW.trod_struct ht hx
 exact hl
theorem tr_int {n:Nat}{t:TypeId}{cs:List Value}{x:DataW H×List MemPlace}(ht:Tryz.prog.underlying t=some (.int .i64))(hx:TR enc W n t cs x):∃ z,cs=[vi z]:=let ⟨z,h,_⟩:=DataW.trod_int ht hx;⟨z,h⟩
theorem tr_str {n:Nat}{t:TypeId}{cs:List Value}{x:DataW H×List MemPlace}(ht:Tryz.prog.underlying t=some .string)(hx:TR enc W n t cs x):∃ z:ByteArray,cs=[.string z]:=let ⟨z,h,_⟩:=DataW.trod_string ht hx;⟨z,h⟩
theorem tr_bool {n:Nat}{t:TypeId}{cs:List Value}{x:DataW H×List MemPlace}(ht:Tryz.prog.underlying t=some .bool)(hx:TR enc W n t cs x):∃ z,cs=[.bool z]:=let ⟨z,h,_⟩:=DataW.trod_bool ht hx;⟨z,h⟩
theorem beg_ints (B:Beg Tryz.prog W ι h){n:Nat}{cs:List Value}{x:DataW H×List MemPlace}(hx:TR enc W n 35 cs x) :
  ∃ v ι' h' s zs,cs=[v]∧Beg Tryz.prog W ι' h'∧ι.le ι'∧Fr (fun _=>False) h h'∧VRel Tryz.prog ι' (pkL .sl s) v∧IL h' s zs:=by
 rcases open_slice Tryz.underlying35 (by rw [co3];decide) hx with rfl | ⟨a,len,cap,els,rfl,hl,_,hel,heach,hcell,h0⟩
 ·exact⟨_,ι,h,sl0,[],rfl,B,IMap.le.refl _,Fr.refl B.wf,.flat _ rfl,⟨0,RSl.nil rfl⟩⟩
 ·have hz:∀ (els:List (List Value)),(∀ l ∈ els,l.length=Tryz.prog.cellsOf 3∧∃ m y,DataW.trod enc Tryz.prog W 0 (fun _=>true) true m 3 l=some y)→∃ zs:List Int,els.flatten=zs.map vi∧zs.length=els.length:=by
   intro els
   induction els with
   | nil=>intro _;exact⟨[],rfl,rfl⟩
   | cons l els ih =>
    intro hh
    obtain⟨_,m,y,hm⟩:=hh l List.mem_cons_self
    obtain⟨z,rfl⟩:=tr_int Tryz.underlying3 hm
    obtain⟨zs,e1,e2⟩:=ih fun l hl=>hh l (List.mem_cons_of_mem _ hl)
    exact⟨z::zs,by rw [List.flatten_cons,e1];rfl,by simp [e2]⟩
  obtain⟨zs,e1,e2⟩:=hz els heach
  obtain⟨ι',h',s,B',le,f,hv,⟨g,hr⟩,hs,_⟩:=B.slice (sz:=1) (cs':=els.flatten) (c:=zs.map vi) hl (by decide) (by rw [e1,List.length_map];omega) hcell h0 (by rw [e1];exact LRel.flat (by simp [flat1])) (by simp [scal])
  exact⟨_,ι',h',s,zs,rfl,B',le,f,hv,⟨g,hr⟩⟩
theorem len5 {l:List Value}(hl:l.length=5):∃ a b c d e,l=[a,b,c,d,e]:=by
 match l,hl with
 | [a,b,c,d,e],_=>exact⟨a,b,c,d,e,rfl⟩
theorem len6 {l:List Value}(hl:l.length=6):∃ a b c d e f,l=[a,b,c,d,e,f]:=by
 match l,hl with
 | [a,b,c,d,e,f],_=>exact⟨a,b,c,d,e,f,rfl⟩
theorem len9 {l:List Value}(hl:l.length=9):∃ a b c d e f g i j,l=[a,b,c,d,e,f,g,i,j]:=by
 match l,hl with
 | [a,b,c,d,e,f,g,i,j],_=>exact⟨a,b,c,d,e,f,g,i,j,rfl⟩
theorem len3 {l:List Value}(hl:l.length=3):∃ a b c,l=[a,b,c]:=by
 match l,hl with
 | [a,b,c],_=>exact⟨a,b,c,rfl⟩
abbrev El (enc:TypeId×Value→H)(W:World)(e:TypeId)(l:List Value):Prop:=l.length=Tryz.prog.cellsOf e∧∃ m y,DataW.trod enc Tryz.prog W 0 (fun _=>true) true m e l=some y
theorem node_one (ι:IMap)(h:AHeap)(l:List Value)(B:Beg Tryz.prog W ι h)(hl:El enc W 50 l) :
  ∃ (ι':IMap) (h':AHeap) (x:NodeR),Beg Tryz.prog W ι' h'∧ι.le ι'∧Fr (fun _=>False) h h'∧(IL h' x.ks x.kl∧IL h' x.is x.il)∧LRel Tryz.prog ι' x.enc l∧x.enc.all scal=true:=by
 obtain⟨h1,m,y,hm⟩:=hl
 obtain⟨a,b,c,d,e,rfl⟩:=len5 (by rw [h1];exact co50)
 obtain⟨_,_,q0⟩:=fld Tryz.underlying50 hm 0 rfl rfl rfl co3
 obtain⟨_,_,q1⟩:=fld Tryz.underlying50 hm 1 rfl rfl rfl co9
 obtain⟨_,_,q2⟩:=fld Tryz.underlying50 hm 2 rfl rfl rfl co4
 obtain⟨_,_,q3⟩:=fld Tryz.underlying50 hm 3 rfl rfl rfl co35
 obtain⟨_,_,q4⟩:=fld Tryz.underlying50 hm 4 rfl rfl rfl co35
 obtain⟨z,e0⟩:=tr_int Tryz.underlying3 q0
 obtain⟨t,e1⟩:=tr_str Tryz.underlying9 q1
 obtain⟨o,e2⟩:=tr_bool Tryz.underlying4 q2
 cases e0;cases e1;cases e2
 obtain⟨v3,ι1,h1',ks,kl,e3,B1,le1,f1,r3,i3⟩:=beg_ints B q3
 obtain⟨v4,ι2,h2',is,il,e4,B2,le2,f2,r4,i4⟩:=beg_ints B1 q4
 cases e3;cases e4
 exact⟨ι2,h2',⟨z,t,o,ks,kl,0,is,il,0⟩,B2,le1.trans le2,f1.trans B.wf f2 (fun _ hy _=>hy.elim),⟨i3.fr f2,i4⟩,
  .cons (.flat _ rfl) (.cons (.flat _ rfl) (.cons (.flat _ rfl) (.cons (r3.mono le2) (.cons r4 .nil)))),rfl⟩
theorem beg_nodes (B:Beg Tryz.prog W ι h){n:Nat}{cs:List Value}{x:DataW H×List MemPlace}(hx:TR enc W n 22 cs x) :
  ∃ v ι' h' s N,cs=[v]∧Beg Tryz.prog W ι' h'∧ι.le ι'∧Fr (fun _=>False) h h'∧VRel Tryz.prog ι' (pkL .sl s) v∧GrR h' s N:=by
 rcases open_slice Tryz.underlying22 (by rw [co50];decide) hx with rfl | ⟨a,len,cap,els,rfl,hl,_,hel,heach,hcell,h0⟩
 ·exact⟨_,ι,h,sl0,[],rfl,B,IMap.le.refl _,Fr.refl B.wf,.flat _ rfl,[],0,rfl,RSl.nil rfl,by simp⟩
 ·obtain⟨ι1,h1,xs,B1,le1,f1,k1,r1,s1,n1⟩:=Beg.list (P:=Tryz.prog) (W:=W) (K:=fun h (x:NodeR)=>IL h x.ks x.kl∧IL h x.is x.il) (R:=El enc W 50) NodeR.enc (fun _ _ _ k f=>⟨k.1.fr f,k.2.fr f⟩) node_one els ι h B heach
  have hfl:els.flatten.length=len * 5:=by
   rw [← r1.1,flat_length NodeR.enc_len,n1,hel]
  obtain⟨ι',h',s,B',le,f,hv,⟨g,hr⟩,hs,_⟩:=B1.slice (sz:=5) (cs':=els.flatten) (c:=xs.flatMap NodeR.enc) hl (by decide) hfl hcell h0 r1 s1
  exact⟨_,ι',h',s,xs.map NodeR.v,rfl,B',le1.trans le,f1.trans B.wf f (fun _ hy _=>hy.elim),hv,xs,g,rfl,hr,fun x hx=>⟨(k1 x hx).1.fr f,(k1 x hx).2.fr f⟩⟩
theorem span_one (ι:IMap)(h:AHeap)(l:List Value)(B:Beg Tryz.prog W ι h)(hl:El enc W 34 l) :
  ∃ (ι':IMap) (h':AHeap) (x:SpanV),Beg Tryz.prog W ι' h'∧ι.le ι'∧Fr (fun _=>False) h h'∧True∧LRel Tryz.prog ι' x.enc l∧x.enc.all scal=true:=by
 obtain⟨h1,m,y,hm⟩:=hl
 obtain⟨a,b,c,d,e,f,g,i,j,rfl⟩:=len9 (by rw [h1];exact co34)
 obtain⟨_,_,q0⟩:=fld Tryz.underlying34 hm 0 rfl rfl rfl co3
 obtain⟨_,_,q1⟩:=fld Tryz.underlying34 hm 1 rfl rfl rfl co3
 obtain⟨_,_,q2⟩:=fld Tryz.underlying34 hm 2 rfl rfl rfl co3
 obtain⟨_,_,q3⟩:=fld Tryz.underlying34 hm 3 rfl rfl rfl co3
 obtain⟨_,_,q4⟩:=fld Tryz.underlying34 hm 4 rfl rfl rfl co3
 obtain⟨_,_,q5⟩:=fld Tryz.underlying34 hm 5 rfl rfl rfl co3
 obtain⟨_,_,q6⟩:=fld Tryz.underlying34 hm 6 rfl rfl rfl co3
 obtain⟨_,_,q7⟩:=fld Tryz.underlying34 hm 7 rfl rfl rfl co4
 obtain⟨_,_,q8⟩:=fld Tryz.underlying34 hm 8 rfl rfl rfl co4
 obtain⟨z0,e0⟩:=tr_int Tryz.underlying3 q0
 obtain⟨z1,e1⟩:=tr_int Tryz.underlying3 q1
 obtain⟨z2,e2⟩:=tr_int Tryz.underlying3 q2
 obtain⟨z3,e3⟩:=tr_int Tryz.underlying3 q3
 obtain⟨z4,e4⟩:=tr_int Tryz.underlying3 q4
 obtain⟨z5,e5⟩:=tr_int Tryz.underlying3 q5
 obtain⟨z6,e6⟩:=tr_int Tryz.underlying3 q6
 obtain⟨z7,e7⟩:=tr_bool Tryz.underlying4 q7
 obtain⟨z8,e8⟩:=tr_bool Tryz.underlying4 q8
 cases e0;cases e1;cases e2;cases e3;cases e4;cases e5;cases e6;cases e7;cases e8
 exact⟨ι,h,⟨z0,z1,z2,z3,z4,z5,z6,z7,z8⟩,B,IMap.le.refl _,Fr.refl B.wf,trivial,LRel.flat rfl,rfl⟩
theorem beg_spans (B:Beg Tryz.prog W ι h){n:Nat}{cs:List Value}{x:DataW H×List MemPlace}(hx:TR enc W n 25 cs x) :
  ∃ v ι' h' s S,cs=[v]∧Beg Tryz.prog W ι' h'∧ι.le ι'∧Fr (fun _=>False) h h'∧VRel Tryz.prog ι' (pkL .sl s) v∧SR h' s S∧∀ h2,Fr (fun _=>False) h' h2→s.len≠0→elemOk h2 s T_api_Span=true:=by
 rcases open_slice Tryz.underlying25 (by rw [co34];decide) hx with rfl | ⟨a,len,cap,els,rfl,hl,_,hel,heach,hcell,h0⟩
 ·exact⟨_,ι,h,sl0,[],rfl,B,IMap.le.refl _,Fr.refl B.wf,.flat _ rfl,⟨0,RSl.nil rfl⟩,fun _ _ hn=>absurd rfl hn⟩
 ·obtain⟨ι1,h1,xs,B1,le1,f1,_,r1,s1,n1⟩:=Beg.list (P:=Tryz.prog) (W:=W) (K:=fun _ (_:SpanV)=>True) (R:=El enc W 34) SpanV.enc (fun _ _ _ k _=>k) span_one els ι h B heach
  have hfl:els.flatten.length=len * 9:=by
   rw [← r1.1,flat_length SpanV.enc_len,n1,hel]
  obtain⟨ι',h',s,B',le,f,hv,⟨g,hr⟩,hs,he⟩:=B1.slice (sz:=9) (cs':=els.flatten) (c:=xs.flatMap SpanV.enc) hl (by decide) hfl hcell h0 r1 s1
  exact⟨_,ι',h',s,xs,rfl,B',le1.trans le,f1.trans B.wf f (fun _ hy _=>hy.elim),hv,⟨g,hr⟩,fun h2 f2 hn=>he hn h2 _ f2⟩
theorem note_one (ι:IMap)(h:AHeap)(l:List Value)(B:Beg Tryz.prog W ι h)(hl:El enc W 78 l) :
  ∃ (ι':IMap) (h':AHeap) (x:NoteV),Beg Tryz.prog W ι' h'∧ι.le ι'∧Fr (fun _=>False) h h'∧True∧LRel Tryz.prog ι' x.enc l∧x.enc.all scal=true:=by
 obtain⟨h1,m,y,hm⟩:=hl
 obtain⟨a,b,c,rfl⟩:=len3 (by rw [h1];exact co78)
 obtain⟨_,_,q0⟩:=fld Tryz.underlying78 hm 0 rfl rfl rfl co3
 obtain⟨_,_,q1⟩:=fld Tryz.underlying78 hm 1 rfl rfl rfl co3
 obtain⟨_,_,q2⟩:=fld Tryz.underlying78 hm 2 rfl rfl rfl co9
 obtain⟨z0,e0⟩:=tr_int Tryz.underlying3 q0
 obtain⟨z1,e1⟩:=tr_int Tryz.underlying3 q1
 obtain⟨z2,e2⟩:=tr_str Tryz.underlying9 q2
 cases e0;cases e1;cases e2
 exact⟨ι,h,⟨z0,z1,z2⟩,B,IMap.le.refl _,Fr.refl B.wf,trivial,LRel.flat rfl,rfl⟩
theorem beg_notes (B:Beg Tryz.prog W ι h){n:Nat}{cs:List Value}{x:DataW H×List MemPlace}(hx:TR enc W n 26 cs x) :
  ∃ v ι' h' s T,cs=[v]∧Beg Tryz.prog W ι' h'∧ι.le ι'∧Fr (fun _=>False) h h'∧VRel Tryz.prog ι' (pkL .sl s) v∧NtR h' s T:=by
 rcases open_slice Tryz.underlying26 (by rw [co78];decide) hx with rfl | ⟨a,len,cap,els,rfl,hl,_,hel,heach,hcell,h0⟩
 ·exact⟨_,ι,h,sl0,[],rfl,B,IMap.le.refl _,Fr.refl B.wf,.flat _ rfl,⟨0,RSl.nil rfl⟩⟩
 ·obtain⟨ι1,h1,xs,B1,le1,f1,_,r1,s1,n1⟩:=Beg.list (P:=Tryz.prog) (W:=W) (K:=fun _ (_:NoteV)=>True) (R:=El enc W 78) NoteV.enc (fun _ _ _ k _=>k) note_one els ι h B heach
  have hfl:els.flatten.length=len * 3:=by
   rw [← r1.1,flat_length NoteV.enc_len,n1,hel]
  obtain⟨ι',h',s,B',le,f,hv,⟨g,hr⟩,hs,he⟩:=B1.slice (sz:=3) (cs':=els.flatten) (c:=xs.flatMap NoteV.enc) hl (by decide) hfl hcell h0 r1 s1
  exact⟨_,ι',h',s,xs,rfl,B',le1.trans le,f1.trans B.wf f (fun _ hy _=>hy.elim),hv,⟨g,hr⟩⟩
theorem beg_graph (B:Beg Tryz.prog W ι h){n:Nat}{cs:List Value}{x:DataW H×List MemPlace}(hx:TR enc W n 24 cs x) :
  ∃ v z ι' h' s N,cs=[v,vi z]∧Beg Tryz.prog W ι' h'∧ι.le ι'∧Fr (fun _=>False) h h'∧VRel Tryz.prog ι' (pkL .sl s) v∧GrR h' s N:=by
 have hl:=slen Tryz.underlying24 hx
 rw [co24] at hl
 match cs,hl with
 | [c0,c1],_ =>
  obtain⟨_,_,q0⟩:=fld Tryz.underlying24 hx 0 rfl rfl rfl co22
  obtain⟨_,_,q1⟩:=fld Tryz.underlying24 hx 1 rfl rfl rfl co3
  obtain⟨z,e1⟩:=tr_int Tryz.underlying3 q1
  obtain⟨v,ι1,h1,s,N,e0,B1,le1,f1,r1,G⟩:=beg_nodes B q0
  cases e0;cases e1
  exact⟨_,z,ι1,h1,s,N,rfl,B1,le1,f1,r1,G⟩
theorem beg_doc (B:Beg Tryz.prog W ι h){n:Nat}{cs:List Value}{x:DataW H×List MemPlace}(hx:TR enc W n 28 cs x) :
  ∃ ι' h' d1 src nsl root ssl tsl N S T,Beg Tryz.prog W ι' h'∧ι.le ι'∧Fr (fun _=>False) h h'∧LRel Tryz.prog ι' [vi d1,.string src,pkL .sl nsl,vi root,pkL .sl ssl,pkL .sl tsl] cs ∧
   GrR h' nsl N∧SR h' ssl S∧NtR h' tsl T∧∀ h2,Fr (fun _=>False) h' h2→ssl.len≠0→elemOk h2 ssl T_api_Span=true:=by
 obtain⟨c0,c1,c2,c3,c4,c5,rfl⟩:=len6 (by rw [slen Tryz.underlying28 hx];exact co28)
 obtain⟨_,_,q0⟩:=fld Tryz.underlying28 hx 0 rfl rfl rfl co3
 obtain⟨_,_,q1⟩:=fld Tryz.underlying28 hx 1 rfl rfl rfl co9
 obtain⟨_,_,q2⟩:=fld Tryz.underlying28 hx 2 rfl rfl rfl co24
 obtain⟨_,_,q3⟩:=fld Tryz.underlying28 hx 3 rfl rfl rfl co25
 obtain⟨_,_,q4⟩:=fld Tryz.underlying28 hx 4 rfl rfl rfl co26
 obtain⟨z0,e0⟩:=tr_int Tryz.underlying3 q0
 obtain⟨z1,e1⟩:=tr_str Tryz.underlying9 q1
 cases e0;cases e1
 obtain⟨v2,z3,ι1,h1,nsl,N,e2,B1,le1,f1,r1,G⟩:=beg_graph B q2
 obtain⟨v4,ι2,h2,ssl,S,e4,B2,le2,f2,r2,R,he⟩:=beg_spans B1 q3
 obtain⟨v5,ι3,h3,tsl,T,e5,B3,le3,f3,r3,RT⟩:=beg_notes B2 q4
 cases e2;cases e4;cases e5
 have f23:Fr (fun _=>False) h1 h3:=f2.trans B1.wf f3 (fun _ hy _=>hy.elim)
 exact⟨ι3,h3,z0,z1,nsl,z3,ssl,tsl,N,S,T,B3,le1.trans (le2.trans le3),f1.trans B.wf f23 (fun _ hy _=>hy.elim),
  .cons (.flat _ rfl) (.cons (.flat _ rfl) (.cons (r1.mono (le2.trans le3)) (.cons (.flat _ rfl) (.cons (r2.mono le3) (.cons r3 .nil))))),
  G.fr f23,R.fr f3,RT,fun h4 f4=>he h4 (f3.trans B2.wf f4 (fun _ hy _=>hy.elim))⟩
end Go.Proofs.YtmjkmdhbcmckgaaGreatDoor
