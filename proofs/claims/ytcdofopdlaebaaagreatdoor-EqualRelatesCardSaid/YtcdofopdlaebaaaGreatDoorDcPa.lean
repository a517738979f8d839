
import Derived.Test.YtcdofopdlaebaaaGreatDoorCd
import Derived.Test.YtcdofopdlaebaaaGreatDoorAgoN
import Derived.Test.YtcdofopdlaebaaaGreatDoorPai
set_option linter.all false
namespace Go.Proofs.YtcdofopdlaebaaaGreatDoor
open Go Go.Ago Go.Sh Go.ChangeShapes
variable {W:World}{ι:fM}{h h':af}{H:Type}{enc:TypeId×Value->H}
abbrev TR (enc:TypeId×Value->H)(W:World)(n:Nat)(t:TypeId)(cs:List Value)(y:DataW H×List MemPlace):Prop:=DataW.trod enc Tryz.prog W 0 (λ_=>true) true n t cs=some y
theorem co3:Tryz.prog.cellsOf 3=1:=by kernel_rfl
theorem co4:Tryz.prog.cellsOf 4=1:=by kernel_rfl
theorem co9:Tryz.prog.cellsOf 9=1:=by kernel_rfl
theorem ahB:Tryz.prog.cellsOf 22=1:=by kernel_rfl
theorem afg:Tryz.prog.cellsOf 24=2:=by kernel_rfl
theorem afh:Tryz.prog.cellsOf 36=1:=by kernel_rfl
theorem afi:Tryz.prog.cellsOf 38=5:=by kernel_rfl
theorem fld {t t':TypeId}{fs:Array Field}{fuel k o:Nat}{cs:List Value}{x:DataW H×List MemPlace}(ht:Tryz.prog.underlying t=some (.struct fs))(hx:TR enc W fuel t cs x)(i:Nat){f:Field}(hf:fs[i]?=some f)(h1:f.type=t')(h2:f.offset=o)(h3:Tryz.prog.cellsOf t'=k) :
  ∃n y,TR enc W n t' ((cs.drop o).take k) y:=by
 obtain⟨xs,n,_,_,_,hl,hfs⟩:=DataW.trod_struct ht hx;have h4:=hfs i f hf;have hlt:i<fs.size:=(Array.getElem?_eq_some_iff.1 hf).1;rw[aaJ (by omega),h1,h2,h3] at h4;exact⟨n,_,h4⟩
theorem aeT {t:TypeId}{fs:Array Field}{fuel:Nat}{cs:List Value}{x:DataW H×List MemPlace}(ht:Tryz.prog.underlying t=some (.struct fs))(hx:TR enc W fuel t cs x):cs.length=Tryz.prog.cellsOf t:=by
 obtain⟨xs,n,_,_,hl,_⟩:=DataW.trod_struct ht hx;exact hl
theorem OH {n:Nat}{t:TypeId}{cs:List Value}{x:DataW H×List MemPlace}(ht:Tryz.prog.underlying t=some (.int .i64))(hx:TR enc W n t cs x):∃z,cs=[vi z]:=let ⟨z,h,_⟩:=DataW.trod_int ht hx;⟨z,h⟩
theorem adu {n:Nat}{t:TypeId}{cs:List Value}{x:DataW H×List MemPlace}(ht:Tryz.prog.underlying t=some .string)(hx:TR enc W n t cs x):∃z:ByteArray,cs=[.string z]:=let ⟨z,h,_⟩:=DataW.trod_string ht hx;⟨z,h⟩
theorem Zv {n:Nat}{t:TypeId}{cs:List Value}{x:DataW H×List MemPlace}(ht:Tryz.prog.underlying t=some .bool)(hx:TR enc W n t cs x):∃z,cs=[.bool z]:=let ⟨z,h,_⟩:=DataW.trod_bool ht hx;⟨z,h⟩
theorem Mf (B:Bj Tryz.prog W ι h){n:Nat}{cs:List Value}{x:DataW H×List MemPlace}(hx:TR enc W n 36 cs x) :
  ∃v ι' h' s zs,cs=[v]/\Bj Tryz.prog W ι' h'/\ι.le ι'/\Fr (λ_=>False) h h'/\aS Tryz.prog ι' (FP .sl s) v/\IL h' s zs:=by
 rcases ES Tryz.underlying36 (by rw[co3];decide) hx with rfl|⟨a,len,cap,els,rfl,hl,_,hel,heach,hcell,h0⟩
 .exact⟨_,ι,h,mX,[],rfl,B,fM.le.refl _,Fr.refl B.wf,.flat _ rfl,⟨0,qy.nil rfl⟩⟩
 .have hz:∀(els:List (List Value)),(∀l∈els,l.length=Tryz.prog.cellsOf 3/\∃m y,DataW.trod enc Tryz.prog W 0 (λ_=>true) true m 3 l=some y)->∃zs:List Int,els.flatten=zs.map vi/\zs.length=els.length:=by
   intro els
   induction els with
   |nil=>intro _;exact⟨[],rfl,rfl⟩
   |cons l els ih=>
    intro hh;obtain⟨_,m,y,hm⟩:=hh l By;obtain⟨z,rfl⟩:=OH Tryz.underlying3 hm;obtain⟨zs,e1,e2⟩:=ih λl hl=>hh l (AT _ hl);exact⟨z::zs,by rw[agt,e1];rfl,by simp[e2]⟩
  obtain⟨zs,e1,e2⟩:=hz els heach;obtain⟨ι',h',s,B',le,f,hv,⟨g,hr⟩,hs,_⟩:=B.slice (sz:=1) (cs':=els.flatten) (c:=zs.map vi) hl (by decide) (by rw[e1,adq];omega) hcell h0 (by rw[e1];exact bA.flat (by simp[cX])) (by simp[eQ]);exact⟨_,ι',h',s,zs,rfl,B',le,f,hv,⟨g,hr⟩⟩
theorem ahC {l:List Value}(hl:l.length=5):∃a b c d e,l=[a,b,c,d,e]:=by
 match l,hl with
 |[a,b,c,d,e],_=>exact⟨a,b,c,d,e,rfl⟩
abbrev El (enc:TypeId×Value->H)(W:World)(e:TypeId)(l:List Value):Prop:=l.length=Tryz.prog.cellsOf e/\∃m y,DataW.trod enc Tryz.prog W 0 (λ_=>true) true m e l=some y
theorem W7 (ι:fM)(h:af)(l:List Value)(B:Bj Tryz.prog W ι h)(hl:El enc W 38 l) :
  ∃(ι':fM) (h':af) (x:bC),Bj Tryz.prog W ι' h'/\ι.le ι'/\Fr (λ_=>False) h h'/\(IL h' x.ks x.kl/\IL h' x.is x.il)/\bA Tryz.prog ι' x.enc l/\x.enc.all eQ=true:=by
 obtain⟨h1,m,y,hm⟩:=hl;obtain⟨a,b,c,d,e,rfl⟩:=ahC (by rw[h1];exact afi);obtain⟨_,_,q0⟩:=fld Tryz.underlying38 hm 0 rfl rfl rfl co3;obtain⟨_,_,q1⟩:=fld Tryz.underlying38 hm 1 rfl rfl rfl co9;obtain⟨_,_,q2⟩:=fld Tryz.underlying38 hm 2 rfl rfl rfl co4;obtain⟨_,_,q3⟩:=fld Tryz.underlying38 hm 3 rfl rfl rfl afh;obtain⟨_,_,q4⟩:=fld Tryz.underlying38 hm 4 rfl rfl rfl afh;obtain⟨z,e0⟩:=OH Tryz.underlying3 q0;obtain⟨t,e1⟩:=adu Tryz.underlying9 q1;obtain⟨o,e2⟩:=Zv Tryz.underlying4 q2;cases e0;cases e1;cases e2;obtain⟨v3,ι1,h1',ks,kl,e3,B1,le1,f1,r3,i3⟩:=Mf B q3;obtain⟨v4,ι2,h2',is,il,e4,B2,le2,f2,r4,i4⟩:=Mf B1 q4;cases e3;cases e4;exact⟨ι2,h2',⟨z,t,o,ks,kl,0,is,il,0⟩,B2,le1.trans le2,f1.trans B.wf f2 (λ_ hy _=>hy.elim),⟨i3.fr f2,i4⟩,
  .cons (.flat _ rfl) (.cons (.flat _ rfl) (.cons (.flat _ rfl) (.cons (r3.mono le2) (.cons r4 .nil)))),rfl⟩
theorem SS (B:Bj Tryz.prog W ι h){n:Nat}{cs:List Value}{x:DataW H×List MemPlace}(hx:TR enc W n 22 cs x) :
  ∃v ι' h' s N,cs=[v]/\Bj Tryz.prog W ι' h'/\ι.le ι'/\Fr (λ_=>False) h h'/\aS Tryz.prog ι' (FP .sl s) v/\jI h' s N:=by
 rcases ES Tryz.underlying22 (by rw[afi];decide) hx with rfl|⟨a,len,cap,els,rfl,hl,_,hel,heach,hcell,h0⟩
 .exact⟨_,ι,h,mX,[],rfl,B,fM.le.refl _,Fr.refl B.wf,.flat _ rfl,[],0,rfl,qy.nil rfl,by simp⟩
 .obtain⟨ι1,h1,xs,B1,le1,f1,k1,r1,s1,n1⟩:=Bj.list (P:=Tryz.prog) (W:=W) (K:=λh (x:bC)=>IL h x.ks x.kl/\IL h x.is x.il) (R:=El enc W 38) bC.enc (λ_ _ _ k f=>⟨k.1.fr f,k.2.fr f⟩) W7 els ι h B heach;have hfl:els.flatten.length=len*5:=by
   rw[<-r1.1,jW bC.oL,n1,hel]
  obtain⟨ι',h',s,B',le,f,hv,⟨g,hr⟩,hs,_⟩:=B1.slice (sz:=5) (cs':=els.flatten) (c:=xs.flatMap bC.enc) hl (by decide) hfl hcell h0 r1 s1;exact⟨_,ι',h',s,xs.map bC.v,rfl,B',le1.trans le,f1.trans B.wf f (λ_ hy _=>hy.elim),hv,xs,g,rfl,hr,λx hx=>⟨(k1 x hx).1.fr f,(k1 x hx).2.fr f⟩⟩
theorem Cf (B:Bj Tryz.prog W ι h){n:Nat}{cs:List Value}{x:DataW H×List MemPlace}(hx:TR enc W n 24 cs x) :
  ∃v z ι' h' s N,cs=[v,vi z]/\Bj Tryz.prog W ι' h'/\ι.le ι'/\Fr (λ_=>False) h h'/\aS Tryz.prog ι' (FP .sl s) v/\jI h' s N:=by
 have hl:=aeT Tryz.underlying24 hx;rw[afg] at hl
 match cs,hl with
 |[c0,c1],_=>
  obtain⟨_,_,q0⟩:=fld Tryz.underlying24 hx 0 rfl rfl rfl ahB;obtain⟨_,_,q1⟩:=fld Tryz.underlying24 hx 1 rfl rfl rfl co3;obtain⟨z,e1⟩:=OH Tryz.underlying3 q1;obtain⟨v,ι1,h1,s,N,e0,B1,le1,f1,r1,G⟩:=SS B q0;cases e0;cases e1;exact⟨_,z,ι1,h1,s,N,rfl,B1,le1,f1,r1,G⟩
theorem ahD:Tryz.prog.cellsOf 25=6:=by kernel_rfl
theorem OI (B:Bj Tryz.prog W ι h){n:Nat}{cs:List Value}{x:DataW H×List MemPlace}(hx:TR enc W n 25 cs x) :
  ∃ι' h' s1 r1 s2 r2 s3 r3 N1 N2 N3,Bj Tryz.prog W ι' h'/\bA Tryz.prog ι' [FP .sl s1,vi r1,FP .sl s2,vi r2,FP .sl s3,vi r3] cs/\jI h' s1 N1/\jI h' s2 N2/\jI h' s3 N3:=by
 obtain⟨xs,m,_,_,hl,hn,hfs⟩:=DataW.trod_array Tryz.underlying25 hx;rw[ahD] at hl;rw[afg] at hfs;have el:∀i,i<3->∃y,TR enc W m 24 ((cs.drop (i*2)).take 2) y:=λi hi=>by
  have:=hfs i hi;rw[aaJ (by omega)] at this;exact⟨_,this⟩
 match cs,hl with
 |[c0,c1,c2,c3,c4,c5],_=>
  obtain⟨_,q0⟩:=el 0 (by omega);obtain⟨_,q1⟩:=el 1 (by omega);obtain⟨_,q2⟩:=el 2 (by omega);obtain⟨v1,z1,ι1,h1,s1,N1,e1,B1,le1,f1,r1,G1⟩:=Cf B q0;obtain⟨v2,z2,ι2,h2,s2,N2,e2,B2,le2,f2,r2,G2⟩:=Cf B1 q1;obtain⟨v3,z3,ι3,h3,s3,N3,e3,B3,le3,f3,r3,G3⟩:=Cf B2 q2;cases e1;cases e2;cases e3;exact⟨ι3,h3,s1,z1,s2,z2,s3,z3,N1,N2,N3,B3,.cons (r1.mono (le2.trans le3)) (.cons (.flat _ rfl) (.cons (r2.mono le3) (.cons (.flat _ rfl) (.cons r3 (.cons (.flat _ rfl) .nil))))),(G1.fr f2).fr f3,G2.fr f3,G3⟩
end Go.Proofs.YtcdofopdlaebaaaGreatDoor
