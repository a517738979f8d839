
import Derived.Test.YtengdffgmpghgaaGreatDoorCd
import Derived.Test.YtengdffgmpghgaaGreatDoorAgoN
import Derived.Test.YtengdffgmpghgaaGreatDoorUlPa
set_option linter.all false
namespace Go.Proofs.YtengdffgmpghgaaGreatDoor
open Go Go.Ago Go.Sh Go.ChangeShapes
variable {W:World}{ι:eg}{h h':ab}{H:Type}{enc:κ×ξ->H}
abbrev TR (enc:κ×ξ->H)(W:World)(n:Nat)(t:κ)(cs:δ)(y:DataW H×List MemPlace):Prop:=DataW.trod enc Tryz.prog W 0 (λ_=>true) true n t cs=some y
theorem VY:Tryz.prog.cellsOf 3=1:=by kernel_rfl
theorem co4:Tryz.prog.cellsOf 4=1:=by kernel_rfl
theorem co9:Tryz.prog.cellsOf 9=1:=by kernel_rfl
theorem alT:Tryz.prog.cellsOf 22=1:=by kernel_rfl
theorem ajl:Tryz.prog.cellsOf 24=2:=by kernel_rfl
theorem alU:Tryz.prog.cellsOf 25=1:=by kernel_rfl
theorem alV:Tryz.prog.cellsOf 26=1:=by kernel_rfl
theorem alW:Tryz.prog.cellsOf 28=6:=by kernel_rfl
theorem ajm:Tryz.prog.cellsOf 43=9:=by kernel_rfl
theorem ajn:Tryz.prog.cellsOf 39=1:=by kernel_rfl
theorem ajo:Tryz.prog.cellsOf 57=5:=by kernel_rfl
theorem ajp:Tryz.prog.cellsOf 67=3:=by kernel_rfl
theorem F7 {t t':κ}{fs:Array Field}{fuel k o:Nat}{cs:δ}{x:DataW H×List MemPlace}(ht:Tryz.prog.underlying t=some (.struct fs))(hx:TR enc W fuel t cs x)(i:Nat){f:Field}(hf:fs[i]?=some f)(h1:f.type=t')(h2:f.offset=o)(h3:Tryz.prog.cellsOf t'=k) :
  ∃n y,TR enc W n t' ((cs.drop o).take k) y:=by
 obtain⟨xs,n,_,_,_,hl,hfs⟩:=DataW.trod_struct ht hx;have h4:=hfs i f hf;have hlt:i<fs.size:=(Array.getElem?_eq_some_iff.1 hf).1;rw[aah (by omega),h1,h2,h3] at h4;exact⟨n,_,h4⟩
theorem ajq {t:κ}{fs:Array Field}{fuel:Nat}{cs:δ}{x:DataW H×List MemPlace}(ht:Tryz.prog.underlying t=some (.struct fs))(hx:TR enc W fuel t cs x):cs.length=Tryz.prog.cellsOf t:=by
 obtain⟨xs,n,_,_,hl,_⟩:=DataW.trod_struct ht hx;exact hl
theorem sJ {n:Nat}{t:κ}{cs:δ}{x:DataW H×List MemPlace}(ht:Tryz.prog.underlying t=some (.int .i64))(hx:TR enc W n t cs x):∃z,cs=[vi z]:=let ⟨z,h,_⟩:=DataW.trod_int ht hx;⟨z,h⟩
theorem Ri {n:Nat}{t:κ}{cs:δ}{x:DataW H×List MemPlace}(ht:Tryz.prog.underlying t=some .string)(hx:TR enc W n t cs x):∃z:ζ,cs=[.string z]:=let ⟨z,h,_⟩:=DataW.trod_string ht hx;⟨z,h⟩
theorem Mq {n:Nat}{t:κ}{cs:δ}{x:DataW H×List MemPlace}(ht:Tryz.prog.underlying t=some .bool)(hx:TR enc W n t cs x):∃z,cs=[.bool z]:=let ⟨z,h,_⟩:=DataW.trod_bool ht hx;⟨z,h⟩
theorem OS (B:yr Tryz.prog W ι h){n:Nat}{cs:δ}{x:DataW H×List MemPlace}(hx:TR enc W n 39 cs x) :
  ∃v ι' h' s zs,cs=[v]/\yr Tryz.prog W ι' h'/\ι.le ι'/\Fr (λ_=>False) h h'/\aN Tryz.prog ι' (F8 .sl s) v/\IL h' s zs:=by
 rcases xF Tryz.underlying39 (by rw[VY];decide) hx with rfl|⟨a,len,cap,els,rfl,hl,_,hel,heach,hcell,h0⟩
 .exact⟨_,ι,h,uV,[],rfl,B,eg.le.refl _,Fr.refl B.wf,.flat _ rfl,⟨0,rO.nil rfl⟩⟩
 .have hz:∀(els:List δ),(∀l∈els,l.length=Tryz.prog.cellsOf 3/\∃m y,DataW.trod enc Tryz.prog W 0 (λ_=>true) true m 3 l=some y)->∃zs:ε,els.flatten=zs.map vi/\zs.length=els.length:=by
   intro els
   induction els with
   |nil=>intro _;exact⟨[],rfl,rfl⟩
   |cons l els ih=>
    intro hh;obtain⟨_,m,y,hm⟩:=hh l IT;obtain⟨z,rfl⟩:=sJ Tryz.underlying3 hm;obtain⟨zs,e1,e2⟩:=ih λl hl=>hh l (IN _ hl);exact⟨z::zs,by rw[akC,e1];rfl,by simp[e2]⟩
  obtain⟨zs,e1,e2⟩:=hz els heach;obtain⟨ι',h',s,B',le,f,hv,⟨g,hr⟩,hs,_⟩:=B.slice (sz:=1) (cs':=els.flatten) (c:=zs.map vi) hl (by decide) (by rw[e1,ae1];omega) hcell h0 (by rw[e1];exact bg.flat (by simp[dz])) (by simp[eB]);exact⟨_,ι',h',s,zs,rfl,B',le,f,hv,⟨g,hr⟩⟩
theorem alX {l:δ}(hl:l.length=5):∃a b c d e,l=[a,b,c,d,e]:=by
 match l,hl with
 |[a,b,c,d,e],_=>exact⟨a,b,c,d,e,rfl⟩
theorem alY {l:δ}(hl:l.length=6):∃a b c d e f,l=[a,b,c,d,e,f]:=by
 match l,hl with
 |[a,b,c,d,e,f],_=>exact⟨a,b,c,d,e,f,rfl⟩
theorem alZ {l:δ}(hl:l.length=9):∃a b c d e f g i j,l=[a,b,c,d,e,f,g,i,j]:=by
 match l,hl with
 |[a,b,c,d,e,f,g,i,j],_=>exact⟨a,b,c,d,e,f,g,i,j,rfl⟩
theorem al0 {l:δ}(hl:l.length=3):∃a b c,l=[a,b,c]:=by
 match l,hl with
 |[a,b,c],_=>exact⟨a,b,c,rfl⟩
abbrev El (enc:κ×ξ->H)(W:World)(e:κ)(l:δ):Prop:=l.length=Tryz.prog.cellsOf e/\∃m y,DataW.trod enc Tryz.prog W 0 (λ_=>true) true m e l=some y
theorem Z6 (ι:eg)(h:ab)(l:δ)(B:yr Tryz.prog W ι h)(hl:El enc W 57 l) :
  ∃(ι':eg) (h':ab) (x:gP),yr Tryz.prog W ι' h'/\ι.le ι'/\Fr (λ_=>False) h h'/\(IL h' x.ks x.kl/\IL h' x.is x.il)/\bg Tryz.prog ι' x.enc l/\x.enc.all eB=true:=by
 obtain⟨h1,m,y,hm⟩:=hl;obtain⟨a,b,c,d,e,rfl⟩:=alX (by rw[h1];exact ajo);obtain⟨_,_,q0⟩:=F7 Tryz.underlying57 hm 0 rfl rfl rfl VY;obtain⟨_,_,q1⟩:=F7 Tryz.underlying57 hm 1 rfl rfl rfl co9;obtain⟨_,_,q2⟩:=F7 Tryz.underlying57 hm 2 rfl rfl rfl co4;obtain⟨_,_,q3⟩:=F7 Tryz.underlying57 hm 3 rfl rfl rfl ajn;obtain⟨_,_,q4⟩:=F7 Tryz.underlying57 hm 4 rfl rfl rfl ajn;obtain⟨z,e0⟩:=sJ Tryz.underlying3 q0;obtain⟨t,e1⟩:=Ri Tryz.underlying9 q1;obtain⟨o,e2⟩:=Mq Tryz.underlying4 q2;cases e0;cases e1;cases e2;obtain⟨v3,ι1,h1',ks,kl,e3,B1,le1,f1,r3,i3⟩:=OS B q3;obtain⟨v4,ι2,h2',is,il,e4,B2,le2,f2,r4,i4⟩:=OS B1 q4;cases e3;cases e4;exact⟨ι2,h2',⟨z,t,o,ks,kl,0,is,il,0⟩,B2,le1.trans le2,f1.trans B.wf f2 (λ_ hy _=>hy.elim),⟨i3.fr f2,i4⟩,
  .cons (.flat _ rfl) (.cons (.flat _ rfl) (.cons (.flat _ rfl) (.cons (r3.mono le2) (.cons r4 .nil)))),rfl⟩
theorem VZ (B:yr Tryz.prog W ι h){n:Nat}{cs:δ}{x:DataW H×List MemPlace}(hx:TR enc W n 22 cs x) :
  ∃v ι' h' s N,cs=[v]/\yr Tryz.prog W ι' h'/\ι.le ι'/\Fr (λ_=>False) h h'/\aN Tryz.prog ι' (F8 .sl s) v/\oj h' s N:=by
 rcases xF Tryz.underlying22 (by rw[ajo];decide) hx with rfl|⟨a,len,cap,els,rfl,hl,_,hel,heach,hcell,h0⟩
 .exact⟨_,ι,h,uV,[],rfl,B,eg.le.refl _,Fr.refl B.wf,.flat _ rfl,[],0,rfl,rO.nil rfl,by simp⟩
 .obtain⟨ι1,h1,xs,B1,le1,f1,k1,r1,s1,n1⟩:=yr.list (P:=Tryz.prog) (W:=W) (K:=λh (x:gP)=>IL h x.ks x.kl/\IL h x.is x.il) (R:=El enc W 57) gP.enc (λ_ _ _ k f=>⟨k.1.fr f,k.2.fr f⟩) Z6 els ι h B heach;have hfl:els.flatten.length=len*5:=by
   rw[<-r1.1,ic gP.kB,n1,hel]
  obtain⟨ι',h',s,B',le,f,hv,⟨g,hr⟩,hs,_⟩:=B1.slice (sz:=5) (cs':=els.flatten) (c:=xs.flatMap gP.enc) hl (by decide) hfl hcell h0 r1 s1;exact⟨_,ι',h',s,xs.map gP.v,rfl,B',le1.trans le,f1.trans B.wf f (λ_ hy _=>hy.elim),hv,xs,g,rfl,hr,λx hx=>⟨(k1 x hx).1.fr f,(k1 x hx).2.fr f⟩⟩
theorem Z7 (ι:eg)(h:ab)(l:δ)(B:yr Tryz.prog W ι h)(hl:El enc W 43 l) :
  ∃(ι':eg) (h':ab) (x:aK),yr Tryz.prog W ι' h'/\ι.le ι'/\Fr (λ_=>False) h h'/\True/\bg Tryz.prog ι' x.enc l/\x.enc.all eB=true:=by
 obtain⟨h1,m,y,hm⟩:=hl;obtain⟨a,b,c,d,e,f,g,i,j,rfl⟩:=alZ (by rw[h1];exact ajm);obtain⟨_,_,q0⟩:=F7 Tryz.underlying43 hm 0 rfl rfl rfl VY;obtain⟨_,_,q1⟩:=F7 Tryz.underlying43 hm 1 rfl rfl rfl VY;obtain⟨_,_,q2⟩:=F7 Tryz.underlying43 hm 2 rfl rfl rfl VY;obtain⟨_,_,q3⟩:=F7 Tryz.underlying43 hm 3 rfl rfl rfl VY;obtain⟨_,_,q4⟩:=F7 Tryz.underlying43 hm 4 rfl rfl rfl VY;obtain⟨_,_,q5⟩:=F7 Tryz.underlying43 hm 5 rfl rfl rfl VY;obtain⟨_,_,q6⟩:=F7 Tryz.underlying43 hm 6 rfl rfl rfl VY;obtain⟨_,_,q7⟩:=F7 Tryz.underlying43 hm 7 rfl rfl rfl co4;obtain⟨_,_,q8⟩:=F7 Tryz.underlying43 hm 8 rfl rfl rfl co4;obtain⟨z0,e0⟩:=sJ Tryz.underlying3 q0;obtain⟨z1,e1⟩:=sJ Tryz.underlying3 q1;obtain⟨z2,e2⟩:=sJ Tryz.underlying3 q2;obtain⟨z3,e3⟩:=sJ Tryz.underlying3 q3;obtain⟨z4,e4⟩:=sJ Tryz.underlying3 q4;obtain⟨z5,e5⟩:=sJ Tryz.underlying3 q5;obtain⟨z6,e6⟩:=sJ Tryz.underlying3 q6;obtain⟨z7,e7⟩:=Mq Tryz.underlying4 q7;obtain⟨z8,e8⟩:=Mq Tryz.underlying4 q8;cases e0;cases e1;cases e2;cases e3;cases e4;cases e5;cases e6;cases e7;cases e8;exact⟨ι,h,⟨z0,z1,z2,z3,z4,z5,z6,z7,z8⟩,B,eg.le.refl _,Fr.refl B.wf,trivial,bg.flat rfl,rfl⟩
theorem V0 (B:yr Tryz.prog W ι h){n:Nat}{cs:δ}{x:DataW H×List MemPlace}(hx:TR enc W n 25 cs x) :
  ∃v ι' h' s S,cs=[v]/\yr Tryz.prog W ι' h'/\ι.le ι'/\Fr (λ_=>False) h h'/\aN Tryz.prog ι' (F8 .sl s) v/\SR h' s S/\∀h2,Fr (λ_=>False) h' h2->s.len≠0->jd h2 s bJ=true:=by
 rcases xF Tryz.underlying25 (by rw[ajm];decide) hx with rfl|⟨a,len,cap,els,rfl,hl,_,hel,heach,hcell,h0⟩
 .exact⟨_,ι,h,uV,[],rfl,B,eg.le.refl _,Fr.refl B.wf,.flat _ rfl,⟨0,rO.nil rfl⟩,λ_ _ hn=>absurd rfl hn⟩
 .obtain⟨ι1,h1,xs,B1,le1,f1,_,r1,s1,n1⟩:=yr.list (P:=Tryz.prog) (W:=W) (K:=λ_ (_:aK)=>True) (R:=El enc W 43) aK.enc (λ_ _ _ k _=>k) Z7 els ι h B heach;have hfl:els.flatten.length=len*9:=by
   rw[<-r1.1,ic aK.kB,n1,hel]
  obtain⟨ι',h',s,B',le,f,hv,⟨g,hr⟩,hs,he⟩:=B1.slice (sz:=9) (cs':=els.flatten) (c:=xs.flatMap aK.enc) hl (by decide) hfl hcell h0 r1 s1;exact⟨_,ι',h',s,xs,rfl,B',le1.trans le,f1.trans B.wf f (λ_ hy _=>hy.elim),hv,⟨g,hr⟩,λh2 f2 hn=>he hn h2 _ f2⟩
theorem Z8 (ι:eg)(h:ab)(l:δ)(B:yr Tryz.prog W ι h)(hl:El enc W 67 l) :
  ∃(ι':eg) (h':ab) (x:jS),yr Tryz.prog W ι' h'/\ι.le ι'/\Fr (λ_=>False) h h'/\True/\bg Tryz.prog ι' x.enc l/\x.enc.all eB=true:=by
 obtain⟨h1,m,y,hm⟩:=hl;obtain⟨a,b,c,rfl⟩:=al0 (by rw[h1];exact ajp);obtain⟨_,_,q0⟩:=F7 Tryz.underlying67 hm 0 rfl rfl rfl VY;obtain⟨_,_,q1⟩:=F7 Tryz.underlying67 hm 1 rfl rfl rfl VY;obtain⟨_,_,q2⟩:=F7 Tryz.underlying67 hm 2 rfl rfl rfl co9;obtain⟨z0,e0⟩:=sJ Tryz.underlying3 q0;obtain⟨z1,e1⟩:=sJ Tryz.underlying3 q1;obtain⟨z2,e2⟩:=Ri Tryz.underlying9 q2;cases e0;cases e1;cases e2;exact⟨ι,h,⟨z0,z1,z2⟩,B,eg.le.refl _,Fr.refl B.wf,trivial,bg.flat rfl,rfl⟩
theorem V1 (B:yr Tryz.prog W ι h){n:Nat}{cs:δ}{x:DataW H×List MemPlace}(hx:TR enc W n 26 cs x) :
  ∃v ι' h' s T,cs=[v]/\yr Tryz.prog W ι' h'/\ι.le ι'/\Fr (λ_=>False) h h'/\aN Tryz.prog ι' (F8 .sl s) v/\Vs h' s T:=by
 rcases xF Tryz.underlying26 (by rw[ajp];decide) hx with rfl|⟨a,len,cap,els,rfl,hl,_,hel,heach,hcell,h0⟩
 .exact⟨_,ι,h,uV,[],rfl,B,eg.le.refl _,Fr.refl B.wf,.flat _ rfl,⟨0,rO.nil rfl⟩⟩
 .obtain⟨ι1,h1,xs,B1,le1,f1,_,r1,s1,n1⟩:=yr.list (P:=Tryz.prog) (W:=W) (K:=λ_ (_:jS)=>True) (R:=El enc W 67) jS.enc (λ_ _ _ k _=>k) Z8 els ι h B heach;have hfl:els.flatten.length=len*3:=by
   rw[<-r1.1,ic jS.kB,n1,hel]
  obtain⟨ι',h',s,B',le,f,hv,⟨g,hr⟩,hs,he⟩:=B1.slice (sz:=3) (cs':=els.flatten) (c:=xs.flatMap jS.enc) hl (by decide) hfl hcell h0 r1 s1;exact⟨_,ι',h',s,xs,rfl,B',le1.trans le,f1.trans B.wf f (λ_ hy _=>hy.elim),hv,⟨g,hr⟩⟩
theorem V2 (B:yr Tryz.prog W ι h){n:Nat}{cs:δ}{x:DataW H×List MemPlace}(hx:TR enc W n 24 cs x) :
  ∃v z ι' h' s N,cs=[v,vi z]/\yr Tryz.prog W ι' h'/\ι.le ι'/\Fr (λ_=>False) h h'/\aN Tryz.prog ι' (F8 .sl s) v/\oj h' s N:=by
 have hl:=ajq Tryz.underlying24 hx;rw[ajl] at hl
 match cs,hl with
 |[c0,c1],_=>
  obtain⟨_,_,q0⟩:=F7 Tryz.underlying24 hx 0 rfl rfl rfl alT;obtain⟨_,_,q1⟩:=F7 Tryz.underlying24 hx 1 rfl rfl rfl VY;obtain⟨z,e1⟩:=sJ Tryz.underlying3 q1;obtain⟨v,ι1,h1,s,N,e0,B1,le1,f1,r1,G⟩:=VZ B q0;cases e0;cases e1;exact⟨_,z,ι1,h1,s,N,rfl,B1,le1,f1,r1,G⟩
theorem ade (B:yr Tryz.prog W ι h){n:Nat}{cs:δ}{x:DataW H×List MemPlace}(hx:TR enc W n 28 cs x) :
  ∃ι' h' d1 src dh root cz tsl N S T,yr Tryz.prog W ι' h'/\ι.le ι'/\Fr (λ_=>False) h h'/\bg Tryz.prog ι' [vi d1,.string src,F8 .sl dh,vi root,F8 .sl cz,F8 .sl tsl] cs /\
   oj h' dh N/\SR h' cz S/\Vs h' tsl T/\∀h2,Fr (λ_=>False) h' h2->cz.len≠0->jd h2 cz bJ=true:=by
 obtain⟨c0,c1,c2,c3,c4,c5,rfl⟩:=alY (by rw[ajq Tryz.underlying28 hx];exact alW);obtain⟨_,_,q0⟩:=F7 Tryz.underlying28 hx 0 rfl rfl rfl VY;obtain⟨_,_,q1⟩:=F7 Tryz.underlying28 hx 1 rfl rfl rfl co9;obtain⟨_,_,q2⟩:=F7 Tryz.underlying28 hx 2 rfl rfl rfl ajl;obtain⟨_,_,q3⟩:=F7 Tryz.underlying28 hx 3 rfl rfl rfl alU;obtain⟨_,_,q4⟩:=F7 Tryz.underlying28 hx 4 rfl rfl rfl alV;obtain⟨z0,e0⟩:=sJ Tryz.underlying3 q0;obtain⟨z1,e1⟩:=Ri Tryz.underlying9 q1;cases e0;cases e1;obtain⟨v2,z3,ι1,h1,dh,N,e2,B1,le1,f1,r1,G⟩:=V2 B q2;obtain⟨v4,ι2,h2,cz,S,e4,B2,le2,f2,r2,R,he⟩:=V0 B1 q3;obtain⟨v5,ι3,h3,tsl,T,e5,B3,le3,f3,r3,RT⟩:=V1 B2 q4;cases e2;cases e4;cases e5;have f23:Fr (λ_=>False) h1 h3:=f2.trans B1.wf f3 (λ_ hy _=>hy.elim);exact⟨ι3,h3,z0,z1,dh,z3,cz,tsl,N,S,T,B3,le1.trans (le2.trans le3),f1.trans B.wf f23 (λ_ hy _=>hy.elim),
  .cons (.flat _ rfl) (.cons (.flat _ rfl) (.cons (r1.mono (le2.trans le3)) (.cons (.flat _ rfl) (.cons (r2.mono le3) (.cons r3 .nil))))),
  G.fr f23,R.fr f3,RT,λh4 f4=>he h4 (f3.trans B2.wf f4 (λ_ hy _=>hy.elim))⟩
end Go.Proofs.YtengdffgmpghgaaGreatDoor
