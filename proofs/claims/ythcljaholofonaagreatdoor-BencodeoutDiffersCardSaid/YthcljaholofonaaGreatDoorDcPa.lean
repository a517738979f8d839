
import Derived.Test.YthcljaholofonaaGreatDoorCd
import Derived.Test.YthcljaholofonaaGreatDoorAgoN
import Derived.Test.YthcljaholofonaaGreatDoorYaPa
set_option linter.all false
namespace Go.Proofs.YthcljaholofonaaGreatDoor
open Go Go.Ago Go.Sh Go.ChangeShapes
variable {W:World}{ι:iE}{h h':aj}{H:Type}{enc:κ×ξ->H}
abbrev TR (enc:κ×ξ->H)(W:World)(n:Nat)(t:κ)(cs:δ)(y:DataW H×List MemPlace):Prop:=DataW.trod enc Tryz.prog W 0 (λ_=>true) true n t cs=some y
theorem co3:Tryz.prog.cellsOf 3=1:=by kernel_rfl
theorem co4:Tryz.prog.cellsOf 4=1:=by kernel_rfl
theorem co9:Tryz.prog.cellsOf 9=1:=by kernel_rfl
theorem aqy:Tryz.prog.cellsOf 22=1:=by kernel_rfl
theorem aqz:Tryz.prog.cellsOf 24=2:=by kernel_rfl
theorem apg:Tryz.prog.cellsOf 31=1:=by kernel_rfl
theorem aph:Tryz.prog.cellsOf 33=5:=by kernel_rfl
def fld {t t':κ}{fs:Array Field}{fuel k o:Nat}{cs:δ}{x:DataW H×List MemPlace}(ht:Tryz.prog.underlying t=some (.struct fs))(hx:TR enc W fuel t cs x)(i:Nat){f:Field}(hf:fs[i]?=some f)(h1:f.type=t')(h2:f.offset=o)(h3:Tryz.prog.cellsOf t'=k) :
  ∃n y,TR enc W n t' ((cs.drop o).take k) y:=by
 obtain⟨xs,n,_,_,_,hl,hfs⟩:=DataW.trod_struct ht hx;have h4:=hfs i f hf;have hlt:i<fs.size:=(Array.getElem?_eq_some_iff.1 hf).1;rw[adg (by omega),h1,h2,h3] at h4;exact⟨n,_,h4⟩
def aoQ {t:κ}{fs:Array Field}{fuel:Nat}{cs:δ}{x:DataW H×List MemPlace}(ht:Tryz.prog.underlying t=some (.struct fs))(hx:TR enc W fuel t cs x):cs.length=Tryz.prog.cellsOf t:=by
 obtain⟨xs,n,_,_,hl,_⟩:=DataW.trod_struct ht hx;exact hl
def T4 {n:Nat}{t:κ}{cs:δ}{x:DataW H×List MemPlace}(ht:Tryz.prog.underlying t=some (.int .i64))(hx:TR enc W n t cs x):∃z,cs=[vi z]:=let ⟨z,h,_⟩:=DataW.trod_int ht hx;⟨z,h⟩
def anx {n:Nat}{t:κ}{cs:δ}{x:DataW H×List MemPlace}(ht:Tryz.prog.underlying t=some .string)(hx:TR enc W n t cs x):∃z:ζ,cs=[.string z]:=let ⟨z,h,_⟩:=DataW.trod_string ht hx;⟨z,h⟩
def ahd {n:Nat}{t:κ}{cs:δ}{x:DataW H×List MemPlace}(ht:Tryz.prog.underlying t=some .bool)(hx:TR enc W n t cs x):∃z,cs=[.bool z]:=let ⟨z,h,_⟩:=DataW.trod_bool ht hx;⟨z,h⟩
def Rf (B:Ih Tryz.prog W ι h){n:Nat}{cs:δ}{x:DataW H×List MemPlace}(hx:TR enc W n 31 cs x) :
  ∃v ι' h' s zs,cs=[v]/\Ih Tryz.prog W ι' h'/\ι.le ι'/\Fr (λ_=>False) h h'/\aO Tryz.prog ι' (OW .sl s) v/\IL h' s zs:=by
 rcases Kg Tryz.underlying31 (by rw[co3];decide) hx with rfl|⟨a,len,cap,els,rfl,hl,_,hel,heach,hcell,h0⟩
 .exact⟨_,ι,h,oz,[],rfl,B,iE.le.refl _,Fr.refl B.wf,.flat _ rfl,⟨0,wK.nil rfl⟩⟩
 .have hz:∀(els:List δ),(∀l∈els,l.length=Tryz.prog.cellsOf 3/\∃m y,DataW.trod enc Tryz.prog W 0 (λ_=>true) true m 3 l=some y)->∃zs:ε,els.flatten=zs.map vi/\zs.length=els.length:=by
   intro els
   induction els with
   |nil=>intro _;exact⟨[],rfl,rfl⟩
   |cons l els ih=>
    intro hh;obtain⟨_,m,y,hm⟩:=hh l OF;obtain⟨z,rfl⟩:=T4 Tryz.underlying3 hm;obtain⟨zs,e1,e2⟩:=ih λl hl=>hh l (IN _ hl);exact⟨z::zs,by rw[aqO,e1];rfl,by simp[e2]⟩
  obtain⟨zs,e1,e2⟩:=hz els heach;obtain⟨ι',h',s,B',le,f,hv,⟨g,hr⟩,hs,_⟩:=B.slice (sz:=1) (cs':=els.flatten) (c:=zs.map vi) hl (by decide) (by rw[e1,aii];omega) hcell h0 (by rw[e1];exact aZ.flat (by simp[dX])) (by simp[fv]);exact⟨_,ι',h',s,zs,rfl,B',le,f,hv,⟨g,hr⟩⟩
def aqA {l:δ}(hl:l.length=5):∃a b c d e,l=[a,b,c,d,e]:=by
 match l,hl with
 |[a,b,c,d,e],_=>exact⟨a,b,c,d,e,rfl⟩
abbrev El (enc:κ×ξ->H)(W:World)(e:κ)(l:δ):Prop:=l.length=Tryz.prog.cellsOf e/\∃m y,DataW.trod enc Tryz.prog W 0 (λ_=>true) true m e l=some y
def adU (ι:iE)(h:aj)(l:δ)(B:Ih Tryz.prog W ι h)(hl:El enc W 33 l) :
  ∃(ι':iE) (h':aj) (x:bh),Ih Tryz.prog W ι' h'/\ι.le ι'/\Fr (λ_=>False) h h'/\(IL h' x.ks x.kl/\IL h' x.is x.il)/\aZ Tryz.prog ι' x.enc l/\x.enc.all fv=true:=by
 obtain⟨h1,m,y,hm⟩:=hl;obtain⟨a,b,c,d,e,rfl⟩:=aqA (by rw[h1];exact aph);obtain⟨_,_,q0⟩:=fld Tryz.underlying33 hm 0 rfl rfl rfl co3;obtain⟨_,_,q1⟩:=fld Tryz.underlying33 hm 1 rfl rfl rfl co9;obtain⟨_,_,q2⟩:=fld Tryz.underlying33 hm 2 rfl rfl rfl co4;obtain⟨_,_,q3⟩:=fld Tryz.underlying33 hm 3 rfl rfl rfl apg;obtain⟨_,_,q4⟩:=fld Tryz.underlying33 hm 4 rfl rfl rfl apg;obtain⟨z,e0⟩:=T4 Tryz.underlying3 q0;obtain⟨t,e1⟩:=anx Tryz.underlying9 q1;obtain⟨o,e2⟩:=ahd Tryz.underlying4 q2;cases e0;cases e1;cases e2;obtain⟨v3,ι1,h1',ks,kl,e3,B1,le1,f1,r3,i3⟩:=Rf B q3;obtain⟨v4,ι2,h2',is,il,e4,B2,le2,f2,r4,i4⟩:=Rf B1 q4;cases e3;cases e4;exact⟨ι2,h2',⟨z,t,o,ks,kl,0,is,il,0⟩,B2,le1.trans le2,f1.trans B.wf f2 (λ_ hy _=>hy.elim),⟨i3.fr f2,i4⟩,
  .cons (.flat _ rfl) (.cons (.flat _ rfl) (.cons (.flat _ rfl) (.cons (r3.mono le2) (.cons r4 .nil)))),rfl⟩
def Y2 (B:Ih Tryz.prog W ι h){n:Nat}{cs:δ}{x:DataW H×List MemPlace}(hx:TR enc W n 22 cs x) :
  ∃v ι' h' s N,cs=[v]/\Ih Tryz.prog W ι' h'/\ι.le ι'/\Fr (λ_=>False) h h'/\aO Tryz.prog ι' (OW .sl s) v/\iK h' s N:=by
 rcases Kg Tryz.underlying22 (by rw[aph];decide) hx with rfl|⟨a,len,cap,els,rfl,hl,_,hel,heach,hcell,h0⟩
 .exact⟨_,ι,h,oz,[],rfl,B,iE.le.refl _,Fr.refl B.wf,.flat _ rfl,[],0,rfl,wK.nil rfl,by simp⟩
 .obtain⟨ι1,h1,xs,B1,le1,f1,k1,r1,s1,n1⟩:=Ih.list (P:=Tryz.prog) (W:=W) (K:=λh (x:bh)=>IL h x.ks x.kl/\IL h x.is x.il) (R:=El enc W 33) bh.enc (λ_ _ _ k f=>⟨k.1.fr f,k.2.fr f⟩) adU els ι h B heach;have hfl:els.flatten.length=len*5:=by
   rw[<-r1.1,jg bh.pI,n1,hel]
  obtain⟨ι',h',s,B',le,f,hv,⟨g,hr⟩,hs,_⟩:=B1.slice (sz:=5) (cs':=els.flatten) (c:=xs.flatMap bh.enc) hl (by decide) hfl hcell h0 r1 s1;exact⟨_,ι',h',s,xs.map bh.v,rfl,B',le1.trans le,f1.trans B.wf f (λ_ hy _=>hy.elim),hv,xs,g,rfl,hr,λx hx=>⟨(k1 x hx).1.fr f,(k1 x hx).2.fr f⟩⟩
def M8 (B:Ih Tryz.prog W ι h){n:Nat}{cs:δ}{x:DataW H×List MemPlace}(hx:TR enc W n 24 cs x) :
  ∃v z ι' h' s N,cs=[v,vi z]/\Ih Tryz.prog W ι' h'/\ι.le ι'/\Fr (λ_=>False) h h'/\aO Tryz.prog ι' (OW .sl s) v/\iK h' s N:=by
 have hl:=aoQ Tryz.underlying24 hx;rw[aqz] at hl
 match cs,hl with
 |[c0,c1],_=>
  obtain⟨_,_,q0⟩:=fld Tryz.underlying24 hx 0 rfl rfl rfl aqy;obtain⟨_,_,q1⟩:=fld Tryz.underlying24 hx 1 rfl rfl rfl co3;obtain⟨z,e1⟩:=T4 Tryz.underlying3 q1;obtain⟨v,ι1,h1,s,N,e0,B1,le1,f1,r1,G⟩:=Y2 B q0;cases e0;cases e1;exact⟨_,z,ι1,h1,s,N,rfl,B1,le1,f1,r1,G⟩
end Go.Proofs.YthcljaholofonaaGreatDoor
