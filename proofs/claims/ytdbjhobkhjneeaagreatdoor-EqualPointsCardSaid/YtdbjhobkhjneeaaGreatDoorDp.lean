
import Derived.Test.YtdbjhobkhjneeaaGreatDoorCe
import Derived.Test.YtdbjhobkhjneeaaGreatDoorAgoN
import Derived.Test.YtdbjhobkhjneeaaGreatDoorGr
set_option linter.all false
namespace Go.Proofs.YtdbjhobkhjneeaaGreatDoor
open Go Go.Ago Go.Sh Go.ChangeShapes
variable {W:World}{ι:gX}{h h':aj}{H:Type}{enc:μ×ο->H}
abbrev TR (enc:μ×ο->H)(W:World)(n:Nat)(t:μ)(cs:δ)(y:DataW H×List MemPlace):Prop:=DataW.trod enc Tryz.prog W 0 (λ_=>true) true n t cs=some y
theorem co3:Tryz.prog.cellsOf 3=1:=by kernel_rfl
theorem co4:Tryz.prog.cellsOf 4=1:=by kernel_rfl
theorem co9:Tryz.prog.cellsOf 9=1:=by kernel_rfl
theorem amE:Tryz.prog.cellsOf 22=1:=by kernel_rfl
theorem amF:Tryz.prog.cellsOf 24=2:=by kernel_rfl
theorem ak5:Tryz.prog.cellsOf 39=1:=by kernel_rfl
theorem ak6:Tryz.prog.cellsOf 41=5:=by kernel_rfl
def fld {t t':μ}{fs:Array Field}{fuel k o:Nat}{cs:δ}{x:DataW H×List MemPlace}(ht:Tryz.prog.underlying t=some (.struct fs))(hx:TR enc W fuel t cs x)(i:Nat){f:Field}(hf:fs[i]?=some f)(h1:f.type=t')(h2:f.offset=o)(h3:Tryz.prog.cellsOf t'=k) :
  ∃n y,TR enc W n t' ((cs.drop o).take k) y:=by
 obtain⟨xs,n,_,_,_,hl,hfs⟩:=DataW.trod_struct ht hx;have h4:=hfs i f hf;have hlt:i<fs.size:=(Array.getElem?_eq_some_iff.1 hf).1;rw[abt (by omega),h1,h2,h3] at h4;exact⟨n,_,h4⟩
def ak7 {t:μ}{fs:Array Field}{fuel:Nat}{cs:δ}{x:DataW H×List MemPlace}(ht:Tryz.prog.underlying t=some (.struct fs))(hx:TR enc W fuel t cs x):cs.length=Tryz.prog.cellsOf t:=by
 obtain⟨xs,n,_,_,hl,_⟩:=DataW.trod_struct ht hx;exact hl
theorem QB {n:Nat}{t:μ}{cs:δ}{x:DataW H×List MemPlace}(ht:Tryz.prog.underlying t=some (.int .i64))(hx:TR enc W n t cs x):∃z,cs=[vi z]:=let ⟨z,h,_⟩:=DataW.trod_int ht hx;⟨z,h⟩
theorem agX {n:Nat}{t:μ}{cs:δ}{x:DataW H×List MemPlace}(ht:Tryz.prog.underlying t=some .string)(hx:TR enc W n t cs x):∃z:ζ,cs=[.string z]:=let ⟨z,h,_⟩:=DataW.trod_string ht hx;⟨z,h⟩
theorem acE {n:Nat}{t:μ}{cs:δ}{x:DataW H×List MemPlace}(ht:Tryz.prog.underlying t=some .bool)(hx:TR enc W n t cs x):∃z,cs=[.bool z]:=let ⟨z,h,_⟩:=DataW.trod_bool ht hx;⟨z,h⟩
def Ow (B:F4 Tryz.prog W ι h){n:Nat}{cs:δ}{x:DataW H×List MemPlace}(hx:TR enc W n 39 cs x) :
  ∃v ι' h' s zs,cs=[v]/\F4 Tryz.prog W ι' h'/\ι.le ι'/\Fr (λ_=>False) h h'/\aM Tryz.prog ι' (M0 .sl s) v/\IL h' s zs:=by
 rcases H3 Tryz.underlying39 (by rw[co3];decide) hx with rfl|⟨a,len,cap,els,rfl,hl,_,hel,heach,hcell,h0⟩
 .exact⟨_,ι,h,pH,[],rfl,B,gX.le.refl _,Fr.refl B.wf,.flat _ rfl,⟨0,rY.nil rfl⟩⟩
 .have hz:∀(els:List δ),(∀l∈els,l.length=Tryz.prog.cellsOf 3/\∃m y,DataW.trod enc Tryz.prog W 0 (λ_=>true) true m 3 l=some y)->∃zs:ε,els.flatten=zs.map vi/\zs.length=els.length:=by
   intro els
   induction els with
   |nil=>intro _;exact⟨[],rfl,rfl⟩
   |cons l els ih=>
    intro hh;obtain⟨_,m,y,hm⟩:=hh l IS;obtain⟨z,rfl⟩:=QB Tryz.underlying3 hm;obtain⟨zs,e1,e2⟩:=ih λl hl=>hh l (BY _ hl);exact⟨z::zs,by rw[anP,e1];rfl,by simp[e2]⟩
  obtain⟨zs,e1,e2⟩:=hz els heach;obtain⟨ι',h',s,B',le,f,hv,⟨g,hr⟩,hs,_⟩:=B.slice (sz:=1) (cs':=els.flatten) (c:=zs.map vi) hl (by decide) (by rw[e1,aeI];omega) hcell h0 (by rw[e1];exact aX.flat (by simp[dL])) (by simp[fC]);exact⟨_,ι',h',s,zs,rfl,B',le,f,hv,⟨g,hr⟩⟩
def amG {l:δ}(hl:l.length=5):∃a b c d e,l=[a,b,c,d,e]:=by
 match l,hl with
 |[a,b,c,d,e],_=>exact⟨a,b,c,d,e,rfl⟩
abbrev El (enc:μ×ο->H)(W:World)(e:μ)(l:δ):Prop:=l.length=Tryz.prog.cellsOf e/\∃m y,DataW.trod enc Tryz.prog W 0 (λ_=>true) true m e l=some y
def Yl (ι:gX)(h:aj)(l:δ)(B:F4 Tryz.prog W ι h)(hl:El enc W 41 l) :
  ∃(ι':gX) (h':aj) (x:cm),F4 Tryz.prog W ι' h'/\ι.le ι'/\Fr (λ_=>False) h h'/\(IL h' x.ks x.kl/\IL h' x.is x.il)/\aX Tryz.prog ι' x.enc l/\x.enc.all fC=true:=by
 obtain⟨h1,m,y,hm⟩:=hl;obtain⟨a,b,c,d,e,rfl⟩:=amG (by rw[h1];exact ak6);obtain⟨_,_,q0⟩:=fld Tryz.underlying41 hm 0 rfl rfl rfl co3;obtain⟨_,_,q1⟩:=fld Tryz.underlying41 hm 1 rfl rfl rfl co9;obtain⟨_,_,q2⟩:=fld Tryz.underlying41 hm 2 rfl rfl rfl co4;obtain⟨_,_,q3⟩:=fld Tryz.underlying41 hm 3 rfl rfl rfl ak5;obtain⟨_,_,q4⟩:=fld Tryz.underlying41 hm 4 rfl rfl rfl ak5;obtain⟨z,e0⟩:=QB Tryz.underlying3 q0;obtain⟨t,e1⟩:=agX Tryz.underlying9 q1;obtain⟨o,e2⟩:=acE Tryz.underlying4 q2;cases e0;cases e1;cases e2;obtain⟨v3,ι1,h1',ks,kl,e3,B1,le1,f1,r3,i3⟩:=Ow B q3;obtain⟨v4,ι2,h2',is,il,e4,B2,le2,f2,r4,i4⟩:=Ow B1 q4;cases e3;cases e4;exact⟨ι2,h2',⟨z,t,o,ks,kl,0,is,il,0⟩,B2,le1.trans le2,f1.trans B.wf f2 (λ_ hy _=>hy.elim),⟨i3.fr f2,i4⟩,
  .cons (.flat _ rfl) (.cons (.flat _ rfl) (.cons (.flat _ rfl) (.cons (r3.mono le2) (.cons r4 .nil)))),rfl⟩
def UH (B:F4 Tryz.prog W ι h){n:Nat}{cs:δ}{x:DataW H×List MemPlace}(hx:TR enc W n 22 cs x) :
  ∃v ι' h' s N,cs=[v]/\F4 Tryz.prog W ι' h'/\ι.le ι'/\Fr (λ_=>False) h h'/\aM Tryz.prog ι' (M0 .sl s) v/\kP h' s N:=by
 rcases H3 Tryz.underlying22 (by rw[ak6];decide) hx with rfl|⟨a,len,cap,els,rfl,hl,_,hel,heach,hcell,h0⟩
 .exact⟨_,ι,h,pH,[],rfl,B,gX.le.refl _,Fr.refl B.wf,.flat _ rfl,[],0,rfl,rY.nil rfl,by simp⟩
 .obtain⟨ι1,h1,xs,B1,le1,f1,k1,r1,s1,n1⟩:=F4.list (P:=Tryz.prog) (W:=W) (K:=λh (x:cm)=>IL h x.ks x.kl/\IL h x.is x.il) (R:=El enc W 41) cm.enc (λ_ _ _ k f=>⟨k.1.fr f,k.2.fr f⟩) Yl els ι h B heach;have hfl:els.flatten.length=len*5:=by
   rw[<-r1.1,oU cm.xj,n1,hel]
  obtain⟨ι',h',s,B',le,f,hv,⟨g,hr⟩,hs,_⟩:=B1.slice (sz:=5) (cs':=els.flatten) (c:=xs.flatMap cm.enc) hl (by decide) hfl hcell h0 r1 s1;exact⟨_,ι',h',s,xs.map cm.v,rfl,B',le1.trans le,f1.trans B.wf f (λ_ hy _=>hy.elim),hv,xs,g,rfl,hr,λx hx=>⟨(k1 x hx).1.fr f,(k1 x hx).2.fr f⟩⟩
def Kg (B:F4 Tryz.prog W ι h){n:Nat}{cs:δ}{x:DataW H×List MemPlace}(hx:TR enc W n 24 cs x) :
  ∃v z ι' h' s N,cs=[v,vi z]/\F4 Tryz.prog W ι' h'/\ι.le ι'/\Fr (λ_=>False) h h'/\aM Tryz.prog ι' (M0 .sl s) v/\kP h' s N:=by
 have hl:=ak7 Tryz.underlying24 hx;rw[amF] at hl
 match cs,hl with
 |[c0,c1],_=>
  obtain⟨_,_,q0⟩:=fld Tryz.underlying24 hx 0 rfl rfl rfl amE;obtain⟨_,_,q1⟩:=fld Tryz.underlying24 hx 1 rfl rfl rfl co3;obtain⟨z,e1⟩:=QB Tryz.underlying3 q1;obtain⟨v,ι1,h1,s,N,e0,B1,le1,f1,r1,G⟩:=UH B q0;cases e0;cases e1;exact⟨_,z,ι1,h1,s,N,rfl,B1,le1,f1,r1,G⟩
end Go.Proofs.YtdbjhobkhjneeaaGreatDoor
