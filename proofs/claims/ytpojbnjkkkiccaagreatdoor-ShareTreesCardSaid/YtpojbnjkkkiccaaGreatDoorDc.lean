
import Derived.Test.YtpojbnjkkkiccaaGreatDoorCd
import Derived.Test.YtpojbnjkkkiccaaGreatDoorAgoN
import Derived.Test.YtpojbnjkkkiccaaGreatDoorGr
set_option linter.all false
namespace Go.Proofs.YtpojbnjkkkiccaaGreatDoor
open Go Go.Ago Go.Sh Go.ChangeShapes
variable {W:World}{ι:gO}{h h':ai}{H:Type}{enc:κ×ξ->H}
abbrev TR (enc:κ×ξ->H)(W:World)(n:Nat)(t:κ)(cs:δ)(y:DataW H×List MemPlace):Prop:=DataW.trod enc Tryz.prog W 0 (λ_=>true) true n t cs=some y
theorem co3:Tryz.prog.cellsOf 3=1:=by kernel_rfl
theorem co4:Tryz.prog.cellsOf 4=1:=by kernel_rfl
theorem co9:Tryz.prog.cellsOf 9=1:=by kernel_rfl
theorem aog:Tryz.prog.cellsOf 22=1:=by kernel_rfl
theorem aoh:Tryz.prog.cellsOf 24=2:=by kernel_rfl
theorem amA:Tryz.prog.cellsOf 29=1:=by kernel_rfl
theorem amB:Tryz.prog.cellsOf 36=5:=by kernel_rfl
def fld {t t':κ}{fs:Array Field}{fuel k o:Nat}{cs:δ}{x:DataW H×List MemPlace}(ht:Tryz.prog.underlying t=some (.struct fs))(hx:TR enc W fuel t cs x)(i:Nat){f:Field}(hf:fs[i]?=some f)(h1:f.type=t')(h2:f.offset=o)(h3:Tryz.prog.cellsOf t'=k) :
  ∃n y,TR enc W n t' ((cs.drop o).take k) y:=by
 obtain⟨xs,n,_,_,_,hl,hfs⟩:=DataW.trod_struct ht hx;have h4:=hfs i f hf;have hlt:i<fs.size:=(Array.getElem?_eq_some_iff.1 hf).1;rw[aci (by omega),h1,h2,h3] at h4;exact⟨n,_,h4⟩
def amC {t:κ}{fs:Array Field}{fuel:Nat}{cs:δ}{x:DataW H×List MemPlace}(ht:Tryz.prog.underlying t=some (.struct fs))(hx:TR enc W fuel t cs x):cs.length=Tryz.prog.cellsOf t:=by
 obtain⟨xs,n,_,_,hl,_⟩:=DataW.trod_struct ht hx;exact hl
theorem RP {n:Nat}{t:κ}{cs:δ}{x:DataW H×List MemPlace}(ht:Tryz.prog.underlying t=some (.int .i64))(hx:TR enc W n t cs x):∃z,cs=[vi z]:=let ⟨z,h,_⟩:=DataW.trod_int ht hx;⟨z,h⟩
theorem aix {n:Nat}{t:κ}{cs:δ}{x:DataW H×List MemPlace}(ht:Tryz.prog.underlying t=some .string)(hx:TR enc W n t cs x):∃z:ζ,cs=[.string z]:=let ⟨z,h,_⟩:=DataW.trod_string ht hx;⟨z,h⟩
theorem adT {n:Nat}{t:κ}{cs:δ}{x:DataW H×List MemPlace}(ht:Tryz.prog.underlying t=some .bool)(hx:TR enc W n t cs x):∃z,cs=[.bool z]:=let ⟨z,h,_⟩:=DataW.trod_bool ht hx;⟨z,h⟩
def P4 (B:HV Tryz.prog W ι h){n:Nat}{cs:δ}{x:DataW H×List MemPlace}(hx:TR enc W n 29 cs x) :
  ∃v ι' h' s zs,cs=[v]/\HV Tryz.prog W ι' h'/\ι.le ι'/\Fr (λ_=>False) h h'/\aN Tryz.prog ι' (QX .sl s) v/\IL h' s zs:=by
 rcases JW Tryz.underlying29 (by rw[co3];decide) hx with rfl|⟨a,len,cap,els,rfl,hl,_,hel,heach,hcell,h0⟩
 .exact⟨_,ι,h,ow,[],rfl,B,gO.le.refl _,Fr.refl B.wf,.flat _ rfl,⟨0,vR.nil rfl⟩⟩
 .have hz:∀(els:List δ),(∀l∈els,l.length=Tryz.prog.cellsOf 3/\∃m y,DataW.trod enc Tryz.prog W 0 (λ_=>true) true m 3 l=some y)->∃zs:ε,els.flatten=zs.map vi/\zs.length=els.length:=by
   intro els
   induction els with
   |nil=>intro _;exact⟨[],rfl,rfl⟩
   |cons l els ih=>
    intro hh;obtain⟨_,m,y,hm⟩:=hh l IS;obtain⟨z,rfl⟩:=RP Tryz.underlying3 hm;obtain⟨zs,e1,e2⟩:=ih λl hl=>hh l (BY _ hl);exact⟨z::zs,by rw[apu,e1];rfl,by simp[e2]⟩
  obtain⟨zs,e1,e2⟩:=hz els heach;obtain⟨ι',h',s,B',le,f,hv,⟨g,hr⟩,hs,_⟩:=B.slice (sz:=1) (cs':=els.flatten) (c:=zs.map vi) hl (by decide) (by rw[e1,acL];omega) hcell h0 (by rw[e1];exact aW.flat (by simp[dO])) (by simp[fk]);exact⟨_,ι',h',s,zs,rfl,B',le,f,hv,⟨g,hr⟩⟩
def aoi {l:δ}(hl:l.length=5):∃a b c d e,l=[a,b,c,d,e]:=by
 match l,hl with
 |[a,b,c,d,e],_=>exact⟨a,b,c,d,e,rfl⟩
abbrev El (enc:κ×ξ->H)(W:World)(e:κ)(l:δ):Prop:=l.length=Tryz.prog.cellsOf e/\∃m y,DataW.trod enc Tryz.prog W 0 (λ_=>true) true m e l=some y
def ZB (ι:gO)(h:ai)(l:δ)(B:HV Tryz.prog W ι h)(hl:El enc W 36 l) :
  ∃(ι':gO) (h':ai) (x:aH),HV Tryz.prog W ι' h'/\ι.le ι'/\Fr (λ_=>False) h h'/\(IL h' x.ks x.kl/\IL h' x.is x.il)/\aW Tryz.prog ι' x.enc l/\x.enc.all fk=true:=by
 obtain⟨h1,m,y,hm⟩:=hl;obtain⟨a,b,c,d,e,rfl⟩:=aoi (by rw[h1];exact amB);obtain⟨_,_,q0⟩:=fld Tryz.underlying36 hm 0 rfl rfl rfl co3;obtain⟨_,_,q1⟩:=fld Tryz.underlying36 hm 1 rfl rfl rfl co9;obtain⟨_,_,q2⟩:=fld Tryz.underlying36 hm 2 rfl rfl rfl co4;obtain⟨_,_,q3⟩:=fld Tryz.underlying36 hm 3 rfl rfl rfl amA;obtain⟨_,_,q4⟩:=fld Tryz.underlying36 hm 4 rfl rfl rfl amA;obtain⟨z,e0⟩:=RP Tryz.underlying3 q0;obtain⟨t,e1⟩:=aix Tryz.underlying9 q1;obtain⟨o,e2⟩:=adT Tryz.underlying4 q2;cases e0;cases e1;cases e2;obtain⟨v3,ι1,h1',ks,kl,e3,B1,le1,f1,r3,i3⟩:=P4 B q3;obtain⟨v4,ι2,h2',is,il,e4,B2,le2,f2,r4,i4⟩:=P4 B1 q4;cases e3;cases e4;exact⟨ι2,h2',⟨z,t,o,ks,kl,0,is,il,0⟩,B2,le1.trans le2,f1.trans B.wf f2 (λ_ hy _=>hy.elim),⟨i3.fr f2,i4⟩,
  .cons (.flat _ rfl) (.cons (.flat _ rfl) (.cons (.flat _ rfl) (.cons (r3.mono le2) (.cons r4 .nil)))),rfl⟩
def Wc (B:HV Tryz.prog W ι h){n:Nat}{cs:δ}{x:DataW H×List MemPlace}(hx:TR enc W n 22 cs x) :
  ∃v ι' h' s N,cs=[v]/\HV Tryz.prog W ι' h'/\ι.le ι'/\Fr (λ_=>False) h h'/\aN Tryz.prog ι' (QX .sl s) v/\ou h' s N:=by
 rcases JW Tryz.underlying22 (by rw[amB];decide) hx with rfl|⟨a,len,cap,els,rfl,hl,_,hel,heach,hcell,h0⟩
 .exact⟨_,ι,h,ow,[],rfl,B,gO.le.refl _,Fr.refl B.wf,.flat _ rfl,[],0,rfl,vR.nil rfl,by simp⟩
 .obtain⟨ι1,h1,xs,B1,le1,f1,k1,r1,s1,n1⟩:=HV.list (P:=Tryz.prog) (W:=W) (K:=λh (x:aH)=>IL h x.ks x.kl/\IL h x.is x.il) (R:=El enc W 36) aH.enc (λ_ _ _ k f=>⟨k.1.fr f,k.2.fr f⟩) ZB els ι h B heach;have hfl:els.flatten.length=len*5:=by
   rw[<-r1.1,eG aH.jS,n1,hel]
  obtain⟨ι',h',s,B',le,f,hv,⟨g,hr⟩,hs,_⟩:=B1.slice (sz:=5) (cs':=els.flatten) (c:=xs.flatMap aH.enc) hl (by decide) hfl hcell h0 r1 s1;exact⟨_,ι',h',s,xs.map aH.v,rfl,B',le1.trans le,f1.trans B.wf f (λ_ hy _=>hy.elim),hv,xs,g,rfl,hr,λx hx=>⟨(k1 x hx).1.fr f,(k1 x hx).2.fr f⟩⟩
def Wd (B:HV Tryz.prog W ι h){n:Nat}{cs:δ}{x:DataW H×List MemPlace}(hx:TR enc W n 24 cs x) :
  ∃v z ι' h' s N,cs=[v,vi z]/\HV Tryz.prog W ι' h'/\ι.le ι'/\Fr (λ_=>False) h h'/\aN Tryz.prog ι' (QX .sl s) v/\ou h' s N:=by
 have hl:=amC Tryz.underlying24 hx;rw[aoh] at hl
 match cs,hl with
 |[c0,c1],_=>
  obtain⟨_,_,q0⟩:=fld Tryz.underlying24 hx 0 rfl rfl rfl aog;obtain⟨_,_,q1⟩:=fld Tryz.underlying24 hx 1 rfl rfl rfl co3;obtain⟨z,e1⟩:=RP Tryz.underlying3 q1;obtain⟨v,ι1,h1,s,N,e0,B1,le1,f1,r1,G⟩:=Wc B q0;cases e0;cases e1;exact⟨_,z,ι1,h1,s,N,rfl,B1,le1,f1,r1,G⟩
end Go.Proofs.YtpojbnjkkkiccaaGreatDoor
