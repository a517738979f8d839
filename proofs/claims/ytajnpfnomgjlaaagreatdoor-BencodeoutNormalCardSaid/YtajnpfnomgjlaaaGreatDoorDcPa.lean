
import Derived.Test.YtajnpfnomgjlaaaGreatDoorCd
import Derived.Test.YtajnpfnomgjlaaaGreatDoorAgoN
import Derived.Test.YtajnpfnomgjlaaaGreatDoorYaPa
set_option linter.all false
namespace Go.Proofs.YtajnpfnomgjlaaaGreatDoor
open Go Go.Ago Go.Sh Go.ChangeShapes
variable {W:World}{ι:ja}{h h':ai}{H:Type}{enc:κ×ξ->H}
abbrev TR (enc:κ×ξ->H)(W:World)(n:Nat)(t:κ)(cs:δ)(y:DataW H×List MemPlace):Prop:=DataW.trod enc Tryz.prog W 0 (λ_=>true) true n t cs=some y
theorem co3:Tryz.prog.cellsOf 3=1:=by kernel_rfl
theorem co4:Tryz.prog.cellsOf 4=1:=by kernel_rfl
theorem co9:Tryz.prog.cellsOf 9=1:=by kernel_rfl
theorem ai8:Tryz.prog.cellsOf 22=1:=by kernel_rfl
theorem ai9:Tryz.prog.cellsOf 24=2:=by kernel_rfl
theorem ahV:Tryz.prog.cellsOf 32=1:=by kernel_rfl
theorem ahW:Tryz.prog.cellsOf 34=5:=by kernel_rfl
theorem fld {t t' fs fuel k o cs x}(ht:Tryz.prog.underlying t=some (.struct fs))(hx:TR enc W fuel t cs x)(i:Nat){f}(hf:fs[i]?=some f)(h1:f.type=t')(h2:f.offset=o)(h3:Tryz.prog.cellsOf t'=k) :
  ∃n y,TR enc W n t' ((cs.drop o).take k) y:=by
 obtain⟨xs,n,_,_,_,hl,hfs⟩:=DataW.trod_struct ht hx
 grind
theorem ahF {t fs fuel cs x}(ht:Tryz.prog.underlying t=some (.struct fs))(hx:TR enc W fuel t cs x):cs.length=Tryz.prog.cellsOf t:=by
 obtain⟨xs,n,_,_,hl,_⟩:=DataW.trod_struct ht hx;exact hl
theorem Qm {n t cs x}(ht:Tryz.prog.underlying t=some (.int .i64))(hx:TR enc W n t cs x):∃z,cs=[vi z]:=let ⟨z,h,_⟩:=DataW.trod_int ht hx;⟨z,h⟩
theorem agt {n t cs x}(ht:Tryz.prog.underlying t=some .string)(hx:TR enc W n t cs x):∃z:ζ,cs=[.string z]:=let ⟨z,h,_⟩:=DataW.trod_string ht hx;⟨z,h⟩
theorem acd {n t cs x}(ht:Tryz.prog.underlying t=some .bool)(hx:TR enc W n t cs x):∃z,cs=[.bool z]:=let ⟨z,h,_⟩:=DataW.trod_bool ht hx;⟨z,h⟩
theorem Oc (B:Em Tryz.prog W ι h){n cs x}(hx:TR enc W n 32 cs x) :
  ∃v ι' h' s zs,cs=[v]/\Em Tryz.prog W ι' h'/\ι.le ι'/\Fr (λ_=>False) h h'/\aW Tryz.prog ι' (Od .sl s) v/\IL h' s zs:=by
 rcases GA Tryz.underlying32 (by rw[co3];decide) hx with rfl|⟨a,len,cap,els,rfl,hl,_,hel,heach,hcell,h0⟩
 .exact⟨_,ι,h,qQ,[],rfl,B,ja.le.refl _,Fr.refl B.wf,.flat _ rfl,⟨0,wq.nil rfl⟩⟩
 .have hz:∀(els:List δ),(∀l∈els,l.length=Tryz.prog.cellsOf 3/\∃m y,DataW.trod enc Tryz.prog W 0 (λ_=>true) true m 3 l=some y)->∃zs:ε,els.flatten=zs.map vi/\zs.length=els.length:=by
   intro els
   induction els with
   |nil=>simp_all
   |cons l els ih=>
    intro hh;obtain⟨_,m,y,hm⟩:=hh l OF;obtain⟨z,rfl⟩:=Qm Tryz.underlying3 hm;obtain⟨zs,e1,e2⟩:=ih λl hl=>hh l (IN _ hl);exact⟨z::zs,by grind,by simp[e2]⟩
  obtain⟨zs,e1,e2⟩:=hz els heach;obtain⟨ι',h',s,B',le,f,hv,⟨g,hr⟩,hs,_⟩:=B.slice (sz:=1) (cs':=els.flatten) (c:=zs.map vi) hl (by decide) (by grind) hcell h0 (by rw[e1];exact bz.flat (by simp[dW])) (by simp[eS]);exact⟨_,ι',h',s,zs,rfl,B',le,f,hv,⟨g,hr⟩⟩
theorem aja {l:δ}(hl:l.length=5):∃a b c d e,l=[a,b,c,d,e]:=by
 match l,hl with
 |[a,b,c,d,e],_=>grind
abbrev El (enc:κ×ξ->H)(W:World)(e:κ)(l:δ):Prop:=l.length=Tryz.prog.cellsOf e/\∃m y,DataW.trod enc Tryz.prog W 0 (λ_=>true) true m e l=some y
theorem Zx ι h l (B:Em Tryz.prog W ι h)(hl:El enc W 34 l) :
  ∃(ι':ja) (h':ai) (x:bC),Em Tryz.prog W ι' h'/\ι.le ι'/\Fr (λ_=>False) h h'/\(IL h' x.ks x.kl/\IL h' x.is x.il)/\bz Tryz.prog ι' x.enc l/\x.enc.all eS=true:=by
 obtain⟨h1,m,y,hm⟩:=hl;obtain⟨a,b,c,d,e,rfl⟩:=aja (by rw[h1];exact ahW);obtain⟨_,_,q0⟩:=fld Tryz.underlying34 hm 0 rfl rfl rfl co3;obtain⟨_,_,q1⟩:=fld Tryz.underlying34 hm 1 rfl rfl rfl co9;obtain⟨_,_,q2⟩:=fld Tryz.underlying34 hm 2 rfl rfl rfl co4;obtain⟨_,_,q3⟩:=fld Tryz.underlying34 hm 3 rfl rfl rfl ahV;obtain⟨_,_,q4⟩:=fld Tryz.underlying34 hm 4 rfl rfl rfl ahV;obtain⟨z,e0⟩:=Qm Tryz.underlying3 q0;obtain⟨t,e1⟩:=agt Tryz.underlying9 q1;obtain⟨o,e2⟩:=acd Tryz.underlying4 q2;cases e0;cases e1;cases e2;obtain⟨v3,ι1,h1',ks,kl,e3,B1,le1,f1,r3,i3⟩:=Oc B q3;obtain⟨v4,ι2,h2',is,il,e4,B2,le2,f2,r4,i4⟩:=Oc B1 q4;cases e3;cases e4;exact⟨ι2,h2',⟨z,t,o,ks,kl,0,is,il,0⟩,B2,le1.trans le2,f1.trans B.wf f2 (λ_ hy _=>hy.elim),⟨i3.fr f2,i4⟩,
  .cons (.flat _ rfl) (.cons (.flat _ rfl) (.cons (.flat _ rfl) (.cons (r3.mono le2) (.cons r4 .nil)))),rfl⟩
theorem UY (B:Em Tryz.prog W ι h){n cs x}(hx:TR enc W n 22 cs x) :
  ∃v ι' h' s N,cs=[v]/\Em Tryz.prog W ι' h'/\ι.le ι'/\Fr (λ_=>False) h h'/\aW Tryz.prog ι' (Od .sl s) v/\oI h' s N:=by
 rcases GA Tryz.underlying22 (by rw[ahW];decide) hx with rfl|⟨a,len,cap,els,rfl,hl,_,hel,heach,hcell,h0⟩
 .exact⟨_,ι,h,qQ,[],rfl,B,ja.le.refl _,Fr.refl B.wf,.flat _ rfl,[],0,rfl,wq.nil rfl,by simp⟩
 .obtain⟨ι1,h1,xs,B1,le1,f1,k1,r1,s1,n1⟩:=Em.list bC.enc (λ_ _ _ k f=>⟨k.1.fr f,k.2.fr f⟩) Zx els ι h B heach;have hfl:els.flatten.length=len*5:=by
   rw[<-r1.1,gN bC.nJ,n1,hel]
  obtain⟨ι',h',s,B',le,f,hv,⟨g,hr⟩,hs,_⟩:=B1.slice (sz:=5) (cs':=els.flatten) (c:=xs.flatMap bC.enc) hl (by decide) hfl hcell h0 r1 s1;exact⟨_,ι',h',s,xs.map bC.v,rfl,B',le1.trans le,f1.trans B.wf f (λ_ hy _=>hy.elim),hv,xs,g,rfl,hr,λx hx=>⟨(k1 x hx).1.fr f,(k1 x hx).2.fr f⟩⟩
theorem UZ (B:Em Tryz.prog W ι h){n cs x}(hx:TR enc W n 24 cs x) :
  ∃v z ι' h' s N,cs=[v,vi z]/\Em Tryz.prog W ι' h'/\ι.le ι'/\Fr (λ_=>False) h h'/\aW Tryz.prog ι' (Od .sl s) v/\oI h' s N:=by
 have hl:=ahF Tryz.underlying24 hx;rw[ai9] at hl
 match cs,hl with
 |[c0,c1],_=>
  obtain⟨_,_,q0⟩:=fld Tryz.underlying24 hx 0 rfl rfl rfl ai8;obtain⟨_,_,q1⟩:=fld Tryz.underlying24 hx 1 rfl rfl rfl co3;obtain⟨z,e1⟩:=Qm Tryz.underlying3 q1;obtain⟨v,ι1,h1,s,N,e0,B1,le1,f1,r1,G⟩:=UY B q0
  grind
end Go.Proofs.YtajnpfnomgjlaaaGreatDoor
