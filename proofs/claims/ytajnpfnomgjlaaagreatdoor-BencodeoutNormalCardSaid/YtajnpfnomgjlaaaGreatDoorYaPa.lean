
import Derived.Test.YtajnpfnomgjlaaaGreatDoorPai
import Derived.Test.YtajnpfnomgjlaaaGreatDoorSl0Pa
set_option linter.all false
namespace Go.Sh
open Go Go.Ago Go.Proofs
variable {β:Type}{h h' h0:ai}{L:List bG}{N:List av}{s:Sl}{root:Int}{Q:β->ai->Prop}
theorem both (fw:lR N)(hg:gc N root=0):∃(d:Nat) (bs:List UInt8) (c:Int),bs.length<=cF/\(Ff N root->Ho N root->PR N d root 0 bs c)/\(Ff (wm N root) 0->Ho (wm N root) 0->PR (wm N root) d 0 0 bs c) /\
  gc (wm N root) 0=0/\(Ff (wm N root) 0↔Ff N root)/\(Ho (wm N root) 0↔Ho N root):=by
 have g:=fw.gv.1 hg;have d:=fw.vdg hg;obtain⟨φ,I,e0,_⟩:=YU g d;have q1:=I.cya g;have q2:=I.trb g;have q3:=(N9 d fw).gv.2 (I.gv g d d.rt);rw[e0] at q1 q2 q3;by_cases hc:Ff N root
 .by_cases ht:Ho N root
  .obtain⟨H,hH⟩:=id hc;obtain⟨bs,c,h1,h2,h3⟩:=ahT I g d fw hc ht hH (H root+1) root .refl d.rt (IT _) 0;rw[e0] at h2;have h4:=ahS (N:=N) root;have h5:=fw.len
   grind [cF]
  .exact⟨0,[],0,by decide,λ_ h=>absurd h ht,λ_ h=>absurd (q2.1 h) ht,q3,q1,q2⟩
 .exact⟨0,[],0,by decide,λh=>absurd h hc,λh=>absurd (q1.1 h) hc,q3,q1,q2⟩
theorem agr {N' r' bs c}(h1:gc N root=0)(h2:gc N' r'=0)(h3:Ff N' r'↔Ff N root)(h4:Ho N' r'↔Ho N root):prA N' r' bs c=prA N root bs c:=by
 grind [prA]
theorem Ql {hb}(hw:WF hb)(G:oI hb s N):∃n,Wp (jS n (s,root)) hb λx _=>x=true:=by
 obtain⟨d,bs,c,hl,hd⟩:∃(d:Nat) (bs:List UInt8) (c:Int),bs.length<=cF/\(lR N->gc N root=0->(Ff N root->Ho N root->PR N d root 0 bs c)/\(Ff (wm N root) 0->Ho (wm N root) 0->PR (wm N root) d 0 0 bs c) /\
  gc (wm N root) 0=0/\(Ff (wm N root) 0↔Ff N root)/\(Ho (wm N root) 0↔Ho N root)):=by
  by_cases h:lR N/\gc N root=0
  .grind [both]
  .exact⟨0,[],0,by decide,λa b=>absurd ⟨a,b⟩ h⟩
 refine⟨RT+fuN+9000+d*90+90000,?_⟩;have hK:KF=7000:=rfl;have z:=Z.start hw;generalize hn:RT+fuN+9000+d*90+90000=n;unfold jS D6;refine z.new λx0 h1 z _=>?_;refine z.iN 0 (ls:=[.sl,li]) (x:=(s,root)) ?_;rw[ah];refine (Zq G z (by omega)).mono λy h2 hy=>?_;obtain⟨hy,z⟩:=hy;cases y with
 |false=>rw[By (by rfl),ah,ag,ag]
 |true=>
 have fw:=hy rfl;rw[AT (by simp)];refine z.iN 0 (ls:=[.sl,li]) (x:=(s,root)) ?_;rw[ah];refine (Zr fw z G (by omega) (λa=>(hd fw a).1) hl).mono λy h3 hy=>?_;obtain⟨rfl,z⟩:=hy;refine z.iN 0 (ls:=[.sl,li]) (x:=(s,root)) ?_;rw[ah];refine (UN z G fw fw.k0 (fw.gc root) (by omega) (by omega)).mono λr h4 hy=>?_;obtain⟨⟨rs,r0⟩,re⟩:=r;simp at hy;by_cases hg:gc N root=0
 .rw[By hg] at hy;obtain⟨rfl,rfl,m⟩:=hy;obtain⟨_,p2,p3,p4,p5⟩:=hd fw hg;refine m.on λX z back=>?_;refine z.new λx7 h5 z _=>z.st 0 (o:=0) (cs':=[aI rs,vi 0]) λh6 z=>?_;rw[AT (by simp)];refine z.iN 0 (ls:=[.sl,li]) (x:=(rs,0)) ?_;have G':=(back h6 [_,_] z).read;rw[ah];refine (Zr (N9 (fw.vdg hg) fw) (Z.start z.wf) G' (by omega) (λ_=>p2) hl).mono λy h7 hy=>?_;obtain⟨rfl,_⟩:=hy;rw[agr hg p3 p4 p5,ah,ag,By rfl,By (by simp),ag];exact CG _
 .rw[AT hg] at hy;obtain⟨rfl,z⟩:=hy;refine z.new λx7 h5 z _=>z.st 0 (o:=0) (cs':=[aI rs,vi r0]) λh6 z=>?_;rw[By (by rfl),ah,ag,By rfl,ag];unfold prA;rw[By hg];rfl
end Go.Sh
