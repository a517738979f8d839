
import Derived.Test.YthcljaholofonaaGreatDoorPak
import Derived.Test.YthcljaholofonaaGreatDoorSl0
set_option linter.all false
namespace Go.Sh
open Go Go.Ago Go.Proofs
variable {h h' h0:aj}{L:List bA}{N M:List ao}{s s':Sl}{root root':Int}
def adT (N:List ao)(root:Int):∃n0,mU N->∀{h h0:aj} {L:List bA} {s:Sl},Z h0 h L->iK h0 s N->∀n,n0<=n ->
  Wp (eD n (s,root)) h λy h'=>(y.2=0->∃v,Rn N root y.1.data.toList v)/\Z h0 h' L:=by
 by_cases fw:mU N
 .obtain⟨n0,hn⟩:=am5 fw root;exact⟨n0,λ_=>hn⟩
 .exact⟨0,λf=>absurd f fw⟩
def Re {hb:aj}(hw:WF hb)(G:iK hb s N)(G':iK hb s' M):∃n,Wp (jM n (s,root) (s',root')) hb λx _=>x=true:=by
 obtain⟨n1,p1⟩:=adT N root;obtain⟨n2,p2⟩:=adT M root';refine⟨n1+n2+70000,?_⟩;have z:=Z.start hw;generalize hn:n1+n2+70000=n;unfold jM FN;refine z.new λx0 h1 z _=>z.new λx1 h2 z _=>?_;refine z.eZ 1 (ls:=[.sl,li]) (x:=(s,root)) ?_;rw[ah];refine (Q1 G z (by omega)).mono λy h3 hy=>?_;obtain⟨hy,z⟩:=hy;cases y with
 |false=>rw[By (by rfl),ah,ag,ag]
 |true=>
 have fw:=hy rfl;rw[AT (by simp)];refine z.eZ 0 (ls:=[.sl,li]) (x:=(s',root')) ?_;rw[ah];refine (Q1 G' z (by omega)).mono λy h4 hy=>?_;obtain⟨hy,z⟩:=hy;cases y with
 |false=>rw[By (by rfl),ah,ag,ag]
 |true=>
 have fw':=hy rfl;rw[AT (by simp)];unfold iz FN;refine z.eZ 1 (ls:=[.sl,li]) (x:=(s,root)) ?_;rw[ah];refine (p1 fw z G n (by omega)).mono λy h5 hy=>?_;obtain⟨hy,z⟩:=hy;refine z.eZ 0 (ls:=[.sl,li]) (x:=(s',root')) ?_;rw[ah];refine (p2 fw' z G' n (by omega)).mono λy' h6 hy'=>?_;obtain⟨hy',z⟩:=hy';rw[ah,ag,By rfl];by_cases e:y.2=0
 .rw[AT (by simpa using e)];by_cases e':y'.2=0
  .rw[AT (by simpa using e')];obtain⟨v,p⟩:=hy e;obtain⟨v',p'⟩:=hy' e';refine z.eZ 1 (ls:=[.sl,li]) (x:=(s,root)) ?_;refine z.eZ 0 (ls:=[.sl,li]) (x:=(s',root')) ?_;rw[ah];refine (ape z G G' fw fw' p p' (by omega)).mono λr h7 hr=>?_;obtain⟨hr,z⟩:=hr;rw[ag];have q:=p.iff p';have e1:oG y.1 y'.1=true↔r=true:=by
    rw[GN,hr,<-q];exact⟨λh=>by rw[h],λh=>apT (Array.toList_inj.1 h)⟩
   cases h8:oG y.1 y'.1<;>cases r<;>simp_all
  .rw[By (by simpa using e'),ag]
 .rw[By (by simpa using e),ag]
end Go.Sh
