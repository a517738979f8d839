
import Derived.Test.YtdbjhobkhjneeaaGreatDoorBi
import Derived.Test.YtdbjhobkhjneeaaGreatDoorGi
set_option linter.all false
namespace Go.Sh
open Go Go.Ago Go.Proofs
section
variable {α β:Type}{h h' h0:aj}{L:List bN}{Q:β->aj->Prop}
def stripR:ε->Int->ε×Int
 |[],e=>([],e)
 |x::r,e=>if x=0 then stripR r (IntKind.i64.wrap (e+1)) else ((x::r).reverse,e)
def stripL:ε->ε
 |[]=>[]
 |x::r=>if x=0 then stripL r else x::r
def wN (neg:Bool)(D:ε)(e:Int):Bool×ε×Int:=
 if (stripR (stripL D).reverse e).1.length=0 then (false,[],0) else (neg,(stripR (stripL D).reverse e).1,(stripR (stripL D).reverse e).2)
theorem Fk:∀D:ε,(stripL D).length<=D.length
 |[]=>aao _
 |x::r=>by
  unfold stripL;split
  .have:=Fk r;grind
  grind
theorem J4:∀D e ,(stripR D e).1.length<=D.length
 |[],e=>aao _
 |x::r,e=>by
  unfold stripR;split
  .have:=J4 r (IntKind.i64.wrap (e+1));grind
  .simp
def BL (h:aj)(s:Sl)(xs:ε)(g:Nat):Prop:=vj h s 1 (xs.map v8) g
def Ol {γ:Type}{D:List γ}{z d}{i}(hd:D[i]?=some d):(D.take i++List.replicate (D.length-i) z).set i d=D.take (i+1)++List.replicate (D.length-(i+1)) z:=by
 have hlt:=(List.getElem?_eq_some_iff.1 hd).1;have hl:(D.take i).length=i:=by grind
 obtain⟨m,hm⟩:∃m,D.length-i=m+1:=⟨D.length-i-1,by omega⟩;rw[hm,akq,akC _ _ (by omega),hl,al2,aki,anY,hd,show D.length-(i+1)=m by omega];simp
def QH {s}{b}(hs:s.size<=65536):∀n i h ,s.size-i<n->i<=s.size->Z h0 h (.ar b (((xQ s).take i++List.replicate ((xQ s).length-i) 0).map v8) gU::L) ->
  Wp (mh n s ⟨some ⟨b,0,none⟩,s.size,s.size+1⟩ (s.size:Int) (i:Int)) h λ_ h'=>Z h0 h' (.ar b ((xQ s).map v8) gU::L):=by
 have hl:(xQ s).length=s.size:=by grind [xQ,List.length_map,mS]
 intro n
 induction n with
 |zero=>intro i h h1;omega
 |succ n ih=>
  intro i h h1 h2 z;rw[zY];unfold qS;refine ER.2 ⟨(λhc=>?_),λhc=>?_⟩
  .have hi:i<s.size:=by grind
   obtain⟨c,hc1⟩:∃c,s[i]?=some c:=⟨s[i],by simp[hi]⟩;have hd:(xQ s)[i]?=some (Bg c):=by
    grind [xQ,zq]
   rw[ag,fQ];refine⟨c,by omega,by grind,Ji (by omega) (by omega) ?_⟩;simp;refine Z.CB z 0 (enc:=v8) (xs:=(xQ s).take i++List.replicate ((xQ s).length-i) 0) (v:=Bg c) (by grind) λh' z'=>?_;rw[Ol hd] at z';rw[w3 (by omega) (by omega)];exact ih (i+1) h' (by omega) (by omega) z'
  .have hi:i=s.size:=by grind
   refine af.2 ?_;rw[hi,<-hl] at z
   grind
def Zf (z:Z h0 h L){s}{n}(hs:s.size<=65536)(hn:s.size<n):Wp (um n s) h λx h'=>∃b,x=⟨some ⟨b,0,none⟩,s.size,s.size+1⟩/\Z h0 h' (.ar b ((xQ s).map v8) gU::L):=by
 unfold um;have hl:(xQ s).length=s.size:=by grind [xQ,List.length_map,mS]
 refine z.MH (by omega) (by grind [cQ]) λb h' z1 _=>?_;have e1:(List.replicate s.size [v8 0]).flatten=((xQ s).take 0++List.replicate ((xQ s).length-0) 0).map v8:=by
  simp_all
 simp only[OF] at z1⊢;rw[e1] at z1;exact ag.2 ((QH hs n 0 _ (by omega) (by omega) z1).mono λ_ h' z2=>af.2 ⟨b,rfl,z2⟩)
def Sk (z:Z h0 h L)(i:Nat){b o m c}{xs:ε}{j}{x}(hi:L[i]?=some (.ar b (xs.map v8) gU))(hx:((xs.drop o).take m)[j.toNat]?=some x)(h1:0<=j){f:Int->M β}(q:Wp (f x) h Q) :
  Wp (sh (mT ⟨some ⟨b,o,none⟩,m,c⟩ j 1) λa=>sh (e9 (.int .u8) a) f) h Q:=by
 have hlt:=(List.getElem?_eq_some_iff.1 hx).1;rw[ajM] at hlt;have l:LB h b (xs.map v8) gU:=z.get i hi;rw[ag,Bx];refine⟨_,rfl,h1,by grind,?_⟩;rw[ag,xz];refine⟨x,?_,q⟩;refine l.ld (v:=v8 x) ?_ rfl;rw[amQ,ajr] at hx;split at hx
 .simp only[Addr.plus,adU]
  grind
 grind
def Sn (z:Z h0 h L)(i:Nat){b o m c:Nat}{xs:ε}{lo hi:Int}(hL:L[i]?=some (.ar b (xs.map v8) gU))(h1:0<=lo)(h2:lo<=hi)(h3:hi<=m){f}
  (q:∀c',Wp (f ⟨some ⟨b,o+lo.toNat,none⟩,hi.toNat-lo.toNat,c'⟩) h Q):Wp (sh (mU ⟨some ⟨b,o,none⟩,m,c⟩ lo hi gU 1) f) h Q:=by
 have l:LB h b (xs.map v8) gU:=z.get i hL;rw[ag];refine ES h1 h2 (by grind) (by simp[p8,l.get]) ?_;simp[aeq,Addr.plus,adU];exact q _
def acU (z:Z h0 h L)(i:Nat){b}{xs:ε}(hL:L[i]?=some (.ar b (xs.map v8) gU)) neg e a3:∀n o m c ,m<n->o+m<=xs.length ->
  Wp (nO n neg ⟨some ⟨b,o,none⟩,m,c⟩ e a3) h λr h'=>h'=h/\∃o' m' c',r=⟨some ⟨b,o',none⟩,m',c'⟩/\o'+m'<=xs.length/\(xs.drop o').take m'=stripL ((xs.drop o).take m):=by
 intro n
 induction n with
 |zero=>intro o m c h1;omega
 |succ n ih=>
  intro o m c h1 h2;rw[AL];unfold rV;refine ER.2 ⟨(λhc=>?_),λhc=>?_⟩
  .have hm:0<m:=by grind
   obtain⟨m,rfl⟩:∃m',m=m'+1:=⟨m-1,by omega⟩;obtain⟨x,hx⟩:∃x,xs[o]?=some x:=⟨xs[o],aa9 (by omega)⟩;have hd:(xs.drop o).take (m+1)=x::(xs.drop (o+1)).take m:=by
    rw[drop_cons hx,List.take_succ_cons]
   refine Sk z i hL (by rw[hd];rfl) (by omega) ?_;rw[hd];refine ER.2 ⟨(λh0=>?_),λh0=>?_⟩
   .have h0:x=0:=(by grind);refine Sn z i hL (by omega) (by grind) (by grind) λc'=>?_;rw[show o+(1:Int).toNat=o+1 from rfl,show ((((⟨some ⟨b,o,none⟩,m+1,c⟩:Sl).len:Nat):Int).toNat-(1:Int).toNat)=m by simp];refine (ih (o+1) m c' (by omega) (by omega)).mono λr h' hr=>?_;obtain⟨r1,o',m',c2,r2,r3,r4⟩:=hr;refine⟨r1,o',m',c2,r2,r3,?_⟩;rw[r4,stripL,By h0]
   .have h0:¬x=0:=(by grind);exact af.2 ⟨rfl,o,m+1,c,rfl,h2,by rw[hd,stripL,AT h0]⟩
  .have hm:m=0:=by grind
   subst hm;exact af.2 ⟨rfl,o,0,c,rfl,h2,by simp[stripL]⟩
def acV (z:Z h0 h L)(i:Nat){b}{xs:ε}(hL:L[i]?=some (.ar b (xs.map v8) gU))(hxs:xs.length<=65536) neg a3:∀n o m c e ,m<n->o+m<=xs.length ->
  Wp (nN n neg ⟨some ⟨b,o,none⟩,m,c⟩ e a3) h λr h'=>h'=h/\∃m' c',r.1=⟨some ⟨b,o,none⟩,m',c'⟩/\o+m'<=xs.length/\stripR ((xs.drop o).take m).reverse e=((xs.drop o).take m',r.2):=by
 intro n
 induction n with
 |zero=>intro o m c e h1;omega
 |succ n ih=>
  intro o m c e h1 h2;rw[AK];unfold rU;refine ER.2 ⟨(λhc=>?_),λhc=>?_⟩
  .have hm:0<m:=by grind
   obtain⟨m,rfl⟩:∃m',m=m'+1:=⟨m-1,by omega⟩;obtain⟨x,hx⟩:∃x,xs[o+m]?=some x:=⟨xs[o+m],aa9 (by omega)⟩;have hx2:(xs.drop o)[m]?=some x:=by grind
   have hd:(xs.drop o).take (m+1)=(xs.drop o).take m++[x]:=by grind [List.take_succ]
   have ew:IntKind.i64.wrap ((((⟨some ⟨b,o,none⟩,m+1,c⟩:Sl).len:Nat):Int)-1)=(m:Int):=by
    grind [tC]
   rw[ew];refine Sk z i hL (x:=x) (by grind [Int.toNat_natCast,List.getElem?_append_right,List.length_take,List.length_drop,min]) (by omega) ?_;rw[hd,List.reverse_append,List.reverse_singleton,anX];refine ER.2 ⟨(λh0=>?_),λh0=>?_⟩
   .have h0:x=0:=(by grind);refine Sn z i hL (by omega) (by omega) (by omega) λc'=>?_;rw[show o+(0:Int).toNat=o from rfl,show ((m:Int).toNat-(0:Int).toNat)=m by simp];refine (ih o m c' _ (by omega) (by omega)).mono λr h' hr=>?_;obtain⟨r1,m',c2,r2,r3,r4⟩:=hr;refine⟨r1,m',c2,r2,r3,?_⟩;rw[stripR,By h0];exact r4
   .have h0:¬x=0:=(by grind);refine af.2 ⟨rfl,m+1,c,rfl,h2,?_⟩;rw[stripR,AT h0,hd];simp
  .have hm:m=0:=by grind
   subst hm;exact af.2 ⟨rfl,0,c,rfl,h2,by simp[stripR]⟩
def VU (z:Z h0 h L){e}{cs}{f}(q:∀h',Z h0 h' (.ar h.next cs e::L)->h'.next=h.next+1->Wp (f h.next) h' Q)(hs:cs.all fE=true:=by rfl):Wp (sh (iR none e cs) f) h Q:=by
 rw[ag,CG];exact⟨hs,q _ (z.add (Fr.new z.wf) LB.new (.inr (af7 _))) rfl⟩
def mkN (z:Z h0 h L){m:Nat}{f}(hm:m<=65536)(q:∀h',Z h0 h' (.ar h.next (List.replicate m (v8 0)) gU::L)->Wp (f ⟨some ⟨h.next,0,none⟩,m,m+1⟩) h' Q):Wp (sh (An none gU [v8 0] (m:Int) (m:Int)) f) h Q:=by
 rw[ag];refine P9 (by omega) (af6 _) (by grind [cQ]) (q _ ?_);have z1:=z.add (Fr.new (e:=gU) (cs:=(List.replicate m [v8 0]).flatten) z.wf) (o:=.ar h.next _ gU) LB.new (.inr (af7 _))
 simp_all
def ak1 (z:Z h0 h L)(i j:Nat){b b2 o m c}{xs:ε}{f}(hi:L[i]?=some (.ar b2 (List.replicate m (v8 0)) gU))(hj:L[j]?=some (.ar b (xs.map v8) gU))(hm:0<m)(ho:o+m<=xs.length)
  (q:∀h',Z h0 h' (L.set i (.ar b2 (((xs.drop o).take m).map v8) gU))->Wp (f m) h' Q):Wp (sh (JH ⟨some ⟨b2,0,none⟩,m,m+1⟩ ⟨some ⟨b,o,none⟩,m,c⟩ 1) f) h Q:=by
 have l:LB h b (xs.map v8) gU:=z.get j hj;have hl:(((xs.drop o).take m).map v8).length=m:=by grind
 have hcell:aX h (some ⟨b,o,none⟩) (Nat.min m m*1)=some (((xs.drop o).take m).map v8):=by
  unfold aX;simp only[l.get]
  simp_all
 obtain⟨x,h1,e1,q1⟩:=Z.st z i (f:=AI) (Q:=λ_ h'=>Z h0 h' (L.set i (.ar b2 (((xs.drop o).take m).map v8) gU)))
  (λh' z'=>af.2 z') hi (by unfold aV;rw[aeb,hl];simp) (by grind) (by rw[List.all_map,ajt];intro x _;rfl)
 refine ag.2 ⟨m,h1,?_,q h1 q1⟩;have e3:sU ⟨b2,0,none⟩ (((xs.drop o).take m).map v8) h=some ((),h1):=by
  unfold sh at e1;split at e1
  .rename_i u h5 hu;cases e1;exact hu
  .cases e1
 grind [JH]
def acW {b n c}{xs}(z:Z h0 h (.ar b (xs.map v8) gU::L))(hx:xs.length<=65536)(hn:xs.length<n) neg e :
  Wp (vz n neg ⟨some ⟨b,0,none⟩,xs.length,c⟩ e) h λr h'=>r.1=(wN neg xs e).1/\r.2.2=(wN neg xs e).2.2/\Z h0 h' L/\∃g,BL h' r.2.1 (wN neg xs e).2.1 g/\g<=h'.next/\(g=0\/h.next<g):=by
 unfold vz;refine VU z λh1 z1 n1=>?_;refine ag.2 ((acU z1 1 rfl neg e _ n 0 xs.length c hn (by omega)).mono λr h' hr=>?_);obtain⟨hh,o,m,c',rfl,hom,e1⟩:=hr;have hh:=hh.symm;subst hh;rw[akc,amA] at e1;have hm:=Fk xs;rw[<-e1,ajM,amz] at hm;refine ag.2 ((acV z1 1 rfl hx neg _ n o m c' e (by omega) hom).mono λr h' hr=>?_);obtain⟨hh,m2,c2,e2,hom2,e3⟩:=hr;have hh:=hh.symm;subst hh;obtain⟨sl,ee⟩:=r;simp at e2 e3;subst e2;rw[e1] at e3;have e4:(stripR (stripL xs).reverse e).1=(xs.drop o).take m2:=by rw[e3]
 have e5:(stripR (stripL xs).reverse e).2=ee:=by rw[e3]
 have el:((xs.drop o).take m2).length=m2:=by grind
 refine ER.2 ⟨(λhc=>?_),λhc=>?_⟩
 .have hm0:m2=0:=by grind
  have en:wN neg xs e=(false,[],0):=by unfold wN;grind
  refine z1.st 0 (cs':=[.bool false,aI,vi 0]) λh2 z2=>?_;refine z2.fI 0 (x:=((false,pY,0):eC [.bool,.sl,li])) (af.2 ?_);rw[en];exact⟨rfl,rfl,z2.drop.drop,0,vj.nil rfl,aku _,.inl rfl⟩
 .have hm0:0<m2:=by grind
  have en:wN neg xs e=(neg,(xs.drop o).take m2,ee):=by grind [wN]
  refine mkN (m:=m2) z1 (by omega) λh2 z2=>?_;refine ak1 z2 0 2 rfl rfl hm0 hom2 λh3 z3=>?_;refine z3.st 1 (cs':=[.bool neg,.slice (some ⟨h1.next,0,none⟩) m2 (m2+1),vi ee]) λh4 z4=>?_
  refine z4.fI 1 (af.2 ?_);rw[en];have l:LB h4 h1.next (((xs.drop o).take m2).map v8) gU:=z4.get 0 rfl
  exact⟨rfl,rfl,z4.drop.drop.drop,h1.next+1,l.Jg (by grind),LB.lt l z4.wf,.inr (by omega)⟩
end
section
variable {α β:Type}{h h' h0:aj}{L:List bN}{Q:β->aj->Prop}
def _root_.Go.Ago.Z.Om (z:Z h0 h L)(i:Nat){b:Nat}{a:Addr}{cs:δ}{e:μ}{m:M α}{f:α->M β}{P:α->Prop}(hm:Wp m h λr h'=>P r/\Fr (λ_=>False) h h')
  (q:∀r h',P r->Fr (λ_=>False) h h'->Z h0 h' L->Wp (f r) h' Q) (hi:L[i]?=some (.ar b cs e):=by rfl) (ha:a.block=b:=by rfl):Wp (sh (Ago.uw [some a] m) f) h Q:=by
 rw[ag];have l:LB h b cs e:=z.get i hi;refine CH (hm.mono λr h' hp=>⟨λa' hma=>?_,q r h' hp.1 hp.2 (z.pure hp.2)⟩);simp at hma;subst hma;rw[ha,l.get];exact hp.2.cells _ _ _ _ _ l.get λx=>x.elim
def BL.fr {s}{D}{g}(b:BL h s D g)(f:Fr (λ_=>False) h h'):BL h' s D g:=vj.fr b f λx=>x.elim
theorem BL.len {s}{D}{g}(b:BL h s D g):s.len=D.length:=vj.Jh (enc:=v8) b
def LN (D:ε)(e:Int):Int:=if 400<D.length then 6 else if e < -2000 then 2 else if 2000<e then 2 else 0
def byt (x:Int):UInt8:=UInt8.ofNat x.toNat
def VV (D:ε):ζ:=ofBytes (D.map λd=>byt (IntKind.u8.wrap (48+d)))
def On (neg:Bool)(D:ε):ζ:=if D.length=0 then ofBytes [48] else (if neg then ofBytes [45] else ofBytes [])++VV D
def So (neg:Bool)(D:ε)(e:Int):ζ:=On neg D++ofBytes [101]++⟨(Lib.itoa e).toArray⟩
def Zg {s}{D}{g}{neg}{e}{n}(hw:WF h)(bl:BL h s D g):Wp (oI n (neg,s,e)) h λr h'=>r=LN D e/\Fr (λ_=>False) h h':=by
 unfold oI;refine (Z.start hw).new λx0 h1 z1 f1=>?_;have hl:=bl.len;refine z1.ld 0 ?_;unfold LN;by_cases h1:400<D.length
 .rw[By (by grind),By h1];exact af.2 ⟨rfl,z1.fr⟩
 rw[AT (by grind),AT h1];refine z1.ld 0 ?_;by_cases h2:e < -2000
 .rw[By (by grind),By h2];exact af.2 ⟨rfl,z1.fr⟩
 rw[AT (by grind),AT h2];refine z1.ld 0 ?_;by_cases h3:2000<e
 .rw[By (by grind),By h3];exact af.2 ⟨rfl,z1.fr⟩
 rw[AT (by grind),AT h3];exact af.2 ⟨rfl,z1.fr⟩
def acX {s}{neg}{e}{n}(hw:WF h):Wp (pK n (neg,s,e)) h λr h'=>r=(if neg then ofBytes [45] else ofBytes [])/\Fr (λ_=>False) h h':=by
 unfold pK;refine (Z.start hw).new λx0 h1 z1 f1=>?_;refine z1.ld 0 ?_;cases neg
 .exact af.2 ⟨rfl,z1.fr⟩
 .exact af.2 ⟨rfl,z1.fr⟩
def Pw (d:Int):Int:=IntKind.u8.wrap (48+d)
theorem Oo {s}{D:ε}{g b m}(hD:D.length<=65536):∀n i h ,D.length-i<n->i<=D.length->BL h s D g->g<=h0.next->Z h0 h (.ar b ((((D.map Pw).take i++List.replicate ((D.map Pw).length-i) 0)).map v8) gU::L) ->
  Wp (iN n ⟨some ⟨b,0,none⟩,D.length,m⟩ s (s.len:Int) (i:Int)) h λ_ h'=>Z h0 h' (.ar b ((D.map Pw).map v8) gU::L):=by
 intro n
 induction n with
 |zero=>intro i h h1;omega
 |succ n ih=>
  intro i h h1 h2 bl hg z;have hl:=bl.len;rw[wj];unfold mi;by_cases hi:i<D.length
  .rw[By (by grind)];obtain⟨d,hd⟩:=gG hi;refine vj.XH bl (by omega) (by simpa using hd) λa c=>c.tn rfl rfl ?_;refine Ji (by omega) (by omega) ?_;simp only[OF,adU];have hne:b+1≠g:=by
    have:=(z.own _ IS).2;simp only[bN.iL] at this;omega
   have l:LB h b _ _:=z.get 0 rfl;rw[ag];have hdm:(D.map Pw)[i]?=some (Pw d):=by grind
   have hst:=Z.CB z 0 (xs:=(D.map Pw).take i++List.replicate ((D.map Pw).length-i) 0) (k:=i) (Q:=λ_ h'=>Z h0 h' (.ar b ((((D.map Pw).take (i+1)++List.replicate ((D.map Pw).length-(i+1)) 0)).map v8) gU::L)) (by grind) (λh' z'=>af.2 (by rw[Ol hdm] at z';exact z'));have hfr:Wp (sU ⟨b,i,none⟩ [v8 (Pw d)]) h λ_ h'=>Fr (·=b+1) h h':=l.st z.wf (by grind) rfl λh' _ f=>f
   obtain⟨u,h5,e5,q5⟩:=hst;obtain⟨u2,h6,e6,q6⟩:=hfr;have e7:sU ⟨b,i,none⟩ [v8 (Pw d)] h=some ((),h5):=by
    unfold sh at e5;split at e5
    .rename_i hu;cases e5;exact hu
    grind
   rw[e7] at e6;cases e6;refine⟨(),h5,e7,?_⟩;rw[w3 (by omega) (by omega)];exact ih (i+1) h5 (by omega) (by omega) (vj.fr bl q6 λe=>absurd e.symm hne) hg q5
  .have hi:i=D.length:=by omega
   subst hi;rw[AT (by grind),af];have:(D.map Pw).take D.length++List.replicate ((D.map Pw).length-D.length) 0=D.map Pw:=by
    rw[agG (by simp)];simp
   grind
theorem Ih:∀l:ε,bytesOf (l.map v8)=some (l.map byt)
 |[]=>rfl
 |x::l=>by
  simp[abv,bytesOf];rw[Ih l];rfl
def Zh {b m}{xs:ε}(l:LB h b (xs.map v8) gU){f}(q:Wp (f (ofBytes (xs.map byt))) h Q):Wp (sh (strOf ⟨some ⟨b,0,none⟩,xs.length,m⟩) f) h Q:=by
 rw[ag];refine⟨ofBytes (xs.map byt),h,?_,q⟩;unfold strOf;have:aX h (some ⟨b,0,none⟩) xs.length=some (xs.map v8):=by
  unfold aX;simp only[l.get]
  grind
 grind [Ih]
theorem VW {s}{D}{g}{neg}{e}{n}(hw:WF h)(bl:BL h s D g)(hg:g<=h.next)(hD:D.length<=65536)(hn:D.length<n) :
  Wp (mY n (neg,s,e)) h λr h'=>r=VV D/\Fr (λ_=>False) h h':=by
 unfold mY;have hl:=bl.len;refine (Z.start hw).new λx0 h1 z1 f1=>?_;refine z1.ld 0 ?_;change Wp (sh (An none gU [v8 0] (s.len:Int) (s.len:Int)) _) _ _;refine z1.MH (by omega) (by grind [cQ]) λb h2 z2 f2=>?_;refine z2.ld 1 ?_;rw[ag];have e1:(List.replicate ((s.len:Int)).toNat [v8 0]).flatten=((((D.map Pw).take 0++List.replicate ((D.map Pw).length-0) 0)).map v8):=by
  simp_all
 rw[e1] at z2;have e2:((s.len:Int)).toNat=D.length:=by omega
 rw[e2];refine (Oo hD n 0 h2 (by omega) (by omega) ((bl.fr f1).fr f2) hg z2).mono λ_ h3 z3=>?_;have l:=z3.get 0 rfl;have:=Zh (m:=D.length+1) (f:=λx=>AI x) (Q:=λr h'=>r=VV D/\Fr (λ_=>False) h h') l (af.2 ⟨by unfold VV;rw[alf];rfl,z3.fr⟩)
 rwa [adR] at this
theorem acY {s}{D}{g}{neg}{e}{n}(hw:WF h)(bl:BL h s D g)(hg:g<=h.next)(hD:D.length<=65536)(hn:D.length<n) :
  Wp (pM n (neg,s,e)) h λr h'=>r=On neg D/\Fr (λ_=>False) h h':=by
 unfold pM On;have hl:=bl.len;refine (Z.start hw).new λx0 h1 z1 f1=>?_;refine z1.ld 0 ?_;by_cases h0:D.length=0
 .rw[By (by grind),By h0];exact af.2 ⟨rfl,z1.fr⟩
 rw[AT (by grind),AT h0];refine z1.fI 0 (x:=((neg,s,e):eC [.bool,.sl,li])) ?_;refine z1.fI 0 (x:=((neg,s,e):eC [.bool,.sl,li])) ?_;refine z1.Om 0 (acX z1.wf) λr h2 hr f2 z2=>?_;subst hr;refine z2.call (VW z2.wf ((bl.fr f1).fr f2) (abt hg (abt f1.next f2.next)) hD hn) λr h3 hr f3 z3=>?_
 subst hr
 try dsimp
 rw[ag,Lk];have hs:(VV D).size=D.length:=by show (D.map _).toArray.size=_;simp
 have hs2:(if neg=true then ofBytes [45] else ofBytes []).size<=1:=by cases neg<;>decide
 exact⟨by grind [cQ],af.2 ⟨rfl,z3.fr⟩⟩
def QI neg D:(On neg D).size<=D.length+1:=by
 unfold On;split
 .show [48].toArray.size<=_;simp
 .have hs:(VV D).size=D.length:=by show (D.map _).toArray.size=_;simp
  have hs2:(if neg=true then ofBytes [45] else ofBytes []).size<=1:=by cases neg<;>decide
  grind
def GM:∀m u ,u<10^m->0<m->Lib.nDigits u<=m:=by
 intro m
 induction m with
 |zero=>grind
 |succ m ih=>
  intro u hu _;rw[Lib.nDigits]
  grind
theorem Zi {e}(he:-2000<=e/\e<=2000):(Lib.itoa e).length<=5:=by
 unfold Lib.itoa;split
 .rw[aaH,Lib.decDigits_length];have:=GM 4 e.natAbs (by omega) (by omega);omega
 .rw[Lib.decDigits_length];have:=GM 4 e.toNat (by omega) (by omega);omega
def acZ {s}{D}{g}{neg}{e}{n}(hw:WF h)(bl:BL h s D g)(hg:g<=h.next)(hD:D.length<=65536)(hn:D.length<n)(he:-2000<=e/\e<=2000) :
  Wp (pO n (neg,s,e)) h λr h'=>r=So neg D e/\Fr (λ_=>False) h h':=by
 unfold pO;refine (Z.start hw).new λx0 h1 z1 f1=>?_;refine z1.fI 0 (x:=((neg,s,e):eC [.bool,.sl,li])) ?_;refine z1.ld 0 ?_;refine z1.Om 0 (acY z1.wf (bl.fr f1) (abt hg f1.next) hD hn) λr h2 hr f2 z2=>?_
 subst hr;have hc:=QI neg D
 try dsimp
 rw[ag,Lk];refine⟨by unfold cQ;have:(ofBytes [101]).size=1:=rfl;omega,?_⟩;unfold strconv_Itoa;rw[By (by omega),ag,af,ag,Lk];refine⟨?_,af.2 ⟨rfl,z2.fr⟩⟩;have h9:(⟨(Lib.itoa e).toArray⟩:ζ).size<=100:=by
  show (Lib.itoa e).toArray.size<=100
  grind [Zi]
 rw[akf];have:(ofBytes [101]).size=1:=rfl
 grind [cQ]
end
section
variable {α β:Type}{h h' h0:aj}{L:List bN}{Q:β->aj->Prop}
def ixb l c:(Lib.indexByte l c<0)\/∃i:Nat,Lib.indexByte l c=i/\l[i]?=some c:=by
 by_cases hneg:Lib.indexByte l c<0
 .grind
 .obtain⟨i,hi⟩:∃i:Nat,Lib.indexByte l c=i:=⟨(Lib.indexByte l c).toNat,by omega⟩;exact .inr ⟨i,hi,(Lib.indexByte_some hi).1⟩
theorem VX {s}(h:lg s=true):0<s.size:=by
 unfold lg at h;simp only[aaq,abb] at h;have h1:=h.1.1;by_cases h0:s.size=0
 .simp_all
 .omega
def xo (s:ζ)(i:Nat):ζ:=⟨(Lib.trimPrefix (s.extract 0 i).data.toList [45]).toArray⟩
def numOf (s:ζ)(i:Nat)(e:Int):Bool×ε×Int:=wN (s.data.toList.head?==some 45) (xQ (xo s i)) e
def aiO (N:Bool×ε×Int)(s:ζ):Bool:=decide (LN N.2.1 N.2.2=0)&&mM (So N.1 N.2.1 N.2.2) s
def Sp (s:ζ)(i:Nat)(e:Int):Bool:=aiO (numOf s i e) s
def zr (s:ζ):Bool:=
 if Lib.indexByte s.data.toList 101<0 then false
 else if lg (s.extract 0 (Lib.indexByte s.data.toList 101).toNat)=false then false
 else if 6<(s.size:Int)-Lib.indexByte s.data.toList 101 then false
 else match Lib.atoiAll (s.extract ((Lib.indexByte s.data.toList 101).toNat+1) s.size).data.toList with
  |.ok e=>Sp s (Lib.indexByte s.data.toList 101).toNat e
  |_=>false
def Zj {s}(h:Lib.indexByte s.data.toList 101<0):zr s=false:=by unfold zr;grind
def ac0 {s}{i:Nat}(h:Lib.indexByte s.data.toList 101=i):zr s=if lg (s.extract 0 i)=false then false else if 6<(s.size:Int)-(i:Int) then false else match Lib.atoiAll (s.extract (i+1) s.size).data.toList with
  |.ok e=>Sp s i e
  |_=>false:=by
 grind [zr]
def GN l p:(Lib.trimPrefix l p).length<=l.length:=by
 unfold Lib.trimPrefix
 grind
theorem Ii neg D e:(wN neg D e).2.1.length<=D.length:=by
 grind [wN,J4,stripL,Fk,List.length_reverse]
def amN {D}{e}(h:LN D e=0):-2000<=e/\e<=2000:=by
 grind [LN]
def LP {s}{n}(hs:s.size<=65536)(hw:WF h):Wp (strconv_Atoi n s) h λr h'=>(match Lib.atoiAll s.data.toList with | .ok v=>r=(v,.nilIface)|_=>∃t u,r.2=.iface t u)/\Fr (λ_=>False) h h':=by
 unfold strconv_Atoi;rw[By (by omega)];cases e:Lib.atoiAll s.data.toList with
 |ok v=>exact af.2 ⟨rfl,Fr.refl hw⟩
 |range=>
  show Wp (zU _) h _;unfold zU;rw[ag];exact LJ λh' f=>af.2 ⟨⟨_,_,rfl⟩,f hw⟩
 |_=>
  show Wp (zU 0) h _;unfold zU;rw[ag];exact LJ λh' f=>af.2 ⟨⟨_,_,rfl⟩,f hw⟩
def yr {f}{v}(hv:v=.nilIface)(q:Wp (f true) h Q):Wp (sh (kL v) f) h Q:=by
 rw[ag,JV];grind
def Bh {f}{v}(hv:∃t u,v=.iface t u)(q:Wp (f false) h Q):Wp (sh (kL v) f) h Q:=by
 obtain⟨t,u,hv⟩:=hv;rw[ag,JV];grind
def _root_.Go.Ago.Z.BA (z:Z h0 h L)(i:Nat){b o:Nat}{cs vs cs':δ}{e:μ}{f:Unit->M β}{Q:β->aj->Prop}
  (q:∀h',Z h0 h' (L.set i (.ar b cs' e))->Fr (·=b+1) h h'->Wp (f ()) h' Q) (hi:L[i]?=some (.ar b cs e):=by rfl) (hc:aV cs o vs=cs':=by rfl) (ho:o+vs.length<=cs.length:=by first|decide|simp) (hs:vs.all fE=true:=by rfl) :
  Wp (sh (sU ⟨b,o,none⟩ vs) f) h Q:=by
 rw[ag];have l:LB h b cs e:=z.get i hi;refine l.st z.wf ho hs λh' l' fr=>q h' (z.vN hi (by simp[bN.iL]) fr ?_ (.inl rfl)) fr;rw[<-hc];exact l'
def zu (z:Z h0 h L)(i:Nat){b}{cs}{e}{neg}{s}{v}{r:Bool}(hi:L[i]?=some (.ar b cs e))(hc:cs.length=3) :
  Wp (sh (sU ⟨b,0,none⟩ [.bool neg,aC s,vi v]) λ_=>sh (bY [.bool,.sl,li] ⟨b,0,none⟩) λ(y:Bool×Sl×Int)=>AI ((y.1,y.2.1,y.2.2),r)) h λx h'=>x.2=r/\Fr (λ_=>False) h0 h'/\x.1=(neg,s,v)/\Fr (·=b+1) h h':=by
 have hsp:aV cs 0 [.bool neg,aC s,vi v]=[.bool neg,aC s,vi v]:=by
  unfold aV;simp[hc]
 refine z.BA i (λh1 z1 f1=>?_) hi hsp (by simp[hc]);have hi1:(L.set i (.ar b [.bool neg,aC s,vi v] e))[i]?=some (.ar b [.bool neg,aC s,vi v] e):=by
  grind
 refine z1.fI i (x:=((neg,s,v):eC [.bool,.sl,li])) ?_ hi1;exact af.2 ⟨rfl,z1.fr,rfl,f1⟩
theorem Dn (s:ζ) a b:(s.extract a b).size<=s.size:=by simp;omega
def Gz (N:Bool×ε×Int)(h':aj)(x:Bool×Sl×Int):Prop:=x.1=N.1/\x.2.2=N.2.2/\N.2.1.length<=65536/\∃g,g<=h'.next/\BL h' x.2.1 N.2.1 g
def qZ (s:ζ):Bool×ε×Int:=match Lib.atoiAll (s.extract ((Lib.indexByte s.data.toList 101).toNat+1) s.size).data.toList with
 |.ok e=>numOf s (Lib.indexByte s.data.toList 101).toNat e
 |_=>(false,[],0)
theorem vj.put {s}{cs}{g k n}{e}{c}(r:vj h s 1 cs g)(f:EV h k):vj (h.di k n e c) s 1 cs g:=
 ⟨r.1,r.2.imp (λx=>x) λ⟨a,h1,h2,c,b,e,h3,h4⟩=>⟨a,h1,h2,c,b,e,(iC λx=>by rw[x,f.2.2] at h3;cases h3).trans h3,h4⟩⟩
def ac1 {s:ζ}{i n a1}(hs:s.size<=65536)(hn:s.size+1<n)(hi:i<s.size)(hpos:0<i)(z:Z h0 h [.ar a1 [.bool false,aI,vi 0] bz]) :
  Wp (qK n s (ak a1) (i:Int)) h λx h'=>(x.2=match Lib.atoiAll (s.extract (i+1) s.size).data.toList with | .ok e=>Sp s i e|_=>false)/\Fr (λ_=>False) h0 h'/\(x.2=true->Gz (match Lib.atoiAll (s.extract (i+1) s.size).data.toList with | .ok e=>numOf s i e|_=>(false,[],0)) h' x.1):=by
 unfold qK;rw[tC (by omega) (by omega),ag,gH];refine⟨by omega,by omega,by omega,?_⟩;rw[show (((i:Int)+1).toNat)=i+1 by omega,OF];have hsz:(s.extract (i+1) s.size).size<=65536:=by simp;omega
 refine z.call (LP hsz z.wf) λr h1 hr f1 z1=>?_;cases e:Lib.atoiAll (s.extract (i+1) s.size).data.toList with
 |range=>
  rw[e] at hr;refine Bh hr ?_;rw[By (show (!false)=true from rfl)];exact (zu (s:=pY) z1 0 rfl rfl).mono λx h' hx=>⟨hx.1,hx.2.1,λe=>by grind⟩
 |ok v=>
  rw[e] at hr;simp at hr;subst hr;refine yr rfl ?_;show Wp (sh (iE s 0 (i:Int)) _) h1 _;rw[ag,gH];refine⟨by omega,by omega,by omega,?_⟩;rw[OF];unfold strings_TrimPrefix;rw[ag,af];have ec:(⟨(Lib.trimPrefix (s.extract (0:Int).toNat i).data.toList (ofBytes [45]).data.toList).toArray⟩:ζ)=xo s i:=rfl;rw[ec];have hcs:(xo s i).size<=s.size:=by
   show (Lib.trimPrefix (s.extract 0 i).data.toList [45]).toArray.size<=_;have h1:=GN (s.extract 0 i).data.toList [45];have h2:(s.extract 0 i).data.toList.length<=s.size:=Dn s 0 i
   grind
  refine z1.eE [7] (by decide) (by simp) λkb h2 z2=>?_;have hfr:EV h2 (kb+7):=z2.get 0 rfl;obtain⟨c0,hc0⟩:∃c0,s[0]?=some c0:=⟨s[0]'(by omega),by grind⟩;rw[ag,fQ];refine⟨c0,by omega,hc0,?_⟩;have hdl:(xQ (xo s i)).length=(xo s i).size:=by unfold xQ;simp_all
  refine ag.2 ((Zf z2 (by omega) (by omega)).mono λx h4 hx=>?_);obtain⟨b2,rfl,z4⟩:=hx;have hk4:EV h4 (kb+7):=z4.get 1 rfl;have hk4:=hk4.2.1;rw[<-hdl];refine ag.2 ((acW z4 (by omega) (by omega) _ v).mono λr h5 hr=>?_);obtain⟨r1,r2,z5,g,bl,hg2,hg3⟩:=hr;have ha1:a1<h4.next:=LB.lt (z4.get 2 rfl) z4.wf
  have eneg:decide ((c0.toNat:Int)=45)=(s.data.toList.head?==some 45):=by
   rw[zq] at hc0;rw[am3,hc0];by_cases hq:c0=45
   .simp_all
   .have:¬((c0.toNat:Int)=45):=λe=>hq (UInt8.toNat_inj.1 (by grind))
    grind
  rw[eneg] at r1 r2 bl;obtain⟨neg,sl,ee⟩:=r;simp at r1 r2 bl;rw[show wN (s.data.toList.head?==some 45) (xQ (xo s i)) v=numOf s i v from rfl] at r1 r2 bl;subst r1;subst r2;have hDl:(numOf s i v).2.1.length<=65536:=by
   grind [Ii,xQ,xo,numOf]
  have hDn:(numOf s i v).2.1.length<n:=by
   grind [Ii,xQ,xo,numOf]
  show Wp _ _ λ(x:(Bool×Sl×Int)×Bool) h'=>x.2=aiO (numOf s i v) s/\Fr (λ_=>False) h0 h'/\(x.2=true->Gz (numOf s i v) h' x.1);generalize numOf s i v=N at bl hDl hDn⊢;obtain⟨N1,N2,N3⟩:=N;have hf:EV h5 (kb+7):=z5.get 0 rfl;have hg:g≠kb+7+1:=by omega
  rw[ag,NU];refine⟨rfl,hf.1,hf.2.1,hf.2.2,?_⟩;have z5:=z5.put (i:=0) rfl (e:=bz) (cs:=[.bool false,aI,vi 0])
  replace bl:=vj.put bl hf (n:=h5.next) (e:=bz) (c:=[.bool false,aI,vi 0])
  refine z5.BA 0 (cs':=[.bool N1,aC sl,vi N3]) (λh6 z6 f6=>?_);have bl:BL h6 sl N2 g:=vj.fr bl f6 λe=>absurd e hg;have hg6:g<=h6.next:=abt hg2 f6.next
  refine z6.fI 0 (x:=((N1,sl,N3):eC [.bool,.sl,li])) ?_;refine z6.fI 0 (x:=((N1,sl,N3):eC [.bool,.sl,li])) ?_;refine z6.Om 0 (Zg z6.wf bl) λr h7 hr f7 z7=>?_;subst hr;show Wp _ _ λ(x:(Bool×Sl×Int)×Bool) h'=>x.2=(decide (LN N2 N3=0)&&mM (So N1 N2 N3) s)/\Fr (λ_=>False) h0 h'/\(x.2=true->Gz (N1,N2,N3) h' x.1);by_cases hl:LN N2 N3=0
  .rw[By (by grind)];refine z7.fI 0 (x:=((N1,sl,N3):eC [.bool,.sl,li])) ?_;refine z7.Om 0 (acZ z7.wf (bl.fr f7) (abt hg6 f7.next) hDl hDn (amN hl)) λr h8 hr f8 z8=>?_
   subst hr;rw[anZ hl,am5];exact (zu z8 1 rfl rfl).mono λx h' hx=>⟨hx.1,hx.2.1,λ_=>by
    obtain⟨_,_,e,f9⟩:=hx;rw[e];exact⟨rfl,rfl,hDl,g,abt hg6 (abt f7.next (abt f8.next f9.next)),vj.fr ((bl.fr f7).fr f8) f9 λe=>by omega⟩⟩
  .rw[AT (by grind)];rw[anQ hl,anW];exact (zu z7 1 rfl rfl).mono λx h' hx=>⟨hx.1,hx.2.1,λe=>by grind⟩
 |_=>
  rw[e] at hr;refine Bh hr ?_;rw[By (show (!false)=true from rfl)];exact (zu (s:=pY) z1 0 rfl rfl).mono λx h' hx=>⟨hx.1,hx.2.1,λe=>by grind⟩
def vf {s}{n}(hs:s.size<=65536)(hn:s.size+1<n)(hw:WF h):Wp (pP n s) h λx h'=>x.2=zr s/\Fr (λ_=>False) h h'/\(x.2=true->Gz (qZ s) h' x.1):=by
  unfold pP;refine (Z.start hw).new λx0 h1 z1 f1=>?_;unfold strings_IndexByte;rw[ag,af];rw[show (101:Int).toNat.toUInt8=(101:UInt8) from rfl];rcases ixb s.data.toList 101 with hneg|⟨i,hi,hc⟩
  .rw[By (by grind),Zj hneg];exact (zu (s:=pY) z1 0 rfl rfl).mono λx h' hx=>⟨hx.1,hx.2.1,λe=>by grind⟩
  .have hlt:i<s.size:=(List.getElem?_eq_some_iff.1 hc).1;rw[ac0 hi,hi,AT (by simp),ag,gH];refine⟨by omega,by omega,by omega,?_⟩;rw[OF,show (0:Int).toNat=0 from rfl];have hes:=Dn s 0 i;refine z1.call (yp (by omega) (by omega) z1.wf) λr h2 hr f2 z2=>?_;subst hr;cases hok:lg (s.extract 0 i) with
   |false=>
    rw[By (show (false=false) from rfl),By (show (!false)=true from rfl)];exact (zu (s:=pY) z2 0 rfl rfl).mono λx h' hx=>⟨hx.1,hx.2.1,λe=>by grind⟩
   |true=>
    have hp:=VX hok;have hip:0<i:=by
     have:(s.extract 0 i).size=min i s.size:=(by simp);omega
    rw[AT (show ¬(true=false) by decide),AT (show ¬((!true)=true) by decide),tC (by omega) (by omega)];by_cases h6:6<(s.size:Int)-(i:Int)
    .rw[By (by grind),By h6];exact (zu (s:=pY) z2 0 rfl rfl).mono λx h' hx=>⟨hx.1,hx.2.1,λe=>by grind⟩
    .rw[AT (by grind),AT h6];refine (ac1 hs hn hlt hip z2).mono λx h' hx=>?_
     grind [qZ,Int.toNat_natCast]
def Fm {s}{n}(hs:s.size<=65536)(hn:s.size+1<n)(hw:WF h):Wp (ur n s) h λx h'=>x=zr s/\Fr (λ_=>False) h h':=by
 unfold ur;rw[ag];refine (vf hs hn hw).mono λx h1 hx=>?_;have z1:=(Z.start hw).pure hx.2.1;refine z1.new λb h2 z2 f2=>?_;refine z2.st 0 (cs':=[.bool x.1.1,aC x.1.2.1,vi x.1.2.2]) λh3 z3=>?_;exact af.2 ⟨hx.1,z3.fr⟩
end
end Go.Sh
