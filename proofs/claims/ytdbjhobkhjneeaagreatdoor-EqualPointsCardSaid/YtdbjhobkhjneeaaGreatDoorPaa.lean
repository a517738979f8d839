
import Derived.Test.YtdbjhobkhjneeaaGreatDoorBi
import Derived.Test.YtdbjhobkhjneeaaGreatDoorGi
set_option linter.all false
namespace Go.Sh
open Go Go.Ago Go.Proofs
section
variable {α β:Type}{h h' h0:aj}{L:List bJ}{Q:β->aj->Prop}
def stripR:ε->Int->ε×Int
 |[],e=>([],e)
 |x::r,e=>if x=0 then stripR r (IntKind.i64.wrap (e+1)) else ((x::r).reverse,e)
def stripL:ε->ε
 |[]=>[]
 |x::r=>if x=0 then stripL r else x::r
def wP (neg:Bool)(D:ε)(e:Int):Bool×ε×Int:=
 if (stripR (stripL D).reverse e).1.length=0 then (false,[],0) else (neg,(stripR (stripL D).reverse e).1,(stripR (stripL D).reverse e).2)
theorem Ft:∀D:ε,(stripL D).length<=D.length
 |[]=>aa2 _
 |x::r=>by
  unfold stripL;split
  .have:=Ft r;grind
  grind
theorem Kh:∀D e ,(stripR D e).1.length<=D.length
 |[],e=>aa2 _
 |x::r,e=>by
  unfold stripR;split
  .have:=Kh r (IntKind.i64.wrap (e+1));grind
  .simp
def BL (h:aj)(s:Sl)(xs:ε)(g:Nat):Prop:=rY h s 1 (xs.map v8) g
theorem OD {γ:Type}{D:List γ}{z d}{i}(hd:D[i]?=some d):(D.take i++List.replicate (D.length-i) z).set i d=D.take (i+1)++List.replicate (D.length-(i+1)) z:=by
 have hlt:=(List.getElem?_eq_some_iff.1 hd).1;have hl:(D.take i).length=i:=by grind
 obtain⟨m,hm⟩:∃m,D.length-i=m+1:=⟨D.length-i-1,by omega⟩;rw[hm,ak0,alj _ _ (by omega),hl,amf,akB,aoc,hd,show D.length-(i+1)=m by omega];simp
theorem Q3 {s}{b}(hs:s.size<=65536):∀n i h ,s.size-i<n->i<=s.size->Z h0 h (.au b (((xV s).take i++List.replicate ((xV s).length-i) 0).map v8) gT::L) ->
  Wp (mm n s ⟨some ⟨b,0,none⟩,s.size,s.size+1⟩ (s.size:Int) (i:Int)) h λ_ h'=>Z h0 h' (.au b ((xV s).map v8) gT::L):=by
 have hl:(xV s).length=s.size:=by grind [xV,List.length_map,mW]
 intro n
 induction n with
 |zero=>intro i h h1;omega
 |succ n ih=>
  intro i h h1 h2 z;rw[Ab];unfold qY;refine EX.2 ⟨(λhc=>?_),λhc=>?_⟩
  .have hi:i<s.size:=by grind
   obtain⟨c,hc1⟩:∃c,s[i]?=some c:=⟨s[i],by simp[hi]⟩;have hd:(xV s)[i]?=some (Bj c):=by
    grind [xV,zu]
   rw[ag,fM];refine⟨c,by omega,by grind,Jr (by omega) (by omega) ?_⟩;simp;refine Z.CH z 0 (enc:=v8) (xs:=(xV s).take i++List.replicate ((xV s).length-i) 0) (v:=Bj c) (by grind) λh' z'=>?_;rw[OD hd] at z';rw[wX (by omega) (by omega)];exact ih (i+1) h' (by omega) (by omega) z'
  .have hi:i=s.size:=by grind
   refine af.2 ?_;rw[hi,<-hl] at z
   grind
theorem ZE (z:Z h0 h L){s}{n}(hs:s.size<=65536)(hn:s.size<n):Wp (uw n s) h λx h'=>∃b,x=⟨some ⟨b,0,none⟩,s.size,s.size+1⟩/\Z h0 h' (.au b ((xV s).map v8) gT::L):=by
 unfold uw;have hl:(xV s).length=s.size:=by grind [xV,List.length_map,mW]
 refine z.MW (by omega) (by grind [cP]) λb h' z1 _=>?_;have e1:(List.replicate s.size [v8 0]).flatten=((xV s).take 0++List.replicate ((xV s).length-0) 0).map v8:=by
  simp_all
 simp only[OF] at z1⊢;rw[e1] at z1;exact ag.2 ((Q3 hs n 0 _ (by omega) (by omega) z1).mono λ_ h' z2=>af.2 ⟨b,rfl,z2⟩)
theorem SQ (z:Z h0 h L)(i:Nat){b o m c}{xs:ε}{j}{x}(hi:L[i]?=some (.au b (xs.map v8) gT))(hx:((xs.drop o).take m)[j.toNat]?=some x)(h1:0<=j){f:Int->M β}(q:Wp (f x) h Q) :
  Wp (sh (mc ⟨some ⟨b,o,none⟩,m,c⟩ j 1) λa=>sh (eU (.int .u8) a) f) h Q:=by
 have hlt:=(List.getElem?_eq_some_iff.1 hx).1;rw[akq] at hlt;have l:LB h b (xs.map v8) gT:=z.get i hi;rw[ag,BB];refine⟨_,rfl,h1,by grind,?_⟩;rw[ag,xE];refine⟨x,?_,q⟩;refine l.ld (v:=v8 x) ?_ rfl;rw[anb,aj0] at hx;split at hx
 .simp only[Addr.plus,aes]
  grind
 grind
theorem SR (z:Z h0 h L)(i:Nat){b o m c:Nat}{xs:ε}{lo hi:Int}(hL:L[i]?=some (.au b (xs.map v8) gT))(h1:0<=lo)(h2:lo<=hi)(h3:hi<=m){f}
  (q:∀c',Wp (f ⟨some ⟨b,o+lo.toNat,none⟩,hi.toNat-lo.toNat,c'⟩) h Q):Wp (sh (mY ⟨some ⟨b,o,none⟩,m,c⟩ lo hi gT 1) f) h Q:=by
 have l:LB h b (xs.map v8) gT:=z.get i hL;rw[ag];refine EY h1 h2 (by grind) (by simp[qh,l.get]) ?_;simp[aku,Addr.plus,aes];exact q _
theorem ac9 (z:Z h0 h L)(i:Nat){b}{xs:ε}(hL:L[i]?=some (.au b (xs.map v8) gT)) neg e a3:∀n o m c ,m<n->o+m<=xs.length ->
  Wp (nT n neg ⟨some ⟨b,o,none⟩,m,c⟩ e a3) h λr h'=>h'=h/\∃o' m' c',r=⟨some ⟨b,o',none⟩,m',c'⟩/\o'+m'<=xs.length/\(xs.drop o').take m'=stripL ((xs.drop o).take m):=by
 intro n
 induction n with
 |zero=>intro o m c h1;omega
 |succ n ih=>
  intro o m c h1 h2;rw[AO];unfold sr;refine EX.2 ⟨(λhc=>?_),λhc=>?_⟩
  .have hm:0<m:=by grind
   obtain⟨m,rfl⟩:∃m',m=m'+1:=⟨m-1,by omega⟩;obtain⟨x,hx⟩:∃x,xs[o]?=some x:=⟨xs[o],abt (by omega)⟩;have hd:(xs.drop o).take (m+1)=x::(xs.drop (o+1)).take m:=by
    rw[drop_cons hx,List.take_succ_cons]
   refine SQ z i hL (by rw[hd];rfl) (by omega) ?_;rw[hd];refine EX.2 ⟨(λh0=>?_),λh0=>?_⟩
   .have h0:x=0:=(by grind);refine SR z i hL (by omega) (by grind) (by grind) λc'=>?_;rw[show o+(1:Int).toNat=o+1 from rfl,show ((((⟨some ⟨b,o,none⟩,m+1,c⟩:Sl).len:Nat):Int).toNat-(1:Int).toNat)=m by simp];refine (ih (o+1) m c' (by omega) (by omega)).mono λr h' hr=>?_;obtain⟨r1,o',m',c2,r2,r3,r4⟩:=hr;refine⟨r1,o',m',c2,r2,r3,?_⟩;rw[r4,stripL,By h0]
   .have h0:¬x=0:=(by grind);exact af.2 ⟨rfl,o,m+1,c,rfl,h2,by rw[hd,stripL,AT h0]⟩
  .have hm:m=0:=by grind
   subst hm;exact af.2 ⟨rfl,o,0,c,rfl,h2,by simp[stripL]⟩
theorem ada (z:Z h0 h L)(i:Nat){b}{xs:ε}(hL:L[i]?=some (.au b (xs.map v8) gT))(hxs:xs.length<=65536) neg a3:∀n o m c e ,m<n->o+m<=xs.length ->
  Wp (nS n neg ⟨some ⟨b,o,none⟩,m,c⟩ e a3) h λr h'=>h'=h/\∃m' c',r.1=⟨some ⟨b,o,none⟩,m',c'⟩/\o+m'<=xs.length/\stripR ((xs.drop o).take m).reverse e=((xs.drop o).take m',r.2):=by
 intro n
 induction n with
 |zero=>intro o m c e h1;omega
 |succ n ih=>
  intro o m c e h1 h2;rw[AN];unfold sq;refine EX.2 ⟨(λhc=>?_),λhc=>?_⟩
  .have hm:0<m:=by grind
   obtain⟨m,rfl⟩:∃m',m=m'+1:=⟨m-1,by omega⟩;obtain⟨x,hx⟩:∃x,xs[o+m]?=some x:=⟨xs[o+m],abt (by omega)⟩;have hx2:(xs.drop o)[m]?=some x:=by grind
   have hd:(xs.drop o).take (m+1)=(xs.drop o).take m++[x]:=by grind [List.take_succ]
   have ew:IntKind.i64.wrap ((((⟨some ⟨b,o,none⟩,m+1,c⟩:Sl).len:Nat):Int)-1)=(m:Int):=by
    grind [tH]
   rw[ew];refine SQ z i hL (x:=x) (by grind [Int.toNat_natCast,List.getElem?_append_right,List.length_take,List.length_drop,min]) (by omega) ?_;rw[hd,List.reverse_append,List.reverse_singleton,aob];refine EX.2 ⟨(λh0=>?_),λh0=>?_⟩
   .have h0:x=0:=(by grind);refine SR z i hL (by omega) (by omega) (by omega) λc'=>?_;rw[show o+(0:Int).toNat=o from rfl,show ((m:Int).toNat-(0:Int).toNat)=m by simp];refine (ih o m c' _ (by omega) (by omega)).mono λr h' hr=>?_;obtain⟨r1,m',c2,r2,r3,r4⟩:=hr;refine⟨r1,m',c2,r2,r3,?_⟩;rw[stripR,By h0];exact r4
   .have h0:¬x=0:=(by grind);refine af.2 ⟨rfl,m+1,c,rfl,h2,?_⟩;rw[stripR,AT h0,hd];simp
  .have hm:m=0:=by grind
   subst hm;exact af.2 ⟨rfl,0,c,rfl,h2,by simp[stripR]⟩
def Wg (z:Z h0 h L){e}{cs}{f}(q:∀h',Z h0 h' (.au h.next cs e::L)->h'.next=h.next+1->Wp (f h.next) h' Q)(hs:cs.all fC=true:=by rfl):Wp (sh (iB none e cs) f) h Q:=by
 rw[ag,CL];exact⟨hs,q _ (z.add (Fr.new z.wf) LB.new (.inr (agS _))) rfl⟩
theorem mkN (z:Z h0 h L){m:Nat}{f}(hm:m<=65536)(q:∀h',Z h0 h' (.au h.next (List.replicate m (v8 0)) gT::L)->Wp (f ⟨some ⟨h.next,0,none⟩,m,m+1⟩) h' Q):Wp (sh (Ap none gT [v8 0] (m:Int) (m:Int)) f) h Q:=by
 rw[ag];refine Qu (by omega) (agE _) (by grind [cP]) (q _ ?_);have z1:=z.add (Fr.new (e:=gT) (cs:=(List.replicate m [v8 0]).flatten) z.wf) (o:=.au h.next _ gT) LB.new (.inr (agS _))
 simp_all
theorem ale (z:Z h0 h L)(i j:Nat){b b2 o m c}{xs:ε}{f}(hi:L[i]?=some (.au b2 (List.replicate m (v8 0)) gT))(hj:L[j]?=some (.au b (xs.map v8) gT))(hm:0<m)(ho:o+m<=xs.length)
  (q:∀h',Z h0 h' (L.set i (.au b2 (((xs.drop o).take m).map v8) gT))->Wp (f m) h' Q):Wp (sh (JS ⟨some ⟨b2,0,none⟩,m,m+1⟩ ⟨some ⟨b,o,none⟩,m,c⟩ 1) f) h Q:=by
 have l:LB h b (xs.map v8) gT:=z.get j hj;have hl:(((xs.drop o).take m).map v8).length=m:=by grind
 have hcell:aW h (some ⟨b,o,none⟩) (Nat.min m m*1)=some (((xs.drop o).take m).map v8):=by
  unfold aW;simp only[l.get]
  simp_all
 obtain⟨x,h1,e1,q1⟩:=Z.st z i (f:=AI) (Q:=λ_ h'=>Z h0 h' (L.set i (.au b2 (((xs.drop o).take m).map v8) gT)))
  (λh' z'=>af.2 z') hi (by unfold aU;rw[aeq,hl];simp) (by grind) (by rw[List.all_map,akg];intro x _;rfl)
 refine ag.2 ⟨m,h1,?_,q h1 q1⟩;have e3:rE ⟨b2,0,none⟩ (((xs.drop o).take m).map v8) h=some ((),h1):=by
  unfold sh at e1;split at e1
  .rename_i u h5 hu;cases e1;exact hu
  .cases e1
 grind [JS]
theorem adb {b n c}{xs}(z:Z h0 h (.au b (xs.map v8) gT::L))(hx:xs.length<=65536)(hn:xs.length<n) neg e :
  Wp (vD n neg ⟨some ⟨b,0,none⟩,xs.length,c⟩ e) h λr h'=>r.1=(wP neg xs e).1/\r.2.2=(wP neg xs e).2.2/\Z h0 h' L/\∃g,BL h' r.2.1 (wP neg xs e).2.1 g/\g<=h'.next/\(g=0\/h.next<g):=by
 unfold vD;refine Wg z λh1 z1 n1=>?_;refine ag.2 ((ac9 z1 1 rfl neg e _ n 0 xs.length c hn (by omega)).mono λr h' hr=>?_);obtain⟨hh,o,m,c',rfl,hom,e1⟩:=hr;have hh:=hh.symm;subst hh;rw[ajb,amT] at e1;have hm:=Ft xs;rw[<-e1,akq,amS] at hm;refine ag.2 ((ada z1 1 rfl hx neg _ n o m c' e (by omega) hom).mono λr h' hr=>?_);obtain⟨hh,m2,c2,e2,hom2,e3⟩:=hr;have hh:=hh.symm;subst hh;obtain⟨sl,ee⟩:=r;simp at e2 e3;subst e2;rw[e1] at e3;have e4:(stripR (stripL xs).reverse e).1=(xs.drop o).take m2:=by rw[e3]
 have e5:(stripR (stripL xs).reverse e).2=ee:=by rw[e3]
 have el:((xs.drop o).take m2).length=m2:=by grind
 refine EX.2 ⟨(λhc=>?_),λhc=>?_⟩
 .have hm0:m2=0:=by grind
  have en:wP neg xs e=(false,[],0):=by unfold wP;grind
  refine z1.st 0 (cs':=[.bool false,aI,vi 0]) λh2 z2=>?_;refine z2.fH 0 (x:=((false,pH,0):cF [.bool,.sl,li])) (af.2 ?_);rw[en];exact⟨rfl,rfl,z2.drop.drop,0,rY.nil rfl,alm _,.inl rfl⟩
 .have hm0:0<m2:=by grind
  have en:wP neg xs e=(neg,(xs.drop o).take m2,ee):=by grind [wP]
  refine mkN (m:=m2) z1 (by omega) λh2 z2=>?_;refine ale z2 0 2 rfl rfl hm0 hom2 λh3 z3=>?_;refine z3.st 1 (cs':=[.bool neg,.slice (some ⟨h1.next,0,none⟩) m2 (m2+1),vi ee]) λh4 z4=>?_
  refine z4.fH 1 (af.2 ?_);rw[en];have l:LB h4 h1.next (((xs.drop o).take m2).map v8) gT:=z4.get 0 rfl
  exact⟨rfl,rfl,z4.drop.drop.drop,h1.next+1,l.Jf (by grind),LB.lt l z4.wf,.inr (by omega)⟩
end
section
variable {α β:Type}{h h' h0:aj}{L:List bJ}{Q:β->aj->Prop}
def _root_.Go.Ago.Z.OE (z:Z h0 h L)(i:Nat){b:Nat}{a:Addr}{cs:δ}{e:μ}{m:M α}{f:α->M β}{P:α->Prop}(hm:Wp m h λr h'=>P r/\Fr (λ_=>False) h h')
  (q:∀r h',P r->Fr (λ_=>False) h h'->Z h0 h' L->Wp (f r) h' Q) (hi:L[i]?=some (.au b cs e):=by rfl) (ha:a.block=b:=by rfl):Wp (sh (Ago.uC [some a] m) f) h Q:=by
 rw[ag];have l:LB h b cs e:=z.get i hi;refine CN (hm.mono λr h' hp=>⟨λa' hma=>?_,q r h' hp.1 hp.2 (z.pure hp.2)⟩);simp at hma;subst hma;rw[ha,l.get];exact hp.2.cells _ _ _ _ _ l.get λx=>x.elim
def BL.fr {s}{D}{g}(b:BL h s D g)(f:Fr (λ_=>False) h h'):BL h' s D g:=rY.fr b f λx=>x.elim
theorem BL.len {s}{D}{g}(b:BL h s D g):s.len=D.length:=rY.Jq (enc:=v8) b
def L4 (D:ε)(e:Int):Int:=if 400<D.length then 6 else if e < -2000 then 2 else if 2000<e then 2 else 0
def byt (x:Int):UInt8:=UInt8.ofNat x.toNat
def Wh (D:ε):ζ:=ofBytes (D.map λd=>byt (IntKind.u8.wrap (48+d)))
def OH (neg:Bool)(D:ε):ζ:=if D.length=0 then ofBytes [48] else (if neg then ofBytes [45] else ofBytes [])++Wh D
def SS (neg:Bool)(D:ε)(e:Int):ζ:=OH neg D++ofBytes [101]++⟨(Lib.itoa e).toArray⟩
theorem ZF {s}{D}{g}{neg}{e}{n}(hw:WF h)(bl:BL h s D g):Wp (oM n (neg,s,e)) h λr h'=>r=L4 D e/\Fr (λ_=>False) h h':=by
 unfold oM;refine (Z.start hw).new λx0 h1 z1 f1=>?_;have hl:=bl.len;refine z1.ld 0 ?_;unfold L4;by_cases h1:400<D.length
 .rw[By (by grind),By h1];exact af.2 ⟨rfl,z1.fr⟩
 rw[AT (by grind),AT h1];refine z1.ld 0 ?_;by_cases h2:e < -2000
 .rw[By (by grind),By h2];exact af.2 ⟨rfl,z1.fr⟩
 rw[AT (by grind),AT h2];refine z1.ld 0 ?_;by_cases h3:2000<e
 .rw[By (by grind),By h3];exact af.2 ⟨rfl,z1.fr⟩
 rw[AT (by grind),AT h3];exact af.2 ⟨rfl,z1.fr⟩
def ade {s}{neg}{e}{n}(hw:WF h):Wp (pR n (neg,s,e)) h λr h'=>r=(if neg then ofBytes [45] else ofBytes [])/\Fr (λ_=>False) h h':=by
 unfold pR;refine (Z.start hw).new λx0 h1 z1 f1=>?_;refine z1.ld 0 ?_;cases neg
 .exact af.2 ⟨rfl,z1.fr⟩
 .exact af.2 ⟨rfl,z1.fr⟩
def PU (d:Int):Int:=IntKind.u8.wrap (48+d)
theorem OI {s}{D:ε}{g b m}(hD:D.length<=65536):∀n i h ,D.length-i<n->i<=D.length->BL h s D g->g<=h0.next->Z h0 h (.au b ((((D.map PU).take i++List.replicate ((D.map PU).length-i) 0)).map v8) gT::L) ->
  Wp (iN n ⟨some ⟨b,0,none⟩,D.length,m⟩ s (s.len:Int) (i:Int)) h λ_ h'=>Z h0 h' (.au b ((D.map PU).map v8) gT::L):=by
 intro n
 induction n with
 |zero=>intro i h h1;omega
 |succ n ih=>
  intro i h h1 h2 bl hg z;have hl:=bl.len;rw[wq];unfold mr;by_cases hi:i<D.length
  .rw[By (by grind)];obtain⟨d,hd⟩:=gS hi;refine rY.X7 bl (by omega) (by simpa using hd) λa c=>c.tC rfl rfl ?_;refine Jr (by omega) (by omega) ?_;simp only[OF,aes];have hne:b+1≠g:=by
    have:=(z.own _ IS).2;simp only[bJ.iL] at this;omega
   have l:LB h b _ _:=z.get 0 rfl;rw[ag];have hdm:(D.map PU)[i]?=some (PU d):=by grind
   have hst:=Z.CH z 0 (xs:=(D.map PU).take i++List.replicate ((D.map PU).length-i) 0) (k:=i) (Q:=λ_ h'=>Z h0 h' (.au b ((((D.map PU).take (i+1)++List.replicate ((D.map PU).length-(i+1)) 0)).map v8) gT::L)) (by grind) (λh' z'=>af.2 (by rw[OD hdm] at z';exact z'));have hfr:Wp (rE ⟨b,i,none⟩ [v8 (PU d)]) h λ_ h'=>Fr (·=b+1) h h':=l.st z.wf (by grind) rfl λh' _ f=>f
   obtain⟨u,h5,e5,q5⟩:=hst;obtain⟨u2,h6,e6,q6⟩:=hfr;have e7:rE ⟨b,i,none⟩ [v8 (PU d)] h=some ((),h5):=by
    unfold sh at e5;split at e5
    .rename_i hu;cases e5;exact hu
    grind
   rw[e7] at e6;cases e6;refine⟨(),h5,e7,?_⟩;rw[wX (by omega) (by omega)];exact ih (i+1) h5 (by omega) (by omega) (rY.fr bl q6 λe=>absurd e.symm hne) hg q5
  .have hi:i=D.length:=by omega
   subst hi;rw[AT (by grind),af];have:(D.map PU).take D.length++List.replicate ((D.map PU).length-D.length) 0=D.map PU:=by
    rw[ajC (by simp)];simp
   grind
theorem Ir:∀l:ε,bytesOf (l.map v8)=some (l.map byt)
 |[]=>rfl
 |x::l=>by
  simp[ab4,bytesOf];rw[Ir l];rfl
theorem ZG {b m}{xs:ε}(l:LB h b (xs.map v8) gT){f}(q:Wp (f (ofBytes (xs.map byt))) h Q):Wp (sh (strOf ⟨some ⟨b,0,none⟩,xs.length,m⟩) f) h Q:=by
 rw[ag];refine⟨ofBytes (xs.map byt),h,?_,q⟩;unfold strOf;have:aW h (some ⟨b,0,none⟩) xs.length=some (xs.map v8):=by
  unfold aW;simp only[l.get]
  grind
 grind [Ir]
theorem Wi {s}{D}{g}{neg}{e}{n}(hw:WF h)(bl:BL h s D g)(hg:g<=h.next)(hD:D.length<=65536)(hn:D.length<n) :
  Wp (nh n (neg,s,e)) h λr h'=>r=Wh D/\Fr (λ_=>False) h h':=by
 unfold nh;have hl:=bl.len;refine (Z.start hw).new λx0 h1 z1 f1=>?_;refine z1.ld 0 ?_;change Wp (sh (Ap none gT [v8 0] (s.len:Int) (s.len:Int)) _) _ _;refine z1.MW (by omega) (by grind [cP]) λb h2 z2 f2=>?_;refine z2.ld 1 ?_;rw[ag];have e1:(List.replicate ((s.len:Int)).toNat [v8 0]).flatten=((((D.map PU).take 0++List.replicate ((D.map PU).length-0) 0)).map v8):=by
  simp_all
 rw[e1] at z2;have e2:((s.len:Int)).toNat=D.length:=by omega
 rw[e2];refine (OI hD n 0 h2 (by omega) (by omega) ((bl.fr f1).fr f2) hg z2).mono λ_ h3 z3=>?_;have l:=z3.get 0 rfl;have:=ZG (m:=D.length+1) (f:=λx=>AI x) (Q:=λr h'=>r=Wh D/\Fr (λ_=>False) h h') l (af.2 ⟨by unfold Wh;rw[akr];rfl,z3.fr⟩)
 rwa [aeI] at this
theorem adf {s}{D}{g}{neg}{e}{n}(hw:WF h)(bl:BL h s D g)(hg:g<=h.next)(hD:D.length<=65536)(hn:D.length<n) :
  Wp (pT n (neg,s,e)) h λr h'=>r=OH neg D/\Fr (λ_=>False) h h':=by
 unfold pT OH;have hl:=bl.len;refine (Z.start hw).new λx0 h1 z1 f1=>?_;refine z1.ld 0 ?_;by_cases h0:D.length=0
 .rw[By (by grind),By h0];exact af.2 ⟨rfl,z1.fr⟩
 rw[AT (by grind),AT h0];refine z1.fH 0 (x:=((neg,s,e):cF [.bool,.sl,li])) ?_;refine z1.fH 0 (x:=((neg,s,e):cF [.bool,.sl,li])) ?_;refine z1.OE 0 (ade z1.wf) λr h2 hr f2 z2=>?_;subst hr;refine z2.call (Wi z2.wf ((bl.fr f1).fr f2) (abK hg (abK f1.next f2.next)) hD hn) λr h3 hr f3 z3=>?_
 subst hr
 try dsimp
 rw[ag,Lz];have hs:(Wh D).size=D.length:=by show (D.map _).toArray.size=_;simp
 have hs2:(if neg=true then ofBytes [45] else ofBytes []).size<=1:=by cases neg<;>decide
 exact⟨by grind [cP],af.2 ⟨rfl,z3.fr⟩⟩
theorem Q4 neg D:(OH neg D).size<=D.length+1:=by
 unfold OH;split
 .show [48].toArray.size<=_;simp
 .have hs:(Wh D).size=D.length:=by show (D.map _).toArray.size=_;simp
  have hs2:(if neg=true then ofBytes [45] else ofBytes []).size<=1:=by cases neg<;>decide
  grind
theorem GU:∀m u ,u<10^m->0<m->Lib.nDigits u<=m:=by
 intro m
 induction m with
 |zero=>grind
 |succ m ih=>
  intro u hu _;rw[Lib.nDigits]
  grind
theorem ZH {e}(he:-2000<=e/\e<=2000):(Lib.itoa e).length<=5:=by
 unfold Lib.itoa;split
 .rw[abv,Lib.decDigits_length];have:=GU 4 e.natAbs (by omega) (by omega);omega
 .rw[Lib.decDigits_length];have:=GU 4 e.toNat (by omega) (by omega);omega
theorem adg {s}{D}{g}{neg}{e}{n}(hw:WF h)(bl:BL h s D g)(hg:g<=h.next)(hD:D.length<=65536)(hn:D.length<n)(he:-2000<=e/\e<=2000) :
  Wp (pV n (neg,s,e)) h λr h'=>r=SS neg D e/\Fr (λ_=>False) h h':=by
 unfold pV;refine (Z.start hw).new λx0 h1 z1 f1=>?_;refine z1.fH 0 (x:=((neg,s,e):cF [.bool,.sl,li])) ?_;refine z1.ld 0 ?_;refine z1.OE 0 (adf z1.wf (bl.fr f1) (abK hg f1.next) hD hn) λr h2 hr f2 z2=>?_
 subst hr;have hc:=Q4 neg D
 try dsimp
 rw[ag,Lz];refine⟨by unfold cP;have:(ofBytes [101]).size=1:=rfl;omega,?_⟩;unfold strconv_Itoa;rw[By (by omega),ag,af,ag,Lz];refine⟨?_,af.2 ⟨rfl,z2.fr⟩⟩;have h9:(⟨(Lib.itoa e).toArray⟩:ζ).size<=100:=by
  show (Lib.itoa e).toArray.size<=100
  grind [ZH]
 rw[akw];have:(ofBytes [101]).size=1:=rfl
 grind [cP]
end
section
variable {α β:Type}{h h' h0:aj}{L:List bJ}{Q:β->aj->Prop}
theorem ixb l c:(Lib.indexByte l c<0)\/∃i:Nat,Lib.indexByte l c=i/\l[i]?=some c:=by
 by_cases hneg:Lib.indexByte l c<0
 .grind
 .obtain⟨i,hi⟩:∃i:Nat,Lib.indexByte l c=i:=⟨(Lib.indexByte l c).toNat,by omega⟩;exact .inr ⟨i,hi,(Lib.indexByte_some hi).1⟩
theorem Wj {s}(h:lj s=true):0<s.size:=by
 unfold lj at h;simp only[abi,abD] at h;have h1:=h.1.1;by_cases h0:s.size=0
 .simp_all
 .omega
def xu (s:ζ)(i:Nat):ζ:=⟨(Lib.trimPrefix (s.extract 0 i).data.toList [45]).toArray⟩
def numOf (s:ζ)(i:Nat)(e:Int):Bool×ε×Int:=wP (s.data.toList.head?==some 45) (xV (xu s i)) e
def ai2 (N:Bool×ε×Int)(s:ζ):Bool:=decide (L4 N.2.1 N.2.2=0)&&mQ (SS N.1 N.2.1 N.2.2) s
def SU (s:ζ)(i:Nat)(e:Int):Bool:=ai2 (numOf s i e) s
def zw (s:ζ):Bool:=
 if Lib.indexByte s.data.toList 101<0 then false
 else if lj (s.extract 0 (Lib.indexByte s.data.toList 101).toNat)=false then false
 else if 6<(s.size:Int)-Lib.indexByte s.data.toList 101 then false
 else match Lib.atoiAll (s.extract ((Lib.indexByte s.data.toList 101).toNat+1) s.size).data.toList with
  |.ok e=>SU s (Lib.indexByte s.data.toList 101).toNat e
  |_=>false
theorem ZI {s}(h:Lib.indexByte s.data.toList 101<0):zw s=false:=by unfold zw;grind
theorem adh {s}{i:Nat}(h:Lib.indexByte s.data.toList 101=i):zw s=if lj (s.extract 0 i)=false then false else if 6<(s.size:Int)-(i:Int) then false else match Lib.atoiAll (s.extract (i+1) s.size).data.toList with
  |.ok e=>SU s i e
  |_=>false:=by
 grind [zw]
theorem GW l p:(Lib.trimPrefix l p).length<=l.length:=by
 unfold Lib.trimPrefix
 grind
theorem It neg D e:(wP neg D e).2.1.length<=D.length:=by
 grind [wP,Kh,stripL,Ft,List.length_reverse]
theorem amX {D}{e}(h:L4 D e=0):-2000<=e/\e<=2000:=by
 grind [L4]
def L5 {s}{n}(hs:s.size<=65536)(hw:WF h):Wp (strconv_Atoi n s) h λr h'=>(match Lib.atoiAll s.data.toList with | .ok v=>r=(v,.nilIface)|_=>∃t u,r.2=.iface t u)/\Fr (λ_=>False) h h':=by
 unfold strconv_Atoi;rw[By (by omega)];cases e:Lib.atoiAll s.data.toList with
 |ok v=>exact af.2 ⟨rfl,Fr.refl hw⟩
 |range=>
  show Wp (zX _) h _;unfold zX;rw[ag];exact LX λh' f=>af.2 ⟨⟨_,_,rfl⟩,f hw⟩
 |_=>
  show Wp (zX 0) h _;unfold zX;rw[ag];exact LX λh' f=>af.2 ⟨⟨_,_,rfl⟩,f hw⟩
theorem yy {f}{v}(hv:v=.nilIface)(q:Wp (f true) h Q):Wp (sh (kL v) f) h Q:=by
 rw[ag,J9];grind
theorem Bl {f}{v}(hv:∃t u,v=.iface t u)(q:Wp (f false) h Q):Wp (sh (kL v) f) h Q:=by
 obtain⟨t,u,hv⟩:=hv;rw[ag,J9];grind
def _root_.Go.Ago.Z.BD (z:Z h0 h L)(i:Nat){b o:Nat}{cs vs cs':δ}{e:μ}{f:Unit->M β}{Q:β->aj->Prop}
  (q:∀h',Z h0 h' (L.set i (.au b cs' e))->Fr (·=b+1) h h'->Wp (f ()) h' Q) (hi:L[i]?=some (.au b cs e):=by rfl) (hc:aU cs o vs=cs':=by rfl) (ho:o+vs.length<=cs.length:=by first|decide|simp) (hs:vs.all fC=true:=by rfl) :
  Wp (sh (rE ⟨b,o,none⟩ vs) f) h Q:=by
 rw[ag];have l:LB h b cs e:=z.get i hi;refine l.st z.wf ho hs λh' l' fr=>q h' (z.vR hi (by simp[bJ.iL]) fr ?_ (.inl rfl)) fr;rw[<-hc];exact l'
theorem zy (z:Z h0 h L)(i:Nat){b}{cs}{e}{neg}{s}{v}{r:Bool}(hi:L[i]?=some (.au b cs e))(hc:cs.length=3) :
  Wp (sh (rE ⟨b,0,none⟩ [.bool neg,aC s,vi v]) λ_=>sh (bK [.bool,.sl,li] ⟨b,0,none⟩) λ(y:Bool×Sl×Int)=>AI ((y.1,y.2.1,y.2.2),r)) h λx h'=>x.2=r/\Fr (λ_=>False) h0 h'/\x.1=(neg,s,v)/\Fr (·=b+1) h h':=by
 have hsp:aU cs 0 [.bool neg,aC s,vi v]=[.bool neg,aC s,vi v]:=by
  unfold aU;simp[hc]
 refine z.BD i (λh1 z1 f1=>?_) hi hsp (by simp[hc]);have hi1:(L.set i (.au b [.bool neg,aC s,vi v] e))[i]?=some (.au b [.bool neg,aC s,vi v] e):=by
  grind
 refine z1.fH i (x:=((neg,s,v):cF [.bool,.sl,li])) ?_ hi1;exact af.2 ⟨rfl,z1.fr,rfl,f1⟩
theorem Dt (s:ζ) a b:(s.extract a b).size<=s.size:=by simp;omega
def GH (N:Bool×ε×Int)(h':aj)(x:Bool×Sl×Int):Prop:=x.1=N.1/\x.2.2=N.2.2/\N.2.1.length<=65536/\∃g,g<=h'.next/\BL h' x.2.1 N.2.1 g
def rq (s:ζ):Bool×ε×Int:=match Lib.atoiAll (s.extract ((Lib.indexByte s.data.toList 101).toNat+1) s.size).data.toList with
 |.ok e=>numOf s (Lib.indexByte s.data.toList 101).toNat e
 |_=>(false,[],0)
theorem rY.put {s}{cs}{g k n}{e}{c}(r:rY h s 1 cs g)(f:E5 h k):rY (h.dh k n e c) s 1 cs g:=
 ⟨r.1,r.2.imp (λx=>x) λ⟨a,h1,h2,c,b,e,h3,h4⟩=>⟨a,h1,h2,c,b,e,(iD λx=>by rw[x,f.2.2] at h3;cases h3).trans h3,h4⟩⟩
theorem adi {s:ζ}{i n a1}(hs:s.size<=65536)(hn:s.size+1<n)(hi:i<s.size)(hpos:0<i)(z:Z h0 h [.au a1 [.bool false,aI,vi 0] bu]) :
  Wp (qQ n s (ak a1) (i:Int)) h λx h'=>(x.2=match Lib.atoiAll (s.extract (i+1) s.size).data.toList with | .ok e=>SU s i e|_=>false)/\Fr (λ_=>False) h0 h'/\(x.2=true->GH (match Lib.atoiAll (s.extract (i+1) s.size).data.toList with | .ok e=>numOf s i e|_=>(false,[],0)) h' x.1):=by
 unfold qQ;rw[tH (by omega) (by omega),ag,gD];refine⟨by omega,by omega,by omega,?_⟩;rw[show (((i:Int)+1).toNat)=i+1 by omega,OF];have hsz:(s.extract (i+1) s.size).size<=65536:=by simp;omega
 refine z.call (L5 hsz z.wf) λr h1 hr f1 z1=>?_;cases e:Lib.atoiAll (s.extract (i+1) s.size).data.toList with
 |range=>
  rw[e] at hr;refine Bl hr ?_;rw[By (show (!false)=true from rfl)];exact (zy (s:=pH) z1 0 rfl rfl).mono λx h' hx=>⟨hx.1,hx.2.1,λe=>by grind⟩
 |ok v=>
  rw[e] at hr;simp at hr;subst hr;refine yy rfl ?_;show Wp (sh (iF s 0 (i:Int)) _) h1 _;rw[ag,gD];refine⟨by omega,by omega,by omega,?_⟩;rw[OF];unfold strings_TrimPrefix;rw[ag,af];have ec:(⟨(Lib.trimPrefix (s.extract (0:Int).toNat i).data.toList (ofBytes [45]).data.toList).toArray⟩:ζ)=xu s i:=rfl;rw[ec];have hcs:(xu s i).size<=s.size:=by
   show (Lib.trimPrefix (s.extract 0 i).data.toList [45]).toArray.size<=_;have h1:=GW (s.extract 0 i).data.toList [45];have h2:(s.extract 0 i).data.toList.length<=s.size:=Dt s 0 i
   grind
  refine z1.eA [7] (by decide) (by simp) λkb h2 z2=>?_;have hfr:E5 h2 (kb+7):=z2.get 0 rfl;obtain⟨c0,hc0⟩:∃c0,s[0]?=some c0:=⟨s[0]'(by omega),by grind⟩;rw[ag,fM];refine⟨c0,by omega,hc0,?_⟩;have hdl:(xV (xu s i)).length=(xu s i).size:=by unfold xV;simp_all
  refine ag.2 ((ZE z2 (by omega) (by omega)).mono λx h4 hx=>?_);obtain⟨b2,rfl,z4⟩:=hx;have hk4:E5 h4 (kb+7):=z4.get 1 rfl;have hk4:=hk4.2.1;rw[<-hdl];refine ag.2 ((adb z4 (by omega) (by omega) _ v).mono λr h5 hr=>?_);obtain⟨r1,r2,z5,g,bl,hg2,hg3⟩:=hr;have ha1:a1<h4.next:=LB.lt (z4.get 2 rfl) z4.wf
  have eneg:decide ((c0.toNat:Int)=45)=(s.data.toList.head?==some 45):=by
   rw[zu] at hc0;rw[ank,hc0];by_cases hq:c0=45
   .simp_all
   .have:¬((c0.toNat:Int)=45):=λe=>hq (UInt8.toNat_inj.1 (by grind))
    grind
  rw[eneg] at r1 r2 bl;obtain⟨neg,sl,ee⟩:=r;simp at r1 r2 bl;rw[show wP (s.data.toList.head?==some 45) (xV (xu s i)) v=numOf s i v from rfl] at r1 r2 bl;subst r1;subst r2;have hDl:(numOf s i v).2.1.length<=65536:=by
   grind [It,xV,xu,numOf]
  have hDn:(numOf s i v).2.1.length<n:=by
   grind [It,xV,xu,numOf]
  show Wp _ _ λ(x:(Bool×Sl×Int)×Bool) h'=>x.2=ai2 (numOf s i v) s/\Fr (λ_=>False) h0 h'/\(x.2=true->GH (numOf s i v) h' x.1);generalize numOf s i v=N at bl hDl hDn⊢;obtain⟨N1,N2,N3⟩:=N;have hf:E5 h5 (kb+7):=z5.get 0 rfl;have hg:g≠kb+7+1:=by omega
  rw[ag,Od];refine⟨rfl,hf.1,hf.2.1,hf.2.2,?_⟩;have z5:=z5.put (i:=0) rfl (e:=bu) (cs:=[.bool false,aI,vi 0])
  replace bl:=rY.put bl hf (n:=h5.next) (e:=bu) (c:=[.bool false,aI,vi 0])
  refine z5.BD 0 (cs':=[.bool N1,aC sl,vi N3]) (λh6 z6 f6=>?_);have bl:BL h6 sl N2 g:=rY.fr bl f6 λe=>absurd e hg;have hg6:g<=h6.next:=abK hg2 f6.next
  refine z6.fH 0 (x:=((N1,sl,N3):cF [.bool,.sl,li])) ?_;refine z6.fH 0 (x:=((N1,sl,N3):cF [.bool,.sl,li])) ?_;refine z6.OE 0 (ZF z6.wf bl) λr h7 hr f7 z7=>?_;subst hr;show Wp _ _ λ(x:(Bool×Sl×Int)×Bool) h'=>x.2=(decide (L4 N2 N3=0)&&mQ (SS N1 N2 N3) s)/\Fr (λ_=>False) h0 h'/\(x.2=true->GH (N1,N2,N3) h' x.1);by_cases hl:L4 N2 N3=0
  .rw[By (by grind)];refine z7.fH 0 (x:=((N1,sl,N3):cF [.bool,.sl,li])) ?_;refine z7.OE 0 (adg z7.wf (bl.fr f7) (abK hg6 f7.next) hDl hDn (amX hl)) λr h8 hr f8 z8=>?_
   subst hr;rw[aod hl,anm];exact (zy z8 1 rfl rfl).mono λx h' hx=>⟨hx.1,hx.2.1,λ_=>by
    obtain⟨_,_,e,f9⟩:=hx;rw[e];exact⟨rfl,rfl,hDl,g,abK hg6 (abK f7.next (abK f8.next f9.next)),rY.fr ((bl.fr f7).fr f8) f9 λe=>by omega⟩⟩
  .rw[AT (by grind)];rw[an4 hl,aoa];exact (zy z7 1 rfl rfl).mono λx h' hx=>⟨hx.1,hx.2.1,λe=>by grind⟩
 |_=>
  rw[e] at hr;refine Bl hr ?_;rw[By (show (!false)=true from rfl)];exact (zy (s:=pH) z1 0 rfl rfl).mono λx h' hx=>⟨hx.1,hx.2.1,λe=>by grind⟩
theorem vj {s}{n}(hs:s.size<=65536)(hn:s.size+1<n)(hw:WF h):Wp (pW n s) h λx h'=>x.2=zw s/\Fr (λ_=>False) h h'/\(x.2=true->GH (rq s) h' x.1):=by
  unfold pW;refine (Z.start hw).new λx0 h1 z1 f1=>?_;unfold strings_IndexByte;rw[ag,af];rw[show (101:Int).toNat.toUInt8=(101:UInt8) from rfl];rcases ixb s.data.toList 101 with hneg|⟨i,hi,hc⟩
  .rw[By (by grind),ZI hneg];exact (zy (s:=pH) z1 0 rfl rfl).mono λx h' hx=>⟨hx.1,hx.2.1,λe=>by grind⟩
  .have hlt:i<s.size:=(List.getElem?_eq_some_iff.1 hc).1;rw[adh hi,hi,AT (by simp),ag,gD];refine⟨by omega,by omega,by omega,?_⟩;rw[OF,show (0:Int).toNat=0 from rfl];have hes:=Dt s 0 i;refine z1.call (yw (by omega) (by omega) z1.wf) λr h2 hr f2 z2=>?_;subst hr;cases hok:lj (s.extract 0 i) with
   |false=>
    rw[By (show (false=false) from rfl),By (show (!false)=true from rfl)];exact (zy (s:=pH) z2 0 rfl rfl).mono λx h' hx=>⟨hx.1,hx.2.1,λe=>by grind⟩
   |true=>
    have hp:=Wj hok;have hip:0<i:=by
     have:(s.extract 0 i).size=min i s.size:=(by simp);omega
    rw[AT (show ¬(true=false) by decide),AT (show ¬((!true)=true) by decide),tH (by omega) (by omega)];by_cases h6:6<(s.size:Int)-(i:Int)
    .rw[By (by grind),By h6];exact (zy (s:=pH) z2 0 rfl rfl).mono λx h' hx=>⟨hx.1,hx.2.1,λe=>by grind⟩
    .rw[AT (by grind),AT h6];refine (adi hs hn hlt hip z2).mono λx h' hx=>?_
     grind [rq,Int.toNat_natCast]
def Fu {s}{n}(hs:s.size<=65536)(hn:s.size+1<n)(hw:WF h):Wp (uz n s) h λx h'=>x=zw s/\Fr (λ_=>False) h h':=by
 unfold uz;rw[ag];refine (vj hs hn hw).mono λx h1 hx=>?_;have z1:=(Z.start hw).pure hx.2.1;refine z1.new λb h2 z2 f2=>?_;refine z2.st 0 (cs':=[.bool x.1.1,aC x.1.2.1,vi x.1.2.2]) λh3 z3=>?_;exact af.2 ⟨hx.1,z3.fr⟩
end
end Go.Sh
