
import Derived.Test.YtpojbnjkkkiccaaGreatDoorBi
import Derived.Test.YtpojbnjkkkiccaaGreatDoorGi
set_option linter.all false
namespace Go.Sh
open Go Go.Ago Go.Proofs
section
variable {α β:Type}{h h' h0:ai}{L:List aZ}{Q:β->ai->Prop}
def stripR:ε->Int->ε×Int
 |[],e=>([],e)
 |x::r,e=>if x=0 then stripR r (IntKind.i64.wrap (e+1)) else ((x::r).reverse,e)
def stripL:ε->ε
 |[]=>[]
 |x::r=>if x=0 then stripL r else x::r
def xJ (neg:Bool)(D:ε)(e:Int):Bool×ε×Int:=
 if (stripR (stripL D).reverse e).1.length=0 then (false,[],0) else (neg,(stripR (stripL D).reverse e).1,(stripR (stripL D).reverse e).2)
theorem Ho:∀D:ε,(stripL D).length<=D.length
 |[]=>abi _
 |x::r=>by
  unfold stripL;split
  .have:=Ho r;grind
  grind
theorem Ml:∀D e ,(stripR D e).1.length<=D.length
 |[],e=>abi _
 |x::r,e=>by
  unfold stripR;split
  .have:=Ml r (IntKind.i64.wrap (e+1));grind
  .simp
def BL (h:ai)(s:Sl)(xs:ε)(g:Nat):Prop:=vR h s 1 (xs.map v8) g
theorem Qa {γ:Type}{D:List γ}{z d}{i}(hd:D[i]?=some d):(D.take i++List.replicate (D.length-i) z).set i d=D.take (i+1)++List.replicate (D.length-(i+1)) z:=by
 have hlt:=(List.getElem?_eq_some_iff.1 hd).1;have hl:(D.take i).length=i:=by grind
 obtain⟨m,hm⟩:∃m,D.length-i=m+1:=⟨D.length-i-1,by omega⟩;rw[hm,amV,al8 _ _ (by omega),hl,amW,amc,apT,hd,show D.length-(i+1)=m by omega];simp
theorem SY {s}{b}(hs:s.size<=65536):∀n i h ,s.size-i<n->i<=s.size->Z h0 h (.ar b (((yV s).take i++List.replicate ((yV s).length-i) 0).map v8) jA::L) ->
  Wp (mG n s ⟨some ⟨b,0,none⟩,s.size,s.size+1⟩ (s.size:Int) (i:Int)) h λ_ h'=>Z h0 h' (.ar b ((yV s).map v8) jA::L):=by
 have hl:(yV s).length=s.size:=by grind [yV,List.length_map,nD]
 intro n
 induction n with
 |zero=>intro i h h1;omega
 |succ n ih=>
  intro i h h1 h2 z;rw[A5];unfold rV;refine GZ.2 ⟨(λhc=>?_),λhc=>?_⟩
  .have hi:i<s.size:=by grind
   obtain⟨c,hc1⟩:∃c,s[i]?=some c:=⟨s[i],by simp[hi]⟩;have hd:(yV s)[i]?=some (Cq c):=by
    grind [yV,EV]
   rw[ah,je];refine⟨c,by omega,by grind,GF (by omega) (by omega) ?_⟩;simp;refine Z.DV z 0 (enc:=v8) (xs:=(yV s).take i++List.replicate ((yV s).length-i) 0) (v:=Cq c) (by grind) λh' z'=>?_;rw[Qa hd] at z';rw[wZ (by omega) (by omega)];exact ih (i+1) h' (by omega) (by omega) z'
  .have hi:i=s.size:=by grind
   refine ag.2 ?_;rw[hi,<-hl] at z
   grind
theorem aa3 (z:Z h0 h L){s}{n}(hs:s.size<=65536)(hn:s.size<n):Wp (vo n s) h λx h'=>∃b,x=⟨some ⟨b,0,none⟩,s.size,s.size+1⟩/\Z h0 h' (.ar b ((yV s).map v8) jA::L):=by
 unfold vo;have hl:(yV s).length=s.size:=by grind [yV,List.length_map,nD]
 refine z.Mi (by omega) (by grind [da]) λb h' z1 _=>?_;have e1:(List.replicate s.size [v8 0]).flatten=((yV s).take 0++List.replicate ((yV s).length-0) 0).map v8:=by
  simp_all
 simp only[aba] at z1⊢;rw[e1] at z1;exact ah.2 ((SY hs n 0 _ (by omega) (by omega) z1).mono λ_ h' z2=>ag.2 ⟨b,rfl,z2⟩)
theorem UG (z:Z h0 h L)(i:Nat){b o m c}{xs:ε}{j}{x}(hi:L[i]?=some (.ar b (xs.map v8) jA))(hx:((xs.drop o).take m)[j.toNat]?=some x)(h1:0<=j){f:Int->M β}(q:Wp (f x) h Q) :
  Wp (sh (mz ⟨some ⟨b,o,none⟩,m,c⟩ j 1) λa=>sh (dL (.int .u8) a) f) h Q:=by
 have hlt:=(List.getElem?_eq_some_iff.1 hx).1;rw[ahT] at hlt;have l:LB h b (xs.map v8) jA:=z.get i hi;rw[ah,zY];refine⟨_,rfl,h1,by grind,?_⟩;rw[ah,yH];refine⟨x,?_,q⟩;refine l.ld (v:=v8 x) ?_ rfl;rw[aop,al0] at hx;split at hx
 .simp only[Addr.plus,ahS]
  grind
 grind
theorem UH (z:Z h0 h L)(i:Nat){b o m c:Nat}{xs:ε}{lo hi:Int}(hL:L[i]?=some (.ar b (xs.map v8) jA))(h1:0<=lo)(h2:lo<=hi)(h3:hi<=m){f}
  (q:∀c',Wp (f ⟨some ⟨b,o+lo.toNat,none⟩,hi.toNat-lo.toNat,c'⟩) h Q):Wp (sh (iM ⟨some ⟨b,o,none⟩,m,c⟩ lo hi jA 1) f) h Q:=by
 have l:LB h b (xs.map v8) jA:=z.get i hL;rw[ah];refine sB h1 h2 (by grind) (by simp[lO,l.get]) ?_;simp[amS,Addr.plus,ahS];exact q _
theorem aeO (z:Z h0 h L)(i:Nat){b}{xs:ε}(hL:L[i]?=some (.ar b (xs.map v8) jA)) neg e a3:∀n o m c ,m<n->o+m<=xs.length ->
  Wp (oB n neg ⟨some ⟨b,o,none⟩,m,c⟩ e a3) h λr h'=>h'=h/\∃o' m' c',r=⟨some ⟨b,o',none⟩,m',c'⟩/\o'+m'<=xs.length/\(xs.drop o').take m'=stripL ((xs.drop o).take m):=by
 intro n
 induction n with
 |zero=>intro o m c h1;omega
 |succ n ih=>
  intro o m c h1 h2;rw[BR];unfold tc;refine GZ.2 ⟨(λhc=>?_),λhc=>?_⟩
  .have hm:0<m:=by grind
   obtain⟨m,rfl⟩:∃m',m=m'+1:=⟨m-1,by omega⟩;obtain⟨x,hx⟩:∃x,xs[o]?=some x:=⟨xs[o],aci (by omega)⟩;have hd:(xs.drop o).take (m+1)=x::(xs.drop (o+1)).take m:=by
    rw[drop_cons hx,List.take_succ_cons]
   refine UG z i hL (by rw[hd];rfl) (by omega) ?_;rw[hd];refine GZ.2 ⟨(λh0=>?_),λh0=>?_⟩
   .have h0:x=0:=(by grind);refine UH z i hL (by omega) (by grind) (by grind) λc'=>?_;rw[show o+(1:Int).toNat=o+1 from rfl,show ((((⟨some ⟨b,o,none⟩,m+1,c⟩:Sl).len:Nat):Int).toNat-(1:Int).toNat)=m by simp];refine (ih (o+1) m c' (by omega) (by omega)).mono λr h' hr=>?_;obtain⟨r1,o',m',c2,r2,r3,r4⟩:=hr;refine⟨r1,o',m',c2,r2,r3,?_⟩;rw[r4,stripL,By h0]
   .have h0:¬x=0:=(by grind);exact ag.2 ⟨rfl,o,m+1,c,rfl,h2,by rw[hd,stripL,AT h0]⟩
  .have hm:m=0:=by grind
   subst hm;exact ag.2 ⟨rfl,o,0,c,rfl,h2,by simp[stripL]⟩
theorem aeP (z:Z h0 h L)(i:Nat){b}{xs:ε}(hL:L[i]?=some (.ar b (xs.map v8) jA))(hxs:xs.length<=65536) neg a3:∀n o m c e ,m<n->o+m<=xs.length ->
  Wp (oA n neg ⟨some ⟨b,o,none⟩,m,c⟩ e a3) h λr h'=>h'=h/\∃m' c',r.1=⟨some ⟨b,o,none⟩,m',c'⟩/\o+m'<=xs.length/\stripR ((xs.drop o).take m).reverse e=((xs.drop o).take m',r.2):=by
 intro n
 induction n with
 |zero=>intro o m c e h1;omega
 |succ n ih=>
  intro o m c e h1 h2;rw[BQ];unfold ta;refine GZ.2 ⟨(λhc=>?_),λhc=>?_⟩
  .have hm:0<m:=by grind
   obtain⟨m,rfl⟩:∃m',m=m'+1:=⟨m-1,by omega⟩;obtain⟨x,hx⟩:∃x,xs[o+m]?=some x:=⟨xs[o+m],aci (by omega)⟩;have hx2:(xs.drop o)[m]?=some x:=by grind
   have hd:(xs.drop o).take (m+1)=(xs.drop o).take m++[x]:=by grind [List.take_succ]
   have ew:IntKind.i64.wrap ((((⟨some ⟨b,o,none⟩,m+1,c⟩:Sl).len:Nat):Int)-1)=(m:Int):=by
    grind [xQ]
   rw[ew];refine UG z i hL (x:=x) (by grind [Int.toNat_natCast,List.getElem?_append_right,List.length_take,List.length_drop,min]) (by omega) ?_;rw[hd,List.reverse_append,List.reverse_singleton,apS];refine GZ.2 ⟨(λh0=>?_),λh0=>?_⟩
   .have h0:x=0:=(by grind);refine UH z i hL (by omega) (by omega) (by omega) λc'=>?_;rw[show o+(0:Int).toNat=o from rfl,show ((m:Int).toNat-(0:Int).toNat)=m by simp];refine (ih o m c' _ (by omega) (by omega)).mono λr h' hr=>?_;obtain⟨r1,m',c2,r2,r3,r4⟩:=hr;refine⟨r1,m',c2,r2,r3,?_⟩;rw[stripR,By h0];exact r4
   .have h0:¬x=0:=(by grind);refine ag.2 ⟨rfl,m+1,c,rfl,h2,?_⟩;rw[stripR,AT h0,hd];simp
  .have hm:m=0:=by grind
   subst hm;exact ag.2 ⟨rfl,0,c,rfl,h2,by simp[stripR]⟩
def XG (z:Z h0 h L){e}{cs}{f}(q:∀h',Z h0 h' (.ar h.next cs e::L)->h'.next=h.next+1->Wp (f h.next) h' Q)(hs:cs.all fk=true:=by rfl):Wp (sh (iI none e cs) f) h Q:=by
 rw[ah,JP];exact⟨hs,q _ (z.add (Fr.new z.wf) LB.new (.inr (ais _))) rfl⟩
theorem mkN (z:Z h0 h L){m:Nat}{f}(hm:m<=65536)(q:∀h',Z h0 h' (.ar h.next (List.replicate m (v8 0)) jA::L)->Wp (f ⟨some ⟨h.next,0,none⟩,m,m+1⟩) h' Q):Wp (sh (w9 none jA [v8 0] (m:Int) (m:Int)) f) h Q:=by
 rw[ah];refine RH (by omega) (akz _) (by grind [da]) (q _ ?_);have z1:=z.add (Fr.new (e:=jA) (cs:=(List.replicate m [v8 0]).flatten) z.wf) (o:=.ar h.next _ jA) LB.new (.inr (ais _))
 simp_all
theorem amR (z:Z h0 h L)(i j:Nat){b b2 o m c}{xs:ε}{f}(hi:L[i]?=some (.ar b2 (List.replicate m (v8 0)) jA))(hj:L[j]?=some (.ar b (xs.map v8) jA))(hm:0<m)(ho:o+m<=xs.length)
  (q:∀h',Z h0 h' (L.set i (.ar b2 (((xs.drop o).take m).map v8) jA))->Wp (f m) h' Q):Wp (sh (Je ⟨some ⟨b2,0,none⟩,m,m+1⟩ ⟨some ⟨b,o,none⟩,m,c⟩ 1) f) h Q:=by
 have l:LB h b (xs.map v8) jA:=z.get j hj;have hl:(((xs.drop o).take m).map v8).length=m:=by grind
 have hcell:bu h (some ⟨b,o,none⟩) (Nat.min m m*1)=some (((xs.drop o).take m).map v8):=by
  unfold bu;simp only[l.get]
  simp_all
 obtain⟨x,h1,e1,q1⟩:=Z.st z i (f:=AI) (Q:=λ_ h'=>Z h0 h' (L.set i (.ar b2 (((xs.drop o).take m).map v8) jA)))
  (λh' z'=>ag.2 z') hi (by unfold aM;rw[adr,hl];simp) (by grind) (by rw[List.all_map,al1];intro x _;rfl)
 refine ah.2 ⟨m,h1,?_,q h1 q1⟩;have e3:rN ⟨b2,0,none⟩ (((xs.drop o).take m).map v8) h=some ((),h1):=by
  unfold sh at e1;split at e1
  .rename_i u h5 hu;cases e1;exact hu
  .cases e1
 grind [Je]
theorem aeQ {b n c}{xs}(z:Z h0 h (.ar b (xs.map v8) jA::L))(hx:xs.length<=65536)(hn:xs.length<n) neg e :
  Wp (wF n neg ⟨some ⟨b,0,none⟩,xs.length,c⟩ e) h λr h'=>r.1=(xJ neg xs e).1/\r.2.2=(xJ neg xs e).2.2/\Z h0 h' L/\∃g,BL h' r.2.1 (xJ neg xs e).2.1 g/\g<=h'.next/\(g=0\/h.next<g):=by
 unfold wF;refine XG z λh1 z1 n1=>?_;refine ah.2 ((aeO z1 1 rfl neg e _ n 0 xs.length c hn (by omega)).mono λr h' hr=>?_);obtain⟨hh,o,m,c',rfl,hom,e1⟩:=hr;have hh:=hh.symm;subst hh;rw[aiq,anR] at e1;have hm:=Ho xs;rw[<-e1,ahT,alx] at hm;refine ah.2 ((aeP z1 1 rfl hx neg _ n o m c' e (by omega) hom).mono λr h' hr=>?_);obtain⟨hh,m2,c2,e2,hom2,e3⟩:=hr;have hh:=hh.symm;subst hh;obtain⟨sl,ee⟩:=r;simp at e2 e3;subst e2;rw[e1] at e3;have e4:(stripR (stripL xs).reverse e).1=(xs.drop o).take m2:=by rw[e3]
 have e5:(stripR (stripL xs).reverse e).2=ee:=by rw[e3]
 have el:((xs.drop o).take m2).length=m2:=by grind
 refine GZ.2 ⟨(λhc=>?_),λhc=>?_⟩
 .have hm0:m2=0:=by grind
  have en:xJ neg xs e=(false,[],0):=by unfold xJ;grind
  refine z1.st 0 (cs':=[.bool false,aE,vi 0]) λh2 z2=>?_;refine z2.gh 0 (x:=((false,ow,0):j9 [.bool,.sl,li])) (ag.2 ?_);rw[en];exact⟨rfl,rfl,z2.drop.drop,0,vR.nil rfl,alg _,.inl rfl⟩
 .have hm0:0<m2:=by grind
  have en:xJ neg xs e=(neg,(xs.drop o).take m2,ee):=by grind [xJ]
  refine mkN (m:=m2) z1 (by omega) λh2 z2=>?_;refine amR z2 0 2 rfl rfl hm0 hom2 λh3 z3=>?_;refine z3.st 1 (cs':=[.bool neg,.slice (some ⟨h1.next,0,none⟩) m2 (m2+1),vi ee]) λh4 z4=>?_
  refine z4.gh 1 (ag.2 ?_);rw[en];have l:LB h4 h1.next (((xs.drop o).take m2).map v8) jA:=z4.get 0 rfl
  exact⟨rfl,rfl,z4.drop.drop.drop,h1.next+1,l.GD (by grind),LB.lt l z4.wf,.inr (by omega)⟩
end
section
variable {α β:Type}{h h' h0:ai}{L:List aZ}{Q:β->ai->Prop}
def _root_.Go.Ago.Z.Qb (z:Z h0 h L)(i:Nat){b:Nat}{a:Addr}{cs:δ}{e:κ}{m:M α}{f:α->M β}{P:α->Prop}(hm:Wp m h λr h'=>P r/\Fr (λ_=>False) h h')
  (q:∀r h',P r->Fr (λ_=>False) h h'->Z h0 h' L->Wp (f r) h' Q) (hi:L[i]?=some (.ar b cs e):=by rfl) (ha:a.block=b:=by rfl):Wp (sh (Ago.tX [some a] m) f) h Q:=by
 rw[ah];have l:LB h b cs e:=z.get i hi;refine JQ (hm.mono λr h' hp=>⟨λa' hma=>?_,q r h' hp.1 hp.2 (z.pure hp.2)⟩);simp at hma;subst hma;rw[ha,l.get];exact hp.2.cells _ _ _ _ _ l.get λx=>x.elim
def BL.fr {s}{D}{g}(b:BL h s D g)(f:Fr (λ_=>False) h h'):BL h' s D g:=vR.fr b f λx=>x.elim
theorem BL.len {s}{D}{g}(b:BL h s D g):s.len=D.length:=vR.Aa (enc:=v8) b
def NP (D:ε)(e:Int):Int:=if 400<D.length then 6 else if e < -2000 then 2 else if 2000<e then 2 else 0
def byt (x:Int):UInt8:=UInt8.ofNat x.toNat
def XH (D:ε):ζ:=ofBytes (D.map λd=>byt (IntKind.u8.wrap (48+d)))
def Qc (neg:Bool)(D:ε):ζ:=if D.length=0 then ofBytes [48] else (if neg then ofBytes [45] else ofBytes [])++XH D
def UI (neg:Bool)(D:ε)(e:Int):ζ:=Qc neg D++ofBytes [101]++⟨(Lib.itoa e).toArray⟩
theorem aa4 {s}{D}{g}{neg}{e}{n}(hw:WF h)(bl:BL h s D g):Wp (pJ n (neg,s,e)) h λr h'=>r=NP D e/\Fr (λ_=>False) h h':=by
 unfold pJ;refine (Z.start hw).new λx0 h1 z1 f1=>?_;have hl:=bl.len;refine z1.ld 0 ?_;unfold NP;by_cases h1:400<D.length
 .rw[By (by grind),By h1];exact ag.2 ⟨rfl,z1.fr⟩
 rw[AT (by grind),AT h1];refine z1.ld 0 ?_;by_cases h2:e < -2000
 .rw[By (by grind),By h2];exact ag.2 ⟨rfl,z1.fr⟩
 rw[AT (by grind),AT h2];refine z1.ld 0 ?_;by_cases h3:2000<e
 .rw[By (by grind),By h3];exact ag.2 ⟨rfl,z1.fr⟩
 rw[AT (by grind),AT h3];exact ag.2 ⟨rfl,z1.fr⟩
def aeR {s}{neg}{e}{n}(hw:WF h):Wp (qw n (neg,s,e)) h λr h'=>r=(if neg then ofBytes [45] else ofBytes [])/\Fr (λ_=>False) h h':=by
 unfold qw;refine (Z.start hw).new λx0 h1 z1 f1=>?_;refine z1.ld 0 ?_;cases neg
 .exact ag.2 ⟨rfl,z1.fr⟩
 .exact ag.2 ⟨rfl,z1.fr⟩
def Q3 (d:Int):Int:=IntKind.u8.wrap (48+d)
theorem Qd {s}{D:ε}{g b m}(hD:D.length<=65536):∀n i h ,D.length-i<n->i<=D.length->BL h s D g->g<=h0.next->Z h0 h (.ar b ((((D.map Q3).take i++List.replicate ((D.map Q3).length-i) 0)).map v8) jA::L) ->
  Wp (iD n ⟨some ⟨b,0,none⟩,D.length,m⟩ s (s.len:Int) (i:Int)) h λ_ h'=>Z h0 h' (.ar b ((D.map Q3).map v8) jA::L):=by
 intro n
 induction n with
 |zero=>intro i h h1;omega
 |succ n ih=>
  intro i h h1 h2 bl hg z;have hl:=bl.len;rw[xm];unfold mH;by_cases hi:i<D.length
  .rw[By (by grind)];obtain⟨d,hd⟩:=eC hi;refine vR.Ys bl (by omega) (by simpa using hd) λa c=>c.sL rfl rfl ?_;refine GF (by omega) (by omega) ?_;simp only[aba,ahS];have hne:b+1≠g:=by
    have:=(z.own _ IS).2;simp only[aZ.jo] at this;omega
   have l:LB h b _ _:=z.get 0 rfl;rw[ah];have hdm:(D.map Q3)[i]?=some (Q3 d):=by grind
   have hst:=Z.DV z 0 (xs:=(D.map Q3).take i++List.replicate ((D.map Q3).length-i) 0) (k:=i) (Q:=λ_ h'=>Z h0 h' (.ar b ((((D.map Q3).take (i+1)++List.replicate ((D.map Q3).length-(i+1)) 0)).map v8) jA::L)) (by grind) (λh' z'=>ag.2 (by rw[Qa hdm] at z';exact z'));have hfr:Wp (rN ⟨b,i,none⟩ [v8 (Q3 d)]) h λ_ h'=>Fr (·=b+1) h h':=l.st z.wf (by grind) rfl λh' _ f=>f
   obtain⟨u,h5,e5,q5⟩:=hst;obtain⟨u2,h6,e6,q6⟩:=hfr;have e7:rN ⟨b,i,none⟩ [v8 (Q3 d)] h=some ((),h5):=by
    unfold sh at e5;split at e5
    .rename_i hu;cases e5;exact hu
    grind
   rw[e7] at e6;cases e6;refine⟨(),h5,e7,?_⟩;rw[wZ (by omega) (by omega)];exact ih (i+1) h5 (by omega) (by omega) (vR.fr bl q6 λe=>absurd e.symm hne) hg q5
  .have hi:i=D.length:=by omega
   subst hi;rw[AT (by grind),ag];have:(D.map Q3).take D.length++List.replicate ((D.map Q3).length-D.length) 0=D.map Q3:=by
    rw[al4 (by simp)];simp
   grind
theorem Kq:∀l:ε,bytesOf (l.map v8)=some (l.map byt)
 |[]=>rfl
 |x::l=>by
  simp[acW,bytesOf];rw[Kq l];rfl
theorem aa5 {b m}{xs:ε}(l:LB h b (xs.map v8) jA){f}(q:Wp (f (ofBytes (xs.map byt))) h Q):Wp (sh (strOf ⟨some ⟨b,0,none⟩,xs.length,m⟩) f) h Q:=by
 rw[ah];refine⟨ofBytes (xs.map byt),h,?_,q⟩;unfold strOf;have:bu h (some ⟨b,0,none⟩) xs.length=some (xs.map v8):=by
  unfold bu;simp only[l.get]
  grind
 grind [Kq]
theorem XI {s}{D}{g}{neg}{e}{n}(hw:WF h)(bl:BL h s D g)(hg:g<=h.next)(hD:D.length<=65536)(hn:D.length<n) :
  Wp (nN n (neg,s,e)) h λr h'=>r=XH D/\Fr (λ_=>False) h h':=by
 unfold nN;have hl:=bl.len;refine (Z.start hw).new λx0 h1 z1 f1=>?_;refine z1.ld 0 ?_;change Wp (sh (w9 none jA [v8 0] (s.len:Int) (s.len:Int)) _) _ _;refine z1.Mi (by omega) (by grind [da]) λb h2 z2 f2=>?_;refine z2.ld 1 ?_;rw[ah];have e1:(List.replicate ((s.len:Int)).toNat [v8 0]).flatten=((((D.map Q3).take 0++List.replicate ((D.map Q3).length-0) 0)).map v8):=by
  simp_all
 rw[e1] at z2;have e2:((s.len:Int)).toNat=D.length:=by omega
 rw[e2];refine (Qd hD n 0 h2 (by omega) (by omega) ((bl.fr f1).fr f2) hg z2).mono λ_ h3 z3=>?_;have l:=z3.get 0 rfl;have:=aa5 (m:=D.length+1) (f:=λx=>AI x) (Q:=λr h'=>r=XH D/\Fr (λ_=>False) h h') l (ag.2 ⟨by unfold XH;rw[ao8];rfl,z3.fr⟩)
 rwa [acL] at this
theorem aeS {s}{D}{g}{neg}{e}{n}(hw:WF h)(bl:BL h s D g)(hg:g<=h.next)(hD:D.length<=65536)(hn:D.length<n) :
  Wp (qy n (neg,s,e)) h λr h'=>r=Qc neg D/\Fr (λ_=>False) h h':=by
 unfold qy Qc;have hl:=bl.len;refine (Z.start hw).new λx0 h1 z1 f1=>?_;refine z1.ld 0 ?_;by_cases h0:D.length=0
 .rw[By (by grind),By h0];exact ag.2 ⟨rfl,z1.fr⟩
 rw[AT (by grind),AT h0];refine z1.gh 0 (x:=((neg,s,e):j9 [.bool,.sl,li])) ?_;refine z1.gh 0 (x:=((neg,s,e):j9 [.bool,.sl,li])) ?_;refine z1.Qb 0 (aeR z1.wf) λr h2 hr f2 z2=>?_;subst hr;refine z2.call (XI z2.wf ((bl.fr f1).fr f2) (acY hg (acY f1.next f2.next)) hD hn) λr h3 hr f3 z3=>?_
 subst hr
 try dsimp
 rw[ah,Ns];have hs:(XH D).size=D.length:=by show (D.map _).toArray.size=_;simp
 have hs2:(if neg=true then ofBytes [45] else ofBytes []).size<=1:=by cases neg<;>decide
 exact⟨by grind [da],ag.2 ⟨rfl,z3.fr⟩⟩
theorem SZ neg D:(Qc neg D).size<=D.length+1:=by
 unfold Qc;split
 .show [48].toArray.size<=_;simp
 .have hs:(XH D).size=D.length:=by show (D.map _).toArray.size=_;simp
  have hs2:(if neg=true then ofBytes [45] else ofBytes []).size<=1:=by cases neg<;>decide
  grind
theorem IX:∀m u ,u<10^m->0<m->Lib.nDigits u<=m:=by
 intro m
 induction m with
 |zero=>grind
 |succ m ih=>
  intro u hu _;rw[Lib.nDigits]
  grind
theorem aa6 {e}(he:-2000<=e/\e<=2000):(Lib.itoa e).length<=5:=by
 unfold Lib.itoa;split
 .rw[abK,Lib.decDigits_length];have:=IX 4 e.natAbs (by omega) (by omega);omega
 .rw[Lib.decDigits_length];have:=IX 4 e.toNat (by omega) (by omega);omega
theorem aeT {s}{D}{g}{neg}{e}{n}(hw:WF h)(bl:BL h s D g)(hg:g<=h.next)(hD:D.length<=65536)(hn:D.length<n)(he:-2000<=e/\e<=2000) :
  Wp (qA n (neg,s,e)) h λr h'=>r=UI neg D e/\Fr (λ_=>False) h h':=by
 unfold qA;refine (Z.start hw).new λx0 h1 z1 f1=>?_;refine z1.gh 0 (x:=((neg,s,e):j9 [.bool,.sl,li])) ?_;refine z1.ld 0 ?_;refine z1.Qb 0 (aeS z1.wf (bl.fr f1) (acY hg f1.next) hD hn) λr h2 hr f2 z2=>?_
 subst hr;have hc:=SZ neg D
 try dsimp
 rw[ah,Ns];refine⟨by unfold da;have:(ofBytes [101]).size=1:=rfl;omega,?_⟩;unfold strconv_Itoa;rw[By (by omega),ah,ag,ah,Ns];refine⟨?_,ag.2 ⟨rfl,z2.fr⟩⟩;have h9:(⟨(Lib.itoa e).toArray⟩:ζ).size<=100:=by
  show (Lib.itoa e).toArray.size<=100
  grind [aa6]
 rw[anN];have:(ofBytes [101]).size=1:=rfl
 grind [da]
end
section
variable {α β:Type}{h h' h0:ai}{L:List aZ}{Q:β->ai->Prop}
theorem ixb l c:(Lib.indexByte l c<0)\/∃i:Nat,Lib.indexByte l c=i/\l[i]?=some c:=by
 by_cases hneg:Lib.indexByte l c<0
 .grind
 .obtain⟨i,hi⟩:∃i:Nat,Lib.indexByte l c=i:=⟨(Lib.indexByte l c).toNat,by omega⟩;exact .inr ⟨i,hi,(Lib.indexByte_some hi).1⟩
theorem XJ {s}(h:nC s=true):0<s.size:=by
 unfold nC at h;simp only[abw,aca] at h;have h1:=h.1.1;by_cases h0:s.size=0
 .simp_all
 .omega
def yA (s:ζ)(i:Nat):ζ:=⟨(Lib.trimPrefix (s.extract 0 i).data.toList [45]).toArray⟩
def numOf (s:ζ)(i:Nat)(e:Int):Bool×ε×Int:=xJ (s.data.toList.head?==some 45) (yV (yA s i)) e
def akv (N:Bool×ε×Int)(s:ζ):Bool:=decide (NP N.2.1 N.2.2=0)&&qk (UI N.1 N.2.1 N.2.2) s
def UJ (s:ζ)(i:Nat)(e:Int):Bool:=akv (numOf s i e) s
def Cr (s:ζ):Bool:=
 if Lib.indexByte s.data.toList 101<0 then false
 else if nC (s.extract 0 (Lib.indexByte s.data.toList 101).toNat)=false then false
 else if 6<(s.size:Int)-Lib.indexByte s.data.toList 101 then false
 else match Lib.atoiAll (s.extract ((Lib.indexByte s.data.toList 101).toNat+1) s.size).data.toList with
  |.ok e=>UJ s (Lib.indexByte s.data.toList 101).toNat e
  |_=>false
theorem aa7 {s}(h:Lib.indexByte s.data.toList 101<0):Cr s=false:=by unfold Cr;grind
theorem aeU {s}{i:Nat}(h:Lib.indexByte s.data.toList 101=i):Cr s=if nC (s.extract 0 i)=false then false else if 6<(s.size:Int)-(i:Int) then false else match Lib.atoiAll (s.extract (i+1) s.size).data.toList with
  |.ok e=>UJ s i e
  |_=>false:=by
 grind [Cr]
theorem IY l p:(Lib.trimPrefix l p).length<=l.length:=by
 unfold Lib.trimPrefix
 grind
theorem Kr neg D e:(xJ neg D e).2.1.length<=D.length:=by
 grind [xJ,Ml,stripL,Ho,List.length_reverse]
theorem aoB {D}{e}(h:NP D e=0):-2000<=e/\e<=2000:=by
 grind [NP]
def NQ {s}{n}(hs:s.size<=65536)(hw:WF h):Wp (strconv_Atoi n s) h λr h'=>(match Lib.atoiAll s.data.toList with | .ok v=>r=(v,.nilIface)|_=>∃t u,r.2=.iface t u)/\Fr (λ_=>False) h h':=by
 unfold strconv_Atoi;rw[By (by omega)];cases e:Lib.atoiAll s.data.toList with
 |ok v=>exact ag.2 ⟨rfl,Fr.refl hw⟩
 |range=>
  show Wp (A0 _) h _;unfold A0;rw[ah];exact NO λh' f=>ag.2 ⟨⟨_,_,rfl⟩,f hw⟩
 |_=>
  show Wp (A0 0) h _;unfold A0;rw[ah];exact NO λh' f=>ag.2 ⟨⟨_,_,rfl⟩,f hw⟩
theorem zB {f}{v}(hv:v=.nilIface)(q:Wp (f true) h Q):Wp (sh (kR v) f) h Q:=by
 rw[ah,Mf];grind
theorem Cs {f}{v}(hv:∃t u,v=.iface t u)(q:Wp (f false) h Q):Wp (sh (kR v) f) h Q:=by
 obtain⟨t,u,hv⟩:=hv;rw[ah,Mf];grind
def _root_.Go.Ago.Z.yW (z:Z h0 h L)(i:Nat){b o:Nat}{cs vs cs':δ}{e:κ}{f:Unit->M β}{Q:β->ai->Prop}
  (q:∀h',Z h0 h' (L.set i (.ar b cs' e))->Fr (·=b+1) h h'->Wp (f ()) h' Q) (hi:L[i]?=some (.ar b cs e):=by rfl) (hc:aM cs o vs=cs':=by rfl) (ho:o+vs.length<=cs.length:=by first|decide|simp) (hs:vs.all fk=true:=by rfl) :
  Wp (sh (rN ⟨b,o,none⟩ vs) f) h Q:=by
 rw[ah];have l:LB h b cs e:=z.get i hi;refine l.st z.wf ho hs λh' l' fr=>q h' (z.wj hi (by simp[aZ.jo]) fr ?_ (.inl rfl)) fr;rw[<-hc];exact l'
theorem Ax (z:Z h0 h L)(i:Nat){b}{cs}{e}{neg}{s}{v}{r:Bool}(hi:L[i]?=some (.ar b cs e))(hc:cs.length=3) :
  Wp (sh (rN ⟨b,0,none⟩ [.bool neg,aA s,vi v]) λ_=>sh (cT [.bool,.sl,li] ⟨b,0,none⟩) λ(y:Bool×Sl×Int)=>AI ((y.1,y.2.1,y.2.2),r)) h λx h'=>x.2=r/\Fr (λ_=>False) h0 h'/\x.1=(neg,s,v)/\Fr (·=b+1) h h':=by
 have hsp:aM cs 0 [.bool neg,aA s,vi v]=[.bool neg,aA s,vi v]:=by
  unfold aM;simp[hc]
 refine z.yW i (λh1 z1 f1=>?_) hi hsp (by simp[hc]);have hi1:(L.set i (.ar b [.bool neg,aA s,vi v] e))[i]?=some (.ar b [.bool neg,aA s,vi v] e):=by
  grind
 refine z1.gh i (x:=((neg,s,v):j9 [.bool,.sl,li])) ?_ hi1;exact ag.2 ⟨rfl,z1.fr,rfl,f1⟩
theorem EX (s:ζ) a b:(s.extract a b).size<=s.size:=by simp;omega
def IF (N:Bool×ε×Int)(h':ai)(x:Bool×Sl×Int):Prop:=x.1=N.1/\x.2.2=N.2.2/\N.2.1.length<=65536/\∃g,g<=h'.next/\BL h' x.2.1 N.2.1 g
def sr (s:ζ):Bool×ε×Int:=match Lib.atoiAll (s.extract ((Lib.indexByte s.data.toList 101).toNat+1) s.size).data.toList with
 |.ok e=>numOf s (Lib.indexByte s.data.toList 101).toNat e
 |_=>(false,[],0)
theorem vR.put {s}{cs}{g k n}{e}{c}(r:vR h s 1 cs g)(f:FL h k):vR (h.cM k n e c) s 1 cs g:=
 ⟨r.1,r.2.imp (λx=>x) λ⟨a,h1,h2,c,b,e,h3,h4⟩=>⟨a,h1,h2,c,b,e,(ie λx=>by rw[x,f.2.2] at h3;cases h3).trans h3,h4⟩⟩
theorem aeV {s:ζ}{i n a1}(hs:s.size<=65536)(hn:s.size+1<n)(hi:i<s.size)(hpos:0<i)(z:Z h0 h [.ar a1 [.bool false,aE,vi 0] bw]) :
  Wp (rM n s (ak a1) (i:Int)) h λx h'=>(x.2=match Lib.atoiAll (s.extract (i+1) s.size).data.toList with | .ok e=>UJ s i e|_=>false)/\Fr (λ_=>False) h0 h'/\(x.2=true->IF (match Lib.atoiAll (s.extract (i+1) s.size).data.toList with | .ok e=>numOf s i e|_=>(false,[],0)) h' x.1):=by
 unfold rM;rw[xQ (by omega) (by omega),ah,gj];refine⟨by omega,by omega,by omega,?_⟩;rw[show (((i:Int)+1).toNat)=i+1 by omega,aba];have hsz:(s.extract (i+1) s.size).size<=65536:=by simp;omega
 refine z.call (NQ hsz z.wf) λr h1 hr f1 z1=>?_;cases e:Lib.atoiAll (s.extract (i+1) s.size).data.toList with
 |range=>
  rw[e] at hr;refine Cs hr ?_;rw[By (show (!false)=true from rfl)];exact (Ax (s:=ow) z1 0 rfl rfl).mono λx h' hx=>⟨hx.1,hx.2.1,λe=>by grind⟩
 |ok v=>
  rw[e] at hr;simp at hr;subst hr;refine zB rfl ?_;show Wp (sh (im s 0 (i:Int)) _) h1 _;rw[ah,gj];refine⟨by omega,by omega,by omega,?_⟩;rw[aba];unfold strings_TrimPrefix;rw[ah,ag];have ec:(⟨(Lib.trimPrefix (s.extract (0:Int).toNat i).data.toList (ofBytes [45]).data.toList).toArray⟩:ζ)=yA s i:=rfl;rw[ec];have hcs:(yA s i).size<=s.size:=by
   show (Lib.trimPrefix (s.extract 0 i).data.toList [45]).toArray.size<=_;have h1:=IY (s.extract 0 i).data.toList [45];have h2:(s.extract 0 i).data.toList.length<=s.size:=EX s 0 i
   grind
  refine z1.dP [7] (by decide) (by simp) λkb h2 z2=>?_;have hfr:FL h2 (kb+7):=z2.get 0 rfl;obtain⟨c0,hc0⟩:∃c0,s[0]?=some c0:=⟨s[0]'(by omega),by grind⟩;rw[ah,je];refine⟨c0,by omega,hc0,?_⟩;have hdl:(yV (yA s i)).length=(yA s i).size:=by unfold yV;simp_all
  refine ah.2 ((aa3 z2 (by omega) (by omega)).mono λx h4 hx=>?_);obtain⟨b2,rfl,z4⟩:=hx;have hk4:FL h4 (kb+7):=z4.get 1 rfl;have hk4:=hk4.2.1;rw[<-hdl];refine ah.2 ((aeQ z4 (by omega) (by omega) _ v).mono λr h5 hr=>?_);obtain⟨r1,r2,z5,g,bl,hg2,hg3⟩:=hr;have ha1:a1<h4.next:=LB.lt (z4.get 2 rfl) z4.wf
  have eneg:decide ((c0.toNat:Int)=45)=(s.data.toList.head?==some 45):=by
   rw[EV] at hc0;rw[aoE,hc0];by_cases hq:c0=45
   .simp_all
   .have:¬((c0.toNat:Int)=45):=λe=>hq (UInt8.toNat_inj.1 (by grind))
    grind
  rw[eneg] at r1 r2 bl;obtain⟨neg,sl,ee⟩:=r;simp at r1 r2 bl;rw[show xJ (s.data.toList.head?==some 45) (yV (yA s i)) v=numOf s i v from rfl] at r1 r2 bl;subst r1;subst r2;have hDl:(numOf s i v).2.1.length<=65536:=by
   grind [Kr,yV,yA,numOf]
  have hDn:(numOf s i v).2.1.length<n:=by
   grind [Kr,yV,yA,numOf]
  show Wp _ _ λ(x:(Bool×Sl×Int)×Bool) h'=>x.2=akv (numOf s i v) s/\Fr (λ_=>False) h0 h'/\(x.2=true->IF (numOf s i v) h' x.1);generalize numOf s i v=N at bl hDl hDn⊢;obtain⟨N1,N2,N3⟩:=N;have hf:FL h5 (kb+7):=z5.get 0 rfl;have hg:g≠kb+7+1:=by omega
  rw[ah,PF];refine⟨rfl,hf.1,hf.2.1,hf.2.2,?_⟩;have z5:=z5.put (i:=0) rfl (e:=bw) (cs:=[.bool false,aE,vi 0])
  replace bl:=vR.put bl hf (n:=h5.next) (e:=bw) (c:=[.bool false,aE,vi 0])
  refine z5.yW 0 (cs':=[.bool N1,aA sl,vi N3]) (λh6 z6 f6=>?_);have bl:BL h6 sl N2 g:=vR.fr bl f6 λe=>absurd e hg;have hg6:g<=h6.next:=acY hg2 f6.next
  refine z6.gh 0 (x:=((N1,sl,N3):j9 [.bool,.sl,li])) ?_;refine z6.gh 0 (x:=((N1,sl,N3):j9 [.bool,.sl,li])) ?_;refine z6.Qb 0 (aa4 z6.wf bl) λr h7 hr f7 z7=>?_;subst hr;show Wp _ _ λ(x:(Bool×Sl×Int)×Bool) h'=>x.2=(decide (NP N2 N3=0)&&qk (UI N1 N2 N3) s)/\Fr (λ_=>False) h0 h'/\(x.2=true->IF (N1,N2,N3) h' x.1);by_cases hl:NP N2 N3=0
  .rw[By (by grind)];refine z7.gh 0 (x:=((N1,sl,N3):j9 [.bool,.sl,li])) ?_;refine z7.Qb 0 (aeT z7.wf (bl.fr f7) (acY hg6 f7.next) hDl hDn (aoB hl)) λr h8 hr f8 z8=>?_
   subst hr;rw[decide_eq_true hl,aoI];exact (Ax z8 1 rfl rfl).mono λx h' hx=>⟨hx.1,hx.2.1,λ_=>by
    obtain⟨_,_,e,f9⟩:=hx;rw[e];exact⟨rfl,rfl,hDl,g,acY hg6 (acY f7.next (acY f8.next f9.next)),vR.fr ((bl.fr f7).fr f8) f9 λe=>by omega⟩⟩
  .rw[AT (by grind)];rw[decide_eq_false hl,apm];exact (Ax z7 1 rfl rfl).mono λx h' hx=>⟨hx.1,hx.2.1,λe=>by grind⟩
 |_=>
  rw[e] at hr;refine Cs hr ?_;rw[By (show (!false)=true from rfl)];exact (Ax (s:=ow) z1 0 rfl rfl).mono λx h' hx=>⟨hx.1,hx.2.1,λe=>by grind⟩
theorem wh {s}{n}(hs:s.size<=65536)(hn:s.size+1<n)(hw:WF h):Wp (qB n s) h λx h'=>x.2=Cr s/\Fr (λ_=>False) h h'/\(x.2=true->IF (sr s) h' x.1):=by
  unfold qB;refine (Z.start hw).new λx0 h1 z1 f1=>?_;unfold strings_IndexByte;rw[ah,ag];rw[show (101:Int).toNat.toUInt8=(101:UInt8) from rfl];rcases ixb s.data.toList 101 with hneg|⟨i,hi,hc⟩
  .rw[By (by grind),aa7 hneg];exact (Ax (s:=ow) z1 0 rfl rfl).mono λx h' hx=>⟨hx.1,hx.2.1,λe=>by grind⟩
  .have hlt:i<s.size:=(List.getElem?_eq_some_iff.1 hc).1;rw[aeU hi,hi,AT (by simp),ah,gj];refine⟨by omega,by omega,by omega,?_⟩;rw[aba,show (0:Int).toNat=0 from rfl];have hes:=EX s 0 i;refine z1.call (zy (by omega) (by omega) z1.wf) λr h2 hr f2 z2=>?_;subst hr;cases hok:nC (s.extract 0 i) with
   |false=>
    rw[By (show (false=false) from rfl),By (show (!false)=true from rfl)];exact (Ax (s:=ow) z2 0 rfl rfl).mono λx h' hx=>⟨hx.1,hx.2.1,λe=>by grind⟩
   |true=>
    have hp:=XJ hok;have hip:0<i:=by
     have:(s.extract 0 i).size=min i s.size:=(by simp);omega
    rw[AT (show ¬(true=false) by decide),AT (show ¬((!true)=true) by decide),xQ (by omega) (by omega)];by_cases h6:6<(s.size:Int)-(i:Int)
    .rw[By (by grind),By h6];exact (Ax (s:=ow) z2 0 rfl rfl).mono λx h' hx=>⟨hx.1,hx.2.1,λe=>by grind⟩
    .rw[AT (by grind),AT h6];refine (aeV hs hn hlt hip z2).mono λx h' hx=>?_
     grind [sr,Int.toNat_natCast]
def Hq {s}{n}(hs:s.size<=65536)(hn:s.size+1<n)(hw:WF h):Wp (vr n s) h λx h'=>x=Cr s/\Fr (λ_=>False) h h':=by
 unfold vr;rw[ah];refine (wh hs hn hw).mono λx h1 hx=>?_;have z1:=(Z.start hw).pure hx.2.1;refine z1.new λb h2 z2 f2=>?_;refine z2.st 0 (cs':=[.bool x.1.1,aA x.1.2.1,vi x.1.2.2]) λh3 z3=>?_;exact ag.2 ⟨hx.1,z3.fr⟩
end
end Go.Sh
