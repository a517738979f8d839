
import Derived.Test.YthcljaholofonaaGreatDoorBi
import Derived.Test.YthcljaholofonaaGreatDoorGi
set_option linter.all false
namespace Go.Sh
open Go Go.Ago Go.Proofs
section
variable {α β:Type}{h h' h0:aj}{L:List bA}{Q:β->aj->Prop}
def stripR:ε->Int->ε×Int
 |[],e=>([],e)
 |x::r,e=>if x=0 then stripR r (IntKind.i64.wrap (e+1)) else ((x::r).reverse,e)
def stripL:ε->ε
 |[]=>[]
 |x::r=>if x=0 then stripL r else x::r
def DJ (neg:Bool)(D:ε)(e:Int):Bool×ε×Int:=
 if (stripR (stripL D).reverse e).1.length=0 then (false,[],0) else (neg,(stripR (stripL D).reverse e).1,(stripR (stripL D).reverse e).2)
theorem HH:∀D:ε,(stripL D).length<=D.length
 |[]=>acX _
 |x::r=>by
  unfold stripL;split
  .have:=HH r;grind
  grind
theorem MQ:∀D e ,(stripR D e).1.length<=D.length
 |[],e=>acX _
 |x::r,e=>by
  unfold stripR;split
  .have:=MQ r (IntKind.i64.wrap (e+1));grind
  .simp
def BL (h:aj)(s:Sl)(xs:ε)(g:Nat):Prop:=wK h s 1 (xs.map v8) g
def Qw {γ:Type}{D:List γ}{z d}{i}(hd:D[i]?=some d):(D.take i++List.replicate (D.length-i) z).set i d=D.take (i+1)++List.replicate (D.length-(i+1)) z:=by
 have hlt:=(List.getElem?_eq_some_iff.1 hd).1;have hl:(D.take i).length=i:=by grind
 obtain⟨m,hm⟩:∃m,D.length-i=m+1:=⟨D.length-i-1,by omega⟩;rw[hm,anP,aoa _ _ (by omega),hl,apq,anK,apN,hd,show D.length-(i+1)=m by omega];simp
def Th {s}{b}(hs:s.size<=65536):∀n i h ,s.size-i<n->i<=s.size->Z h0 h (.au b (((B3 s).take i++List.replicate ((B3 s).length-i) 0).map v8) gH::L) ->
  Wp (oN n s ⟨some ⟨b,0,none⟩,s.size,s.size+1⟩ (s.size:Int) (i:Int)) h λ_ h'=>Z h0 h' (.au b ((B3 s).map v8) gH::L):=by
 have hl:(B3 s).length=s.size:=by grind [B3,List.length_map,nB]
 intro n
 induction n with
 |zero=>intro i h h1;omega
 |succ n ih=>
  intro i h h1 h2 z;rw[Cg];unfold tG;refine eE.2 ⟨(λhc=>?_),λhc=>?_⟩
  .have hi:i<s.size:=by grind
   obtain⟨c,hc1⟩:∃c,s[i]?=some c:=⟨s[i],by simp[hi]⟩;have hd:(B3 s)[i]?=some (abZ c):=by
    grind [B3,za]
   rw[ah,fA];refine⟨c,by omega,by grind,ze (by omega) (by omega) ?_⟩;simp;refine Z.Cb z 0 (enc:=v8) (xs:=(B3 s).take i++List.replicate ((B3 s).length-i) 0) (v:=abZ c) (by grind) λh' z'=>?_;rw[Qw hd] at z';rw[pA (by omega) (by omega)];exact ih (i+1) h' (by omega) (by omega) z'
  .have hi:i=s.size:=by grind
   refine ag.2 ?_;rw[hi,<-hl] at z
   grind
def ab1 (z:Z h0 h L){s}{n}(hs:s.size<=65536)(hn:s.size<n):Wp (wx n s) h λx h'=>∃b,x=⟨some ⟨b,0,none⟩,s.size,s.size+1⟩/\Z h0 h' (.au b ((B3 s).map v8) gH::L):=by
 unfold wx;have hl:(B3 s).length=s.size:=by grind [B3,List.length_map,nB]
 refine z.Ig (by omega) (by grind [bJ]) λb h' z1 _=>?_;have e1:(List.replicate s.size [v8 0]).flatten=((B3 s).take 0++List.replicate ((B3 s).length-0) 0).map v8:=by
  simp_all
 simp only[IS] at z1⊢;rw[e1] at z1;exact ah.2 ((Th hs n 0 _ (by omega) (by omega) z1).mono λ_ h' z2=>ag.2 ⟨b,rfl,z2⟩)
def UQ (z:Z h0 h L)(i:Nat){b o m c}{xs:ε}{j}{x}(hi:L[i]?=some (.au b (xs.map v8) gH))(hx:((xs.drop o).take m)[j.toNat]?=some x)(h1:0<=j){f:Int->M β}(q:Wp (f x) h Q) :
  Wp (sh (ni ⟨some ⟨b,o,none⟩,m,c⟩ j 1) λa=>sh (dz (.int .u8) a) f) h Q:=by
 have hlt:=(List.getElem?_eq_some_iff.1 hx).1;rw[anH] at hlt;have l:LB h b (xs.map v8) gH:=z.get i hi;rw[ah,ta];refine⟨_,rfl,h1,by grind,?_⟩;rw[ah,yr];refine⟨x,?_,q⟩;refine l.ld (v:=v8 x) ?_ rfl;rw[ap1,anB] at hx;split at hx
 .simp only[Addr.plus,adY]
  grind
 grind
def UR (z:Z h0 h L)(i:Nat){b o m c:Nat}{xs:ε}{lo hi:Int}(hL:L[i]?=some (.au b (xs.map v8) gH))(h1:0<=lo)(h2:lo<=hi)(h3:hi<=m){f}
  (q:∀c',Wp (f ⟨some ⟨b,o+lo.toNat,none⟩,hi.toNat-lo.toNat,c'⟩) h Q):Wp (sh (jH ⟨some ⟨b,o,none⟩,m,c⟩ lo hi gH 1) f) h Q:=by
 have l:LB h b (xs.map v8) gH:=z.get i hL;rw[ah];refine rV h1 h2 (by grind) (by simp[mM,l.get]) ?_;simp[apm,Addr.plus,adY];exact q _
def afY (z:Z h0 h L)(i:Nat){b}{xs:ε}(hL:L[i]?=some (.au b (xs.map v8) gH)) neg e a3:∀n o m c ,m<n->o+m<=xs.length ->
  Wp (qg n neg ⟨some ⟨b,o,none⟩,m,c⟩ e a3) h λr h'=>h'=h/\∃o' m' c',r=⟨some ⟨b,o',none⟩,m',c'⟩/\o'+m'<=xs.length/\(xs.drop o').take m'=stripL ((xs.drop o).take m):=by
 intro n
 induction n with
 |zero=>intro o m c h1;omega
 |succ n ih=>
  intro o m c h1 h2;rw[Df];unfold ux;refine eE.2 ⟨(λhc=>?_),λhc=>?_⟩
  .have hm:0<m:=by grind
   obtain⟨m,rfl⟩:∃m',m=m'+1:=⟨m-1,by omega⟩;obtain⟨x,hx⟩:∃x,xs[o]?=some x:=⟨xs[o],adg (by omega)⟩;have hd:(xs.drop o).take (m+1)=x::(xs.drop (o+1)).take m:=by
    rw[drop_cons hx,List.take_succ_cons]
   refine UQ z i hL (by rw[hd];rfl) (by omega) ?_;rw[hd];refine eE.2 ⟨(λh0=>?_),λh0=>?_⟩
   .have h0:x=0:=(by grind);refine UR z i hL (by omega) (by grind) (by grind) λc'=>?_;rw[show o+(1:Int).toNat=o+1 from rfl,show ((((⟨some ⟨b,o,none⟩,m+1,c⟩:Sl).len:Nat):Int).toNat-(1:Int).toNat)=m by simp];refine (ih (o+1) m c' (by omega) (by omega)).mono λr h' hr=>?_;obtain⟨r1,o',m',c2,r2,r3,r4⟩:=hr;refine⟨r1,o',m',c2,r2,r3,?_⟩;rw[r4,stripL,By h0]
   .have h0:¬x=0:=(by grind);exact ag.2 ⟨rfl,o,m+1,c,rfl,h2,by rw[hd,stripL,AT h0]⟩
  .have hm:m=0:=by grind
   subst hm;exact ag.2 ⟨rfl,o,0,c,rfl,h2,by simp[stripL]⟩
def afZ (z:Z h0 h L)(i:Nat){b}{xs:ε}(hL:L[i]?=some (.au b (xs.map v8) gH))(hxs:xs.length<=65536) neg a3:∀n o m c e ,m<n->o+m<=xs.length ->
  Wp (qf n neg ⟨some ⟨b,o,none⟩,m,c⟩ e a3) h λr h'=>h'=h/\∃m' c',r.1=⟨some ⟨b,o,none⟩,m',c'⟩/\o+m'<=xs.length/\stripR ((xs.drop o).take m).reverse e=((xs.drop o).take m',r.2):=by
 intro n
 induction n with
 |zero=>intro o m c e h1;omega
 |succ n ih=>
  intro o m c e h1 h2;rw[De];unfold uw;refine eE.2 ⟨(λhc=>?_),λhc=>?_⟩
  .have hm:0<m:=by grind
   obtain⟨m,rfl⟩:∃m',m=m'+1:=⟨m-1,by omega⟩;obtain⟨x,hx⟩:∃x,xs[o+m]?=some x:=⟨xs[o+m],adg (by omega)⟩;have hx2:(xs.drop o)[m]?=some x:=by grind
   have hd:(xs.drop o).take (m+1)=(xs.drop o).take m++[x]:=by grind [List.take_succ]
   have ew:IntKind.i64.wrap ((((⟨some ⟨b,o,none⟩,m+1,c⟩:Sl).len:Nat):Int)-1)=(m:Int):=by
    grind [vw]
   rw[ew];refine UQ z i hL (x:=x) (by grind [Int.toNat_natCast,List.getElem?_append_right,List.length_take,List.length_drop,min]) (by omega) ?_;rw[hd,List.reverse_append,List.reverse_singleton,aq9];refine eE.2 ⟨(λh0=>?_),λh0=>?_⟩
   .have h0:x=0:=(by grind);refine UR z i hL (by omega) (by omega) (by omega) λc'=>?_;rw[show o+(0:Int).toNat=o from rfl,show ((m:Int).toNat-(0:Int).toNat)=m by simp];refine (ih o m c' _ (by omega) (by omega)).mono λr h' hr=>?_;obtain⟨r1,m',c2,r2,r3,r4⟩:=hr;refine⟨r1,m',c2,r2,r3,?_⟩;rw[stripR,By h0];exact r4
   .have h0:¬x=0:=(by grind);refine ag.2 ⟨rfl,m+1,c,rfl,h2,?_⟩;rw[stripR,AT h0,hd];simp
  .have hm:m=0:=by grind
   subst hm;exact ag.2 ⟨rfl,0,c,rfl,h2,by simp[stripR]⟩
def Yg (z:Z h0 h L){e}{cs}{f}(q:∀h',Z h0 h' (.au h.next cs e::L)->h'.next=h.next+1->Wp (f h.next) h' Q)(hs:cs.all fv=true:=by rfl):Wp (sh (gG none e cs) f) h Q:=by
 rw[ah,Hd];exact⟨hs,q _ (z.add (Fr.new z.wf) LB.new (.inr (IT _))) rfl⟩
def mkN (z:Z h0 h L){m:Nat}{f}(hm:m<=65536)(q:∀h',Z h0 h' (.au h.next (List.replicate m (v8 0)) gH::L)->Wp (f ⟨some ⟨h.next,0,none⟩,m,m+1⟩) h' Q):Wp (sh (xm none gH [v8 0] (m:Int) (m:Int)) f) h Q:=by
 rw[ah];refine R5 (by omega) (ajl _) (by grind [bJ]) (q _ ?_);have z1:=z.add (Fr.new (e:=gH) (cs:=(List.replicate m [v8 0]).flatten) z.wf) (o:=.au h.next _ gH) LB.new (.inr (IT _))
 simp_all
def aos (z:Z h0 h L)(i j:Nat){b b2 o m c}{xs:ε}{f}(hi:L[i]?=some (.au b2 (List.replicate m (v8 0)) gH))(hj:L[j]?=some (.au b (xs.map v8) gH))(hm:0<m)(ho:o+m<=xs.length)
  (q:∀h',Z h0 h' (L.set i (.au b2 (((xs.drop o).take m).map v8) gH))->Wp (f m) h' Q):Wp (sh (Jv ⟨some ⟨b2,0,none⟩,m,m+1⟩ ⟨some ⟨b,o,none⟩,m,c⟩ 1) f) h Q:=by
 have l:LB h b (xs.map v8) gH:=z.get j hj;have hl:(((xs.drop o).take m).map v8).length=m:=by grind
 have hcell:aX h (some ⟨b,o,none⟩) (Nat.min m m*1)=some (((xs.drop o).take m).map v8):=by
  unfold aX;simp only[l.get]
  simp_all
 obtain⟨x,h1,e1,q1⟩:=Z.st z i (f:=AI) (Q:=λ_ h'=>Z h0 h' (L.set i (.au b2 (((xs.drop o).take m).map v8) gH)))
  (λh' z'=>ag.2 z') hi (by unfold aR;rw[ad6,hl];simp) (by grind) (by rw[List.all_map,anG];intro x _;rfl)
 refine ah.2 ⟨m,h1,?_,q h1 q1⟩;have e3:sL ⟨b2,0,none⟩ (((xs.drop o).take m).map v8) h=some ((),h1):=by
  unfold sh at e1;split at e1
  .rename_i u h5 hu;cases e1;exact hu
  .cases e1
 grind [Jv]
def af0 {b n c}{xs}(z:Z h0 h (.au b (xs.map v8) gH::L))(hx:xs.length<=65536)(hn:xs.length<n) neg e :
  Wp (xD n neg ⟨some ⟨b,0,none⟩,xs.length,c⟩ e) h λr h'=>r.1=(DJ neg xs e).1/\r.2.2=(DJ neg xs e).2.2/\Z h0 h' L/\∃g,BL h' r.2.1 (DJ neg xs e).2.1 g/\g<=h'.next/\(g=0\/h.next<g):=by
 unfold xD;refine Yg z λh1 z1 n1=>?_;refine ah.2 ((afY z1 1 rfl neg e _ n 0 xs.length c hn (by omega)).mono λr h' hr=>?_);obtain⟨hh,o,m,c',rfl,hom,e1⟩:=hr;have hh:=hh.symm;subst hh;rw[alZ,apS] at e1;have hm:=HH xs;rw[<-e1,anH,apP] at hm;refine ah.2 ((afZ z1 1 rfl hx neg _ n o m c' e (by omega) hom).mono λr h' hr=>?_);obtain⟨hh,m2,c2,e2,hom2,e3⟩:=hr;have hh:=hh.symm;subst hh;obtain⟨sl,ee⟩:=r;simp at e2 e3;subst e2;rw[e1] at e3;have e4:(stripR (stripL xs).reverse e).1=(xs.drop o).take m2:=by rw[e3]
 have e5:(stripR (stripL xs).reverse e).2=ee:=by rw[e3]
 have el:((xs.drop o).take m2).length=m2:=by grind
 refine eE.2 ⟨(λhc=>?_),λhc=>?_⟩
 .have hm0:m2=0:=by grind
  have en:DJ neg xs e=(false,[],0):=by unfold DJ;grind
  refine z1.st 0 (cs':=[.bool false,aI,vi 0]) λh2 z2=>?_;refine z2.eZ 0 (x:=((false,oz,0):pC [.bool,.sl,li])) (ag.2 ?_);rw[en];exact⟨rfl,rfl,z2.drop.drop,0,wK.nil rfl,aea _,.inl rfl⟩
 .have hm0:0<m2:=by grind
  have en:DJ neg xs e=(neg,(xs.drop o).take m2,ee):=by grind [DJ]
  refine mkN (m:=m2) z1 (by omega) λh2 z2=>?_;refine aos z2 0 2 rfl rfl hm0 hom2 λh3 z3=>?_;refine z3.st 1 (cs':=[.bool neg,.slice (some ⟨h1.next,0,none⟩) m2 (m2+1),vi ee]) λh4 z4=>?_
  refine z4.eZ 1 (ag.2 ?_);rw[en];have l:LB h4 h1.next (((xs.drop o).take m2).map v8) gH:=z4.get 0 rfl
  exact⟨rfl,rfl,z4.drop.drop.drop,h1.next+1,l.BX (by grind),LB.lt l z4.wf,.inr (by omega)⟩
end
section
variable {α β:Type}{h h' h0:aj}{L:List bA}{Q:β->aj->Prop}
def _root_.Go.Ago.Z.Qx (z:Z h0 h L)(i:Nat){b:Nat}{a:Addr}{cs:δ}{e:κ}{m:M α}{f:α->M β}{P:α->Prop}(hm:Wp m h λr h'=>P r/\Fr (λ_=>False) h h')
  (q:∀r h',P r->Fr (λ_=>False) h h'->Z h0 h' L->Wp (f r) h' Q) (hi:L[i]?=some (.au b cs e):=by rfl) (ha:a.block=b:=by rfl):Wp (sh (Ago.sM [some a] m) f) h Q:=by
 rw[ah];have l:LB h b cs e:=z.get i hi;refine J8 (hm.mono λr h' hp=>⟨λa' hma=>?_,q r h' hp.1 hp.2 (z.pure hp.2)⟩);simp at hma;subst hma;rw[ha,l.get];exact hp.2.cells _ _ _ _ _ l.get λx=>x.elim
def BL.fr {s}{D}{g}(b:BL h s D g)(f:Fr (λ_=>False) h h'):BL h' s D g:=wK.fr b f λx=>x.elim
theorem BL.len {s}{D}{g}(b:BL h s D g):s.len=D.length:=wK.Hg (enc:=v8) b
def Ti (D:ε)(e:Int):Int:=if 400<D.length then 6 else if e < -2000 then 2 else if 2000<e then 2 else 0
def byt (x:Int):UInt8:=UInt8.ofNat x.toNat
def Yh (D:ε):ζ:=ofBytes (D.map λd=>byt (IntKind.u8.wrap (48+d)))
def Qy (neg:Bool)(D:ε):ζ:=if D.length=0 then ofBytes [48] else (if neg then ofBytes [45] else ofBytes [])++Yh D
def ab2 (neg:Bool)(D:ε)(e:Int):ζ:=Qy neg D++ofBytes [101]++⟨(Lib.itoa e).toArray⟩
def ab3 {s}{D}{g}{neg}{e}{n}(hw:WF h)(bl:BL h s D g):Wp (qW n (neg,s,e)) h λr h'=>r=Ti D e/\Fr (λ_=>False) h h':=by
 unfold qW;refine (Z.start hw).new λx0 h1 z1 f1=>?_;have hl:=bl.len;refine z1.ld 0 ?_;unfold Ti;by_cases h1:400<D.length
 .rw[By (by grind),By h1];exact ag.2 ⟨rfl,z1.fr⟩
 rw[AT (by grind),AT h1];refine z1.ld 0 ?_;by_cases h2:e < -2000
 .rw[By (by grind),By h2];exact ag.2 ⟨rfl,z1.fr⟩
 rw[AT (by grind),AT h2];refine z1.ld 0 ?_;by_cases h3:2000<e
 .rw[By (by grind),By h3];exact ag.2 ⟨rfl,z1.fr⟩
 rw[AT (by grind),AT h3];exact ag.2 ⟨rfl,z1.fr⟩
def af1 {s}{neg}{e}{n}(hw:WF h):Wp (r9 n (neg,s,e)) h λr h'=>r=(if neg then ofBytes [45] else ofBytes [])/\Fr (λ_=>False) h h':=by
 unfold r9;refine (Z.start hw).new λx0 h1 z1 f1=>?_;refine z1.ld 0 ?_;cases neg
 .exact ag.2 ⟨rfl,z1.fr⟩
 .exact ag.2 ⟨rfl,z1.fr⟩
def Rk (d:Int):Int:=IntKind.u8.wrap (48+d)
def Qz {s}{D:ε}{g b m}(hD:D.length<=65536):∀n i h ,D.length-i<n->i<=D.length->BL h s D g->g<=h0.next->Z h0 h (.au b ((((D.map Rk).take i++List.replicate ((D.map Rk).length-i) 0)).map v8) gH::L) ->
  Wp (jn n ⟨some ⟨b,0,none⟩,D.length,m⟩ s (s.len:Int) (i:Int)) h λ_ h'=>Z h0 h' (.au b ((D.map Rk).map v8) gH::L):=by
 intro n
 induction n with
 |zero=>intro i h h1;omega
 |succ n ih=>
  intro i h h1 h2 bl hg z;have hl:=bl.len;rw[yx];unfold oO;by_cases hi:i<D.length
  .rw[By (by grind)];obtain⟨d,hd⟩:=cG hi;refine wK.Jf bl (by omega) (by simpa using hd) λa c=>c.mN rfl rfl ?_;refine ze (by omega) (by omega) ?_;simp only[IS,adY];have hne:b+1≠g:=by
    have:=(z.own _ OF).2;simp only[bA.jU] at this;omega
   have l:LB h b _ _:=z.get 0 rfl;rw[ah];have hdm:(D.map Rk)[i]?=some (Rk d):=by grind
   have hst:=Z.Cb z 0 (xs:=(D.map Rk).take i++List.replicate ((D.map Rk).length-i) 0) (k:=i) (Q:=λ_ h'=>Z h0 h' (.au b ((((D.map Rk).take (i+1)++List.replicate ((D.map Rk).length-(i+1)) 0)).map v8) gH::L)) (by grind) (λh' z'=>ag.2 (by rw[Qw hdm] at z';exact z'));have hfr:Wp (sL ⟨b,i,none⟩ [v8 (Rk d)]) h λ_ h'=>Fr (·=b+1) h h':=l.st z.wf (by grind) rfl λh' _ f=>f
   obtain⟨u,h5,e5,q5⟩:=hst;obtain⟨u2,h6,e6,q6⟩:=hfr;have e7:sL ⟨b,i,none⟩ [v8 (Rk d)] h=some ((),h5):=by
    unfold sh at e5;split at e5
    .rename_i hu;cases e5;exact hu
    grind
   rw[e7] at e6;cases e6;refine⟨(),h5,e7,?_⟩;rw[pA (by omega) (by omega)];exact ih (i+1) h5 (by omega) (by omega) (wK.fr bl q6 λe=>absurd e.symm hne) hg q5
  .have hi:i=D.length:=by omega
   subst hi;rw[AT (by grind),ag];have:(D.map Rk).take D.length++List.replicate ((D.map Rk).length-D.length) 0=D.map Rk:=by
    rw[apx (by simp)];simp
   grind
theorem KK:∀l:ε,bytesOf (l.map v8)=some (l.map byt)
 |[]=>rfl
 |x::l=>by
  simp[adZ,bytesOf];rw[KK l];rfl
def ab4 {b m}{xs:ε}(l:LB h b (xs.map v8) gH){f}(q:Wp (f (ofBytes (xs.map byt))) h Q):Wp (sh (strOf ⟨some ⟨b,0,none⟩,xs.length,m⟩) f) h Q:=by
 rw[ah];refine⟨ofBytes (xs.map byt),h,?_,q⟩;unfold strOf;have:aX h (some ⟨b,0,none⟩) xs.length=some (xs.map v8):=by
  unfold aX;simp only[l.get]
  grind
 grind [KK]
def Yi {s}{D}{g}{neg}{e}{n}(hw:WF h)(bl:BL h s D g)(hg:g<=h.next)(hD:D.length<=65536)(hn:D.length<n) :
  Wp (pJ n (neg,s,e)) h λr h'=>r=Yh D/\Fr (λ_=>False) h h':=by
 unfold pJ;have hl:=bl.len;refine (Z.start hw).new λx0 h1 z1 f1=>?_;refine z1.ld 0 ?_;change Wp (sh (xm none gH [v8 0] (s.len:Int) (s.len:Int)) _) _ _;refine z1.Ig (by omega) (by grind [bJ]) λb h2 z2 f2=>?_;refine z2.ld 1 ?_;rw[ah];have e1:(List.replicate ((s.len:Int)).toNat [v8 0]).flatten=((((D.map Rk).take 0++List.replicate ((D.map Rk).length-0) 0)).map v8):=by
  simp_all
 rw[e1] at z2;have e2:((s.len:Int)).toNat=D.length:=by omega
 rw[e2];refine (Qz hD n 0 h2 (by omega) (by omega) ((bl.fr f1).fr f2) hg z2).mono λ_ h3 z3=>?_;have l:=z3.get 0 rfl;have:=ab4 (m:=D.length+1) (f:=λx=>AI x) (Q:=λr h'=>r=Yh D/\Fr (λ_=>False) h h') l (ag.2 ⟨by unfold Yh;rw[aqW];rfl,z3.fr⟩)
 rwa [aii] at this
def af2 {s}{D}{g}{neg}{e}{n}(hw:WF h)(bl:BL h s D g)(hg:g<=h.next)(hD:D.length<=65536)(hn:D.length<n) :
  Wp (se n (neg,s,e)) h λr h'=>r=Qy neg D/\Fr (λ_=>False) h h':=by
 unfold se Qy;have hl:=bl.len;refine (Z.start hw).new λx0 h1 z1 f1=>?_;refine z1.ld 0 ?_;by_cases h0:D.length=0
 .rw[By (by grind),By h0];exact ag.2 ⟨rfl,z1.fr⟩
 rw[AT (by grind),AT h0];refine z1.eZ 0 (x:=((neg,s,e):pC [.bool,.sl,li])) ?_;refine z1.eZ 0 (x:=((neg,s,e):pC [.bool,.sl,li])) ?_;refine z1.Qx 0 (af1 z1.wf) λr h2 hr f2 z2=>?_;subst hr;refine z2.call (Yi z2.wf ((bl.fr f1).fr f2) (ad5 hg (ad5 f1.next f2.next)) hD hn) λr h3 hr f3 z3=>?_
 subst hr
 try dsimp
 rw[ah,tc];have hs:(Yh D).size=D.length:=by show (D.map _).toArray.size=_;simp
 have hs2:(if neg=true then ofBytes [45] else ofBytes []).size<=1:=by cases neg<;>decide
 exact⟨by grind [bJ],ag.2 ⟨rfl,z3.fr⟩⟩
def Tj neg D:(Qy neg D).size<=D.length+1:=by
 unfold Qy;split
 .show [48].toArray.size<=_;simp
 .have hs:(Yh D).size=D.length:=by show (D.map _).toArray.size=_;simp
  have hs2:(if neg=true then ofBytes [45] else ofBytes []).size<=1:=by cases neg<;>decide
  grind
def Jk:∀m u ,u<10^m->0<m->Lib.nDigits u<=m:=by
 intro m
 induction m with
 |zero=>grind
 |succ m ih=>
  intro u hu _;rw[Lib.nDigits]
  grind
theorem ab5 {e}(he:-2000<=e/\e<=2000):(Lib.itoa e).length<=5:=by
 unfold Lib.itoa;split
 .rw[acg,Lib.decDigits_length];have:=Jk 4 e.natAbs (by omega) (by omega);omega
 .rw[Lib.decDigits_length];have:=Jk 4 e.toNat (by omega) (by omega);omega
def af3 {s}{D}{g}{neg}{e}{n}(hw:WF h)(bl:BL h s D g)(hg:g<=h.next)(hD:D.length<=65536)(hn:D.length<n)(he:-2000<=e/\e<=2000) :
  Wp (sk n (neg,s,e)) h λr h'=>r=ab2 neg D e/\Fr (λ_=>False) h h':=by
 unfold sk;refine (Z.start hw).new λx0 h1 z1 f1=>?_;refine z1.eZ 0 (x:=((neg,s,e):pC [.bool,.sl,li])) ?_;refine z1.ld 0 ?_;refine z1.Qx 0 (af2 z1.wf (bl.fr f1) (ad5 hg f1.next) hD hn) λr h2 hr f2 z2=>?_
 subst hr;have hc:=Tj neg D
 try dsimp
 rw[ah,tc];refine⟨by unfold bJ;have:(ofBytes [101]).size=1:=rfl;omega,?_⟩;unfold strconv_Itoa;rw[By (by omega),ah,ag,ah,tc];refine⟨?_,ag.2 ⟨rfl,z2.fr⟩⟩;have h9:(⟨(Lib.itoa e).toArray⟩:ζ).size<=100:=by
  show (Lib.itoa e).toArray.size<=100
  grind [ab5]
 rw[ByteArray.size_append];have:(ofBytes [101]).size=1:=rfl
 grind [bJ]
end
section
variable {α β:Type}{h h' h0:aj}{L:List bA}{Q:β->aj->Prop}
def ixb l c:(Lib.indexByte l c<0)\/∃i:Nat,Lib.indexByte l c=i/\l[i]?=some c:=by
 by_cases hneg:Lib.indexByte l c<0
 .grind
 .obtain⟨i,hi⟩:∃i:Nat,Lib.indexByte l c=i:=⟨(Lib.indexByte l c).toNat,by omega⟩;exact .inr ⟨i,hi,(Lib.indexByte_some hi).1⟩
def Yj {s}(h:qe s=true):0<s.size:=by
 unfold qe at h;simp only[ac5,ab8] at h;have h1:=h.1.1;by_cases h0:s.size=0
 .simp_all
 .omega
def B4 (s:ζ)(i:Nat):ζ:=⟨(Lib.trimPrefix (s.extract 0 i).data.toList [45]).toArray⟩
def numOf (s:ζ)(i:Nat)(e:Int):Bool×ε×Int:=DJ (s.data.toList.head?==some 45) (B3 (B4 s i)) e
def aot (N:Bool×ε×Int)(s:ζ):Bool:=decide (Ti N.2.1 N.2.2=0)&&oG (ab2 N.1 N.2.1 N.2.2) s
def ab6 (s:ζ)(i:Nat)(e:Int):Bool:=aot (numOf s i e) s
def KL (s:ζ):Bool:=
 if Lib.indexByte s.data.toList 101<0 then false
 else if qe (s.extract 0 (Lib.indexByte s.data.toList 101).toNat)=false then false
 else if 6<(s.size:Int)-Lib.indexByte s.data.toList 101 then false
 else match Lib.atoiAll (s.extract ((Lib.indexByte s.data.toList 101).toNat+1) s.size).data.toList with
  |.ok e=>ab6 s (Lib.indexByte s.data.toList 101).toNat e
  |_=>false
def ab7 {s}(h:Lib.indexByte s.data.toList 101<0):KL s=false:=by unfold KL;grind
def af4 {s}{i:Nat}(h:Lib.indexByte s.data.toList 101=i):KL s=if qe (s.extract 0 i)=false then false else if 6<(s.size:Int)-(i:Int) then false else match Lib.atoiAll (s.extract (i+1) s.size).data.toList with
  |.ok e=>ab6 s i e
  |_=>false:=by
 grind [KL]
def Oe l p:(Lib.trimPrefix l p).length<=l.length:=by
 unfold Lib.trimPrefix
 grind
theorem KO neg D e:(DJ neg D e).2.1.length<=D.length:=by
 grind [DJ,MQ,stripL,HH,List.length_reverse]
def ap6 {D}{e}(h:Ti D e=0):-2000<=e/\e<=2000:=by
 grind [Ti]
def US {s}{n}(hs:s.size<=65536)(hw:WF h):Wp (strconv_Atoi n s) h λr h'=>(match Lib.atoiAll s.data.toList with | .ok v=>r=(v,.nilIface)|_=>∃t u,r.2=.iface t u)/\Fr (λ_=>False) h h':=by
 unfold strconv_Atoi;rw[By (by omega)];cases e:Lib.atoiAll s.data.toList with
 |ok v=>exact ag.2 ⟨rfl,Fr.refl hw⟩
 |range=>
  show Wp (Cc _) h _;unfold Cc;rw[ah];exact Oc λh' f=>ag.2 ⟨⟨_,_,rfl⟩,f hw⟩
 |_=>
  show Wp (Cc 0) h _;unfold Cc;rw[ah];exact Oc λh' f=>ag.2 ⟨⟨_,_,rfl⟩,f hw⟩
def Gy {f}{v}(hv:v=.nilIface)(q:Wp (f true) h Q):Wp (sh (nN v) f) h Q:=by
 rw[ah,MH];grind
def Gz {f}{v}(hv:∃t u,v=.iface t u)(q:Wp (f false) h Q):Wp (sh (nN v) f) h Q:=by
 obtain⟨t,u,hv⟩:=hv;rw[ah,MH];grind
def _root_.Go.Ago.Z.B5 (z:Z h0 h L)(i:Nat){b o:Nat}{cs vs cs':δ}{e:κ}{f:Unit->M β}{Q:β->aj->Prop}
  (q:∀h',Z h0 h' (L.set i (.au b cs' e))->Fr (·=b+1) h h'->Wp (f ()) h' Q) (hi:L[i]?=some (.au b cs e):=by rfl) (hc:aR cs o vs=cs':=by rfl) (ho:o+vs.length<=cs.length:=by first|decide|simp) (hs:vs.all fv=true:=by rfl) :
  Wp (sh (sL ⟨b,o,none⟩ vs) f) h Q:=by
 rw[ah];have l:LB h b cs e:=z.get i hi;refine l.st z.wf ho hs λh' l' fr=>q h' (z.wE hi (by simp[bA.jU]) fr ?_ (.inl rfl)) fr;rw[<-hc];exact l'
def BK (z:Z h0 h L)(i:Nat){b}{cs}{e}{neg}{s}{v}{r:Bool}(hi:L[i]?=some (.au b cs e))(hc:cs.length=3) :
  Wp (sh (sL ⟨b,0,none⟩ [.bool neg,aA s,vi v]) λ_=>sh (cF [.bool,.sl,li] ⟨b,0,none⟩) λ(y:Bool×Sl×Int)=>AI ((y.1,y.2.1,y.2.2),r)) h λx h'=>x.2=r/\Fr (λ_=>False) h0 h'/\x.1=(neg,s,v)/\Fr (·=b+1) h h':=by
 have hsp:aR cs 0 [.bool neg,aA s,vi v]=[.bool neg,aA s,vi v]:=by
  unfold aR;simp[hc]
 refine z.B5 i (λh1 z1 f1=>?_) hi hsp (by simp[hc]);have hi1:(L.set i (.au b [.bool neg,aA s,vi v] e))[i]?=some (.au b [.bool neg,aA s,vi v] e):=by
  grind
 refine z1.eZ i (x:=((neg,s,v):pC [.bool,.sl,li])) ?_ hi1;exact ag.2 ⟨rfl,z1.fr,rfl,f1⟩
theorem KP (s:ζ) a b:(s.extract a b).size<=s.size:=by simp;omega
def I7 (N:Bool×ε×Int)(h':aj)(x:Bool×Sl×Int):Prop:=x.1=N.1/\x.2.2=N.2.2/\N.2.1.length<=65536/\∃g,g<=h'.next/\BL h' x.2.1 N.2.1 g
def BM (s:ζ):Bool×ε×Int:=match Lib.atoiAll (s.extract ((Lib.indexByte s.data.toList 101).toNat+1) s.size).data.toList with
 |.ok e=>numOf s (Lib.indexByte s.data.toList 101).toNat e
 |_=>(false,[],0)
theorem wK.put {s}{cs}{g k n}{e}{c}(r:wK h s 1 cs g)(f:Fe h k):wK (h.cQ k n e c) s 1 cs g:=
 ⟨r.1,r.2.imp (λx=>x) λ⟨a,h1,h2,c,b,e,h3,h4⟩=>⟨a,h1,h2,c,b,e,(jf λx=>by rw[x,f.2.2] at h3;cases h3).trans h3,h4⟩⟩
def af5 {s:ζ}{i n a1}(hs:s.size<=65536)(hn:s.size+1<n)(hi:i<s.size)(hpos:0<i)(z:Z h0 h [.au a1 [.bool false,aI,vi 0] bB]) :
  Wp (tA n s (ak a1) (i:Int)) h λx h'=>(x.2=match Lib.atoiAll (s.extract (i+1) s.size).data.toList with | .ok e=>ab6 s i e|_=>false)/\Fr (λ_=>False) h0 h'/\(x.2=true->I7 (match Lib.atoiAll (s.extract (i+1) s.size).data.toList with | .ok e=>numOf s i e|_=>(false,[],0)) h' x.1):=by
 unfold tA;rw[vw (by omega) (by omega),ah,bY];refine⟨by omega,by omega,by omega,?_⟩;rw[show (((i:Int)+1).toNat)=i+1 by omega,IS];have hsz:(s.extract (i+1) s.size).size<=65536:=by simp;omega
 refine z.call (US hsz z.wf) λr h1 hr f1 z1=>?_;cases e:Lib.atoiAll (s.extract (i+1) s.size).data.toList with
 |range=>
  rw[e] at hr;refine Gz hr ?_;rw[By (show (!false)=true from rfl)];exact (BK (s:=oz) z1 0 rfl rfl).mono λx h' hx=>⟨hx.1,hx.2.1,λe=>by grind⟩
 |ok v=>
  rw[e] at hr;simp at hr;subst hr;refine Gy rfl ?_;show Wp (sh (jG s 0 (i:Int)) _) h1 _;rw[ah,bY];refine⟨by omega,by omega,by omega,?_⟩;rw[IS];unfold strings_TrimPrefix;rw[ah,ag];have ec:(⟨(Lib.trimPrefix (s.extract (0:Int).toNat i).data.toList (ofBytes [45]).data.toList).toArray⟩:ζ)=B4 s i:=rfl;rw[ec];have hcs:(B4 s i).size<=s.size:=by
   show (Lib.trimPrefix (s.extract 0 i).data.toList [45]).toArray.size<=_;have h1:=Oe (s.extract 0 i).data.toList [45];have h2:(s.extract 0 i).data.toList.length<=s.size:=KP s 0 i
   grind
  refine z1.bX [7] (by decide) (by simp) λkb h2 z2=>?_;have hfr:Fe h2 (kb+7):=z2.get 0 rfl;obtain⟨c0,hc0⟩:∃c0,s[0]?=some c0:=⟨s[0]'(by omega),by grind⟩;rw[ah,fA];refine⟨c0,by omega,hc0,?_⟩;have hdl:(B3 (B4 s i)).length=(B4 s i).size:=by unfold B3;simp_all
  refine ah.2 ((ab1 z2 (by omega) (by omega)).mono λx h4 hx=>?_);obtain⟨b2,rfl,z4⟩:=hx;have hk4:Fe h4 (kb+7):=z4.get 1 rfl;have hk4:=hk4.2.1;rw[<-hdl];refine ah.2 ((af0 z4 (by omega) (by omega) _ v).mono λr h5 hr=>?_);obtain⟨r1,r2,z5,g,bl,hg2,hg3⟩:=hr;have ha1:a1<h4.next:=LB.lt (z4.get 2 rfl) z4.wf
  have eneg:decide ((c0.toNat:Int)=45)=(s.data.toList.head?==some 45):=by
   rw[za] at hc0;rw[apw,hc0];by_cases hq:c0=45
   .simp_all
   .have:¬((c0.toNat:Int)=45):=λe=>hq (UInt8.toNat_inj.1 (by grind))
    grind
  rw[eneg] at r1 r2 bl;obtain⟨neg,sl,ee⟩:=r;simp at r1 r2 bl;rw[show DJ (s.data.toList.head?==some 45) (B3 (B4 s i)) v=numOf s i v from rfl] at r1 r2 bl;subst r1;subst r2;have hDl:(numOf s i v).2.1.length<=65536:=by
   grind [KO,B3,B4,numOf]
  have hDn:(numOf s i v).2.1.length<n:=by
   grind [KO,B3,B4,numOf]
  show Wp _ _ λ(x:(Bool×Sl×Int)×Bool) h'=>x.2=aot (numOf s i v) s/\Fr (λ_=>False) h0 h'/\(x.2=true->I7 (numOf s i v) h' x.1);generalize numOf s i v=N at bl hDl hDn⊢;obtain⟨N1,N2,N3⟩:=N;have hf:Fe h5 (kb+7):=z5.get 0 rfl;have hg:g≠kb+7+1:=by omega
  rw[ah,J7];refine⟨rfl,hf.1,hf.2.1,hf.2.2,?_⟩;have z5:=z5.put (i:=0) rfl (e:=bB) (cs:=[.bool false,aI,vi 0])
  replace bl:=wK.put bl hf (n:=h5.next) (e:=bB) (c:=[.bool false,aI,vi 0])
  refine z5.B5 0 (cs':=[.bool N1,aA sl,vi N3]) (λh6 z6 f6=>?_);have bl:BL h6 sl N2 g:=wK.fr bl f6 λe=>absurd e hg;have hg6:g<=h6.next:=ad5 hg2 f6.next
  refine z6.eZ 0 (x:=((N1,sl,N3):pC [.bool,.sl,li])) ?_;refine z6.eZ 0 (x:=((N1,sl,N3):pC [.bool,.sl,li])) ?_;refine z6.Qx 0 (ab3 z6.wf bl) λr h7 hr f7 z7=>?_;subst hr;show Wp _ _ λ(x:(Bool×Sl×Int)×Bool) h'=>x.2=(decide (Ti N2 N3=0)&&oG (ab2 N1 N2 N3) s)/\Fr (λ_=>False) h0 h'/\(x.2=true->I7 (N1,N2,N3) h' x.1);by_cases hl:Ti N2 N3=0
  .rw[By (by grind)];refine z7.eZ 0 (x:=((N1,sl,N3):pC [.bool,.sl,li])) ?_;refine z7.Qx 0 (af3 z7.wf (bl.fr f7) (ad5 hg6 f7.next) hDl hDn (ap6 hl)) λr h8 hr f8 z8=>?_
   subst hr;rw[ai4 hl,aqK];exact (BK z8 1 rfl rfl).mono λx h' hx=>⟨hx.1,hx.2.1,λ_=>by
    obtain⟨_,_,e,f9⟩:=hx;rw[e];exact⟨rfl,rfl,hDl,g,ad5 hg6 (ad5 f7.next (ad5 f8.next f9.next)),wK.fr ((bl.fr f7).fr f8) f9 λe=>by omega⟩⟩
  .rw[AT (by grind)];rw[aqx hl,aqE];exact (BK z7 1 rfl rfl).mono λx h' hx=>⟨hx.1,hx.2.1,λe=>by grind⟩
 |_=>
  rw[e] at hr;refine Gz hr ?_;rw[By (show (!false)=true from rfl)];exact (BK (s:=oz) z1 0 rfl rfl).mono λx h' hx=>⟨hx.1,hx.2.1,λe=>by grind⟩
def xj {s}{n}(hs:s.size<=65536)(hn:s.size+1<n)(hw:WF h):Wp (sq n s) h λx h'=>x.2=KL s/\Fr (λ_=>False) h h'/\(x.2=true->I7 (BM s) h' x.1):=by
  unfold sq;refine (Z.start hw).new λx0 h1 z1 f1=>?_;unfold strings_IndexByte;rw[ah,ag];rw[show (101:Int).toNat.toUInt8=(101:UInt8) from rfl];rcases ixb s.data.toList 101 with hneg|⟨i,hi,hc⟩
  .rw[By (by grind),ab7 hneg];exact (BK (s:=oz) z1 0 rfl rfl).mono λx h' hx=>⟨hx.1,hx.2.1,λe=>by grind⟩
  .have hlt:i<s.size:=(List.getElem?_eq_some_iff.1 hc).1;rw[af4 hi,hi,AT (by simp),ah,bY];refine⟨by omega,by omega,by omega,?_⟩;rw[IS,show (0:Int).toNat=0 from rfl];have hes:=KP s 0 i;refine z1.call (AK (by omega) (by omega) z1.wf) λr h2 hr f2 z2=>?_;subst hr;cases hok:qe (s.extract 0 i) with
   |false=>
    rw[By (show (false=false) from rfl),By (show (!false)=true from rfl)];exact (BK (s:=oz) z2 0 rfl rfl).mono λx h' hx=>⟨hx.1,hx.2.1,λe=>by grind⟩
   |true=>
    have hp:=Yj hok;have hip:0<i:=by
     have:(s.extract 0 i).size=min i s.size:=(by simp);omega
    rw[AT (show ¬(true=false) by decide),AT (show ¬((!true)=true) by decide),vw (by omega) (by omega)];by_cases h6:6<(s.size:Int)-(i:Int)
    .rw[By (by grind),By h6];exact (BK (s:=oz) z2 0 rfl rfl).mono λx h' hx=>⟨hx.1,hx.2.1,λe=>by grind⟩
    .rw[AT (by grind),AT h6];refine (af5 hs hn hlt hip z2).mono λx h' hx=>?_
     grind [BM,Int.toNat_natCast]
def HI {s}{n}(hs:s.size<=65536)(hn:s.size+1<n)(hw:WF h):Wp (wA n s) h λx h'=>x=KL s/\Fr (λ_=>False) h h':=by
 unfold wA;rw[ah];refine (xj hs hn hw).mono λx h1 hx=>?_;have z1:=(Z.start hw).pure hx.2.1;refine z1.new λb h2 z2 f2=>?_;refine z2.st 0 (cs':=[.bool x.1.1,aA x.1.2.1,vi x.1.2.2]) λh3 z3=>?_;exact ag.2 ⟨hx.1,z3.fr⟩
end
end Go.Sh
