
import Derived.Test.YtengdffgmpghgaaGreatDoorBi
import Derived.Test.YtengdffgmpghgaaGreatDoorAgoY
import Derived.Test.YtengdffgmpghgaaGreatDoorGi
set_option linter.all false
namespace Go.Sh
open Go Go.Ago Go.Proofs
section
variable {α β:Type}{h h' h0:ab}{L:List bA}{Q:β->ab->Prop}{k:Nat}
def stripR:ε->Int->ε×Int
 |[],e=>([],e)
 |x::r,e=>if x=0 then stripR r (IntKind.i64.wrap (e+1)) else ((x::r).reverse,e)
def stripL:ε->ε
 |[]=>[]
 |x::r=>if x=0 then stripL r else x::r
def zR (neg:Bool)(D:ε)(e:Int):Bool×ε×Int:=
 if (stripR (stripL D).reverse e).1.length=0 then (false,[],0) else (neg,(stripR (stripL D).reverse e).1,(stripR (stripL D).reverse e).2)
theorem DR:∀D:ε,(stripL D).length<=D.length
 |[]=>aae _
 |x::r=>by
  unfold stripL;split
  .have:=DR r;simp;omega
  .exact aae _
theorem I0:∀(D:ε) (e:Int),(stripR D e).1.length<=D.length
 |[],e=>aae _
 |x::r,e=>by
  unfold stripR;split
  .have:=I0 r (IntKind.i64.wrap (e+1));simp;omega
  .simp
def BL (h:ab)(s:Sl)(xs:ε)(g:Nat):Prop:=rO h s 1 (xs.map v8) g
theorem NV {γ:Type}{D:List γ}{z d:γ}{i:Nat}(hd:D[i]?=some d):(D.take i++List.replicate (D.length-i) z).set i d=D.take (i+1)++List.replicate (D.length-(i+1)) z:=by
 have hlt:=(List.getElem?_eq_some_iff.1 hd).1;have hl:(D.take i).length=i:=by rw[afd];omega
 obtain⟨m,hm⟩:∃m,D.length-i=m+1:=⟨D.length-i-1,by omega⟩;rw[hm,aiK,ajj _ _ (by omega),hl,ai5,ahV,akZ,hd,show D.length-(i+1)=m by omega];simp
theorem Z.gne (z:Z h0 h L)(i:Nat){b k:Nat}{cs:δ}{e:κ}(hi:L[i]?=some (.av b cs e))(hk:b≠k):∀c g base e',h.get b=some (.cells c g base e')->g≠k+1:=λc g base e' hg=>by
 have l:LB h b cs e:=z.get i hi;rw[l.get] at hg;cases hg;omega
theorem QI {s:ζ}{b:Nat}(hs:s.size<=65536)(hb:b≠k):∀(n i:Nat) (h:ab),s.size-i<n->i<=s.size->Z h0 h (.av b (((yA s).take i++List.replicate ((yA s).length-i) 0).map v8) gH::L) ->
  Lp k (jx n s ⟨some ⟨b,0,none⟩,s.size,s.size+1⟩ (s.size:Int) (i:Int)) h λ_ h'=>Z h0 h' (.av b ((yA s).map v8) gH::L):=by
 have hl:(yA s).length=s.size:=by unfold yA;rw[ae1];exact jl s
 intro n
 induction n with
 |zero=>intro i h h1;omega
 |succ n ih=>
  intro i h h1 h2 z;rw[yK];unfold pM;refine DQ (λhc=>?_) λhc=>?_
  .have hi:i<s.size:=by simp only[OF] at hc;omega
   obtain⟨c,hc1⟩:∃c,s[i]?=some c:=⟨s[i],by simp[hi]⟩;have hd:(yA s)[i]?=some (Yo c):=by
    grind [yA,yc]
   refine Lp.step ?_ (λ_ _ hx=>BP.pm (Pm.jy _ _) hx);rw[ag,fA];refine⟨c,by omega,by simpa using hc1,af.2 ?_⟩;refine Lp.step (JF (by omega) (by omega) (af.2 ?_)) λ_ _ hx=>BP.pm (Pm.an _ _ _) hx;simp only[aab,adp];have hg:=Z.gne z 0 rfl hb;refine Lp.step (Z.A2 z 0 (enc:=v8) (xs:=(yA s).take i++List.replicate ((yA s).length-i) 0) (k:=i) (v:=Yo c) (by simp;omega) λh' z'=>af.2 ?_) λ_ _ hx=>BP.bD hb hg hx;rw[NV hd] at z';rw[rR (B:=65536) (by omega) (by omega)];exact ih (i+1) h' (by omega) (by omega) z'
  .have hi:i=s.size:=by simp only[OF] at hc;omega
   refine Lp.pure ?_;rw[hi,<-hl] at z;simpa using z
theorem Yt (z:Z h0 h L){s:ζ}{n:Nat}(hs:s.size<=65536)(hn:s.size<n)(hk:k<h.next) :
  Lp k (sP n s) h λx h'=>∃b,x=⟨some ⟨b,0,none⟩,s.size,s.size+1⟩/\b≠k/\Z h0 h' (.av b ((yA s).map v8) gH::L):=by
 unfold sP;have hl:(yA s).length=s.size:=by unfold yA;rw[ae1];exact jl s
 refine Lp.step ?_ λ_ _ hx=>BP.vG hx;rw[ag];refine Jy (z:=[v8 0]) (by omega) (ai0 _) (by unfold cT;omega) (af.2 ?_);have hf:=Fr.new (e:=gH) (cs:=(List.replicate s.size [v8 0]).flatten) z.wf;have z1:=z.add hf (o:=.av h.next _ gH) LB.new (.inr (aad _))
 have e1:(List.replicate s.size [v8 0]).flatten=((yA s).take 0++List.replicate ((yA s).length-0) 0).map v8:=by
  rw[hl];simp[aj8]
 simp only[aab];rw[e1] at z1⊢;refine Lp.bind ((QI hs (by omega) n 0 _ (by omega) (by omega) z1).mono λ_ h' z2=>Lp.pure ⟨h.next,rfl,by omega,z2⟩)
theorem So (z:Z h0 h L)(i:Nat){b o m c:Nat}{xs:ε}{j:Int}{x:Int}(hi:L[i]?=some (.av b (xs.map v8) gH))(hx:((xs.drop o).take m)[j.toNat]?=some x)(h1:0<=j)(hb:b≠k){f:Int->M β}(q:Lp k (f x) h Q) :
  Lp k (sh (an ⟨some ⟨b,o,none⟩,m,c⟩ j 1) λa=>sh (ak (.int .u8) a) f) h Q:=by
 have hlt:=(List.getElem?_eq_some_iff.1 hx).1;rw[afd] at hlt;have l:LB h b (xs.map v8) gH:=z.get i hi;refine Lp.step ?_ λ_ _ hx=>BP.pm (Pm.an _ _ _) hx;rw[ag,Ad];refine⟨_,rfl,h1,by simp only;omega,af.2 ?_⟩;refine Lp.step ?_ λ_ _ hx=>BP.ak (by simpa[Addr.plus] using hb) hx;rw[ag,wj];refine⟨x,?_,af.2 q⟩;refine l.ld (v:=v8 x) ?_ rfl;rw[ajT,aeY] at hx;split at hx
 .simp only[Addr.plus,adp];rw[aal,hx];rfl
 .cases hx
theorem Sp (z:Z h0 h L)(i:Nat){b o m c:Nat}{xs:ε}{lo hi:Int}(hL:L[i]?=some (.av b (xs.map v8) gH))(h1:0<=lo)(h2:lo<=hi)(h3:hi<=m)(hb:b≠k){f:Sl->M β}
  (q:∀c',Lp k (f ⟨some ⟨b,o+lo.toNat,none⟩,hi.toNat-lo.toNat,c'⟩) h Q):Lp k (sh (jT ⟨some ⟨b,o,none⟩,m,c⟩ lo hi gH 1) f) h Q:=by
 have l:LB h b (xs.map v8) gH:=z.get i hL;refine Lp.step ?_ λ_ _ hx=>BP.rm (Rm.jT _ _ _ _ _) (λb' hb'=>by cases hb';exact hb) hx;rw[ag];refine wT h1 h2 (by simpa using h3) (by simp[jd,l.get]) ?_;simp only[ais,Addr.plus,adp];exact af.2 (q _)
theorem abK (z:Z h0 h L)(i:Nat){b:Nat}{xs:ε}(hL:L[i]?=some (.av b (xs.map v8) gH))(hb:b≠k)(neg:Bool)(e:Int)(a3:Addr):∀(n o m c:Nat),m<n->o+m<=xs.length ->
  Lp k (j5 n neg ⟨some ⟨b,o,none⟩,m,c⟩ e a3) h λr h'=>h'=h/\∃o' m' c',r=⟨some ⟨b,o',none⟩,m',c'⟩/\o'+m'<=xs.length/\(xs.drop o').take m'=stripL ((xs.drop o).take m):=by
 intro n
 induction n with
 |zero=>intro o m c h1;omega
 |succ n ih=>
  intro o m c h1 h2;rw[zp];unfold qA;refine DQ (λhc=>?_) λhc=>?_
  .have hm:0<m:=by simp only[OF] at hc;omega
   obtain⟨m,rfl⟩:∃m',m=m'+1:=⟨m-1,by omega⟩;obtain⟨x,hx⟩:∃x,xs[o]?=some x:=⟨xs[o],aah (by omega)⟩;have hd:(xs.drop o).take (m+1)=x::(xs.drop (o+1)).take m:=by
    rw[drop_cons hx,List.take_succ_cons]
   refine So z i hL (x:=x) (by rw[hd];rfl) (by omega) hb ?_;rw[hd];refine DQ (λh0=>?_) λh0=>?_
   .have h0:x=0:=(by simpa using h0);refine Sp z i hL (by omega) (by simp only;omega) (by simp only;omega) hb λc'=>?_;rw[show o+(1:Int).toNat=o+1 from rfl,show ((((⟨some ⟨b,o,none⟩,m+1,c⟩:Sl).len:Nat):Int).toNat-(1:Int).toNat)=m by simp];refine (ih (o+1) m c' (by omega) (by omega)).mono λr h' hr=>?_;obtain⟨r1,o',m',c2,r2,r3,r4⟩:=hr;refine⟨r1,o',m',c2,r2,r3,?_⟩;rw[r4,stripL,By h0]
   .have h0:¬x=0:=(by simpa using h0);exact Lp.pure ⟨rfl,o,m+1,c,rfl,h2,by rw[hd,stripL,AT h0]⟩
  .have hm:m=0:=by simp only[OF] at hc;omega
   subst hm;exact Lp.pure ⟨rfl,o,0,c,rfl,h2,by simp[stripL]⟩
theorem abL (z:Z h0 h L)(i:Nat){b:Nat}{xs:ε}(hL:L[i]?=some (.av b (xs.map v8) gH))(hb:b≠k)(hxs:xs.length<=65536)(neg:Bool)(a3:Addr):∀(n o m c:Nat) (e:Int),m<n->o+m<=xs.length ->
  Lp k (j4 n neg ⟨some ⟨b,o,none⟩,m,c⟩ e a3) h λr h'=>h'=h/\∃m' c',r.1=⟨some ⟨b,o,none⟩,m',c'⟩/\o+m'<=xs.length/\stripR ((xs.drop o).take m).reverse e=((xs.drop o).take m',r.2):=by
 intro n
 induction n with
 |zero=>intro o m c e h1;omega
 |succ n ih=>
  intro o m c e h1 h2;rw[zo];unfold qz;refine DQ (λhc=>?_) λhc=>?_
  .have hm:0<m:=by simp only[OF] at hc;omega
   obtain⟨m,rfl⟩:∃m',m=m'+1:=⟨m-1,by omega⟩;obtain⟨x,hx⟩:∃x,xs[o+m]?=some x:=⟨xs[o+m],aah (by omega)⟩;have hx2:(xs.drop o)[m]?=some x:=by rw[aeY];exact hx
   have hd:(xs.drop o).take (m+1)=(xs.drop o).take m++[x]:=by rw[akZ,hx2];rfl
   have ew:IntKind.i64.wrap ((((⟨some ⟨b,o,none⟩,m+1,c⟩:Sl).len:Nat):Int)-1)=(m:Int):=by
    grind [tA]
   rw[ew];refine So z i hL (x:=x) (by grind [Int.toNat_natCast,List.getElem?_append_right,List.length_take,List.length_drop,min]) (by omega) hb ?_;rw[hd,List.reverse_append,List.reverse_singleton,akY];refine DQ (λh0=>?_) λh0=>?_
   .have h0:x=0:=(by simpa using h0);refine Sp z i hL (by omega) (by omega) (by omega) hb λc'=>?_;rw[show o+(0:Int).toNat=o from rfl,show ((m:Int).toNat-(0:Int).toNat)=m by simp];refine (ih o m c' _ (by omega) (by omega)).mono λr h' hr=>?_;obtain⟨r1,m',c2,r2,r3,r4⟩:=hr;refine⟨r1,m',c2,r2,r3,?_⟩;rw[stripR,By h0];exact r4
   .have h0:¬x=0:=(by simpa using h0);refine Lp.pure ⟨rfl,m+1,c,rfl,h2,?_⟩;rw[stripR,AT h0,hd];simp
  .have hm:m=0:=by simp only[OF] at hc;omega
   subst hm;exact Lp.pure ⟨rfl,0,c,rfl,h2,by simp[stripR]⟩
theorem abM (z:Z h0 h L){e:κ}{cs:δ}{f:Nat->M β}(q:∀h',Z h0 h' (.av h.next cs e::L)->h'.next=h.next+1->Lp k (f h.next) h' Q)(hs:cs.all eB=true:=by rfl):Lp k (sh (aJ none e cs) f) h Q:=by
 refine Lp.step ?_ λ_ _ hx=>BP.aJ hx;rw[ag,Bi];have hf:=Fr.new (e:=e) (cs:=cs) z.wf;exact⟨hs,af.2 (q _ (z.add hf (o:=.av h.next cs e) LB.new (.inr (aad _))) rfl)⟩
theorem agf (z:Z h0 h L){e:κ}{v:ξ}{m:Nat}{f:Sl->M β}(hm:m<=65536)(q:∀h',Z h0 h' (.av h.next (List.replicate m v) e::L)->h'.next=h.next+1->Lp k (f ⟨some ⟨h.next,0,none⟩,m,m+1⟩) h' Q)(hs:eB v=true:=by rfl):Lp k (sh (vG none e [v] (m:Int) (m:Int)) f) h Q:=by
 refine Lp.step ?_ λ_ _ hx=>BP.vG hx;rw[ag];refine Jy (z:=[v]) (by omega) (ai0 _) (by unfold cT;omega) (af.2 ?_) (by simp[hs]);have hf:=Fr.new (e:=e) (cs:=(List.replicate m [v]).flatten) z.wf;have z1:=z.add hf (o:=.av h.next _ e) LB.new (.inr (aad _))
 simp only[aab];refine q _ ?_ rfl
 simp_all
theorem aeI (z:Z h0 h L)(i:Nat){b o:Nat}{cs vs cs':δ}{e:κ}{f:Unit->M β}(hb:b≠k)(q:∀h',Z h0 h' (L.set i (.av b cs' e))->h'.next=h.next->Lp k (f ()) h' Q)(hi:L[i]?=some (.av b cs e):=by rfl)(hc:bh cs o vs=cs':=by rfl)
  (ho:o+vs.length<=cs.length:=by first|decide|simp) (hs:vs.all eB=true:=by rfl):Lp k (sh (bD ⟨b,o,none⟩ vs) f) h Q:=by
 have hg:=Z.gne z i hi hb;refine Lp.step ?_ λ_ _ hx=>BP.bD hb hg hx;have l:LB h b cs e:=z.get i hi;have w:=Z.st z i (f:=AI) (Q:=λ_ h'=>Z h0 h' (L.set i (.av b cs' e))) (λh' z'=>af.2 z') hi hc ho hs;have hn:Wp (sh (bD ⟨b,o,none⟩ vs) AI) h λ_ h'=>h'.next=h.next:=by
  rw[ag,Jw];exact⟨cs,b+1,0,e,l.get,by omega,ho,hs,af.2 rfl⟩
 obtain⟨x,h1,e1,q1⟩:=w;obtain⟨y,h2,e2,q2⟩:=hn;rw[e1] at e2;cases e2;exact⟨x,h1,e1,q h1 q1 q2⟩
theorem Yu (z:Z h0 h L)(i:Nat){b:Nat}{cs:δ}{e:κ}{ls:List eD}{x:eI ls}{f:eI ls->M β}(hb:b≠k)(q:Lp k (f x) h Q)(hi:L[i]?=some (.av b cs e):=by rfl)(hx:Ao ls cs=some x:=by rfl)(hl:ls.length=cs.length:=by rfl) :
  Lp k (sh (aE ls ⟨b,0,none⟩) f) h Q:=
 Lp.step (Z.fG z i (f:=AI) (af.2 q) hi hx hl) λ_ _ hx=>BP.aE (by exact hb) hx
theorem abN (z:Z h0 h L)(i j:Nat){b b2 o m c:Nat}{xs:ε}{f:Nat->M β}(hi:L[i]?=some (.av b2 (List.replicate m (v8 0)) gH))(hj:L[j]?=some (.av b (xs.map v8) gH))(hb:b≠k)(hb2:b2≠k)(hm:0<m)(ho:o+m<=xs.length)
  (q:∀h',Z h0 h' (L.set i (.av b2 (((xs.drop o).take m).map v8) gH))->h'.next=h.next->Lp k (f m) h' Q):Lp k (sh (yl ⟨some ⟨b2,0,none⟩,m,m+1⟩ ⟨some ⟨b,o,none⟩,m,c⟩ 1) f) h Q:=by
 have hg:=Z.gne z i hi hb2;refine Lp.step ?_ λ_ _ hx=>BP.yl (λb' hb'=>by cases hb';exact hb) (λb' hb'=>by cases hb';exact⟨hb2,hg⟩) hx;have l:LB h b (xs.map v8) gH:=z.get j hj;have hl:(((xs.drop o).take m).map v8).length=m:=by simp;omega
 have hcell:aX h (some ⟨b,o,none⟩) (Nat.min m m*1)=some (((xs.drop o).take m).map v8):=by
  unfold aX;simp only[l.get]
  simp_all
 have hall:(((xs.drop o).take m).map v8).all eB=true:=by
  rw[List.all_map,agn];intro x _;rfl
 have w:=Z.st z i (o:=0) (vs:=((xs.drop o).take m).map v8) (cs':=((xs.drop o).take m).map v8) (f:=AI) (Q:=λ_ h'=>Z h0 h' (L.set i (.av b2 (((xs.drop o).take m).map v8) gH)))
  (λh' z'=>af.2 z') hi (by unfold bh;rw[adj,hl];simp) (by rw[hl];simp) hall
 have hn:Wp (sh (bD ⟨b2,0,none⟩ (((xs.drop o).take m).map v8)) AI) h λ_ h'=>h'.next=h.next:=by
  have l2:LB h b2 _ _:=z.get i hi;rw[ag,Jw];exact⟨_,b2+1,0,_,l2.get,by omega,by rw[hl];simp,hall,af.2 rfl⟩
 obtain⟨x,h1,e1,q1⟩:=w;obtain⟨y,h2,e2,q2⟩:=hn;rw[e1] at e2;cases e2;have e3:bD ⟨b2,0,none⟩ (((xs.drop o).take m).map v8) h=some ((),h1):=by
  unfold sh at e1;split at e1
  .rename_i u h5 hu;cases e1;exact hu
  .cases e1
 refine⟨m,h1,?_,q h1 q1 q2⟩;have e4:yl ⟨some ⟨b2,0,none⟩,m,m+1⟩ ⟨some ⟨b,o,none⟩,m,c⟩ 1 h=some (m,h1):=by
  unfold yl
  grind
 simp only[sh,e4,AI]
theorem abO {b n c:Nat}{xs:ε}(z:Z h0 h (.av b (xs.map v8) gH::L))(hb:b≠k)(hk:k<h.next)(hx:xs.length<=65536)(hn:xs.length<n)(neg:Bool)(e:Int) :
  Lp k (uu n neg ⟨some ⟨b,0,none⟩,xs.length,c⟩ e) h λr h'=>r.1=(zR neg xs e).1/\r.2.2=(zR neg xs e).2.2/\Z h0 h' L/\∃g,BL h' r.2.1 (zR neg xs e).2.1 g/\g≠k+1/\g<=h'.next/\(g=0\/h.next<g):=by
 unfold uu;refine abM z λh1 z1 n1=>?_;refine Lp.bind ((abK z1 1 rfl hb neg e _ n 0 xs.length c hn (by omega)).mono λr h' hr=>?_);obtain⟨hh,o,m,c',rfl,hom,e1⟩:=hr;have hh:=hh.symm;subst hh;rw[ahZ,ajP] at e1;have hm:=DR xs;rw[<-e1,afd,ajw] at hm;refine Lp.bind ((abL z1 1 rfl hb hx neg _ n o m c' e (by omega) hom).mono λr h' hr=>?_);obtain⟨hh,m2,c2,e2,hom2,e3⟩:=hr;have hh:=hh.symm;subst hh;obtain⟨sl,ee⟩:=r;simp only at e2 e3;subst e2;rw[e1] at e3;have e4:(stripR (stripL xs).reverse e).1=(xs.drop o).take m2:=by rw[e3]
 have e5:(stripR (stripL xs).reverse e).2=ee:=by rw[e3]
 have el:((xs.drop o).take m2).length=m2:=by rw[afd,ajw];omega
 have hxk:h.next≠k:=by omega
 refine DQ (λhc=>?_) λhc=>?_
 .have hm0:m2=0:=by simp only[OF] at hc;omega
  have en:zR neg xs e=(false,[],0):=by unfold zR;rw[e4,el,By hm0]
  refine aeI z1 0 (cs':=[.bool false,bF,vi 0]) hxk λh2 z2 n2=>?_;refine Yu z2 0 (x:=((false,uV,0):eI [.bool,.sl,li])) hxk (Lp.pure ?_);rw[en];exact⟨rfl,rfl,z2.drop.drop,0,rO.nil rfl,by omega,ajv _,.inl rfl⟩
 .have hm0:0<m2:=by simp only[OF] at hc;omega
  have en:zR neg xs e=(neg,(xs.drop o).take m2,ee):=by unfold zR;rw[e4,e5,el,AT (by omega)]
  refine agf (m:=m2) z1 (by omega) λh2 z2 n2=>?_;have hbk:h1.next≠k:=by omega
  refine abN z2 0 2 rfl rfl hb hbk hm0 hom2 λh3 z3 n3=>?_;refine aeI z3 1 (cs':=[.bool neg,.slice (some ⟨h1.next,0,none⟩) m2 (m2+1),vi ee]) hxk λh4 z4 n4=>?_
  refine Yu z4 1 (x:=((neg,⟨some ⟨h1.next,0,none⟩,m2,m2+1⟩,ee):eI [.bool,.sl,li])) hxk (Lp.pure ?_)
  rw[en];have l:LB h4 h1.next (((xs.drop o).take m2).map v8) gH:=z4.get 0 rfl
  exact⟨rfl,rfl,z4.drop.drop.drop,h1.next+1,l.Fi (by simp;omega),by omega,by omega,.inr (by omega)⟩
end
section
variable {α β:Type}{h h' h0:ab}{L:List bA}{Q:β->ab->Prop}
theorem _root_.Go.Ago.Z.NW (z:Z h0 h L)(i:Nat){b:Nat}{a:Addr}{cs:δ}{e:κ}{m:M α}{f:α->M β}{P:α->Prop}(hm:Wp m h λr h'=>P r/\Fr (λ_=>False) h h')
  (q:∀r h',P r->Fr (λ_=>False) h h'->Z h0 h' L->Wp (f r) h' Q) (hi:L[i]?=some (.av b cs e):=by rfl) (ha:a.block=b:=by rfl):Wp (sh (Ago.oo [some a] m) f) h Q:=by
 rw[ag];have l:LB h b cs e:=z.get i hi;refine zg (hm.mono λr h' hp=>⟨λa' hma=>?_,q r h' hp.1 hp.2 (z.pure hp.2)⟩);simp only[ahL,aai] at hma;subst hma;rw[ha,l.get];exact hp.2.cells _ _ _ _ _ l.get λx=>x.elim
theorem BL.fr {s:Sl}{D:ε}{g:Nat}(b:BL h s D g)(f:Fr (λ_=>False) h h'):BL h' s D g:=rO.fr b f λx=>x.elim
theorem BL.len {s:Sl}{D:ε}{g:Nat}(b:BL h s D g):s.len=D.length:=rO.GQ (enc:=v8) b
def QJ (D:ε)(e:Int):Int:=if 400<D.length then 6 else if e < -2000 then 2 else if 2000<e then 2 else 0
def byt (x:Int):UInt8:=UInt8.ofNat x.toNat
def QK (D:ε):ζ:=ofBytes (D.map λd=>byt (IntKind.u8.wrap (48+d)))
def NX (neg:Bool)(D:ε):ζ:=if D.length=0 then ofBytes [48] else (if neg then ofBytes [45] else ofBytes [])++QK D
def Yv (neg:Bool)(D:ε)(e:Int):ζ:=NX neg D++ofBytes [101]++⟨(Lib.itoa e).toArray⟩
theorem Yw {s:Sl}{D:ε}{g:Nat}{neg:Bool}{e:Int}{n:Nat}(hw:WF h)(bl:BL h s D g):Wp (nM n (neg,s,e)) h λr h'=>r=QJ D e/\Fr (λ_=>False) h h':=by
 unfold nM;refine (Z.start hw).new λx0 h1 z1 f1=>?_;have hl:=bl.len;refine z1.ld (o:=1) 0 ?_;unfold QJ;by_cases h1:400<D.length
 .rw[By (by simp only[OF];omega),By h1];exact af.2 ⟨rfl,z1.fr⟩
 rw[AT (by simp only[OF];omega),AT h1];refine z1.ld (o:=2) 0 ?_;by_cases h2:e < -2000
 .rw[By (by simpa using h2),By h2];exact af.2 ⟨rfl,z1.fr⟩
 rw[AT (by simpa using h2),AT h2];refine z1.ld (o:=2) 0 ?_;by_cases h3:2000<e
 .rw[By (by simpa using h3),By h3];exact af.2 ⟨rfl,z1.fr⟩
 rw[AT (by simpa using h3),AT h3];exact af.2 ⟨rfl,z1.fr⟩
theorem abP {s:Sl}{neg:Bool}{e:Int}{n:Nat}(hw:WF h):Wp (oE n (neg,s,e)) h λr h'=>r=(if neg then ofBytes [45] else ofBytes [])/\Fr (λ_=>False) h h':=by
 unfold oE;refine (Z.start hw).new λx0 h1 z1 f1=>?_;refine z1.ld (o:=0) 0 ?_;cases neg
 .exact af.2 ⟨rfl,z1.fr⟩
 .exact af.2 ⟨rfl,z1.fr⟩
def NY (d:Int):Int:=IntKind.u8.wrap (48+d)
theorem NZ {s:Sl}{D:ε}{g b m:Nat}(hD:D.length<=65536):∀(n i:Nat) (h:ab),D.length-i<n->i<=D.length->BL h s D g->g<=h0.next->Z h0 h (.av b ((((D.map NY).take i++List.replicate ((D.map NY).length-i) 0)).map v8) gH::L) ->
  Wp (fJ n ⟨some ⟨b,0,none⟩,D.length,m⟩ s (s.len:Int) (i:Int)) h λ_ h'=>Z h0 h' (.av b ((D.map NY).map v8) gH::L):=by
 intro n
 induction n with
 |zero=>intro i h h1;omega
 |succ n ih=>
  intro i h h1 h2 bl hg z;have hl:=bl.len;rw[uY];unfold lC;by_cases hi:i<D.length
  .rw[By (by simp only[OF];omega)];obtain⟨d,hd⟩:=dS hi;refine rO.ix1 (enc:=v8) bl (by omega) (by simpa using hd) λa c=>c.rz (l:=.int .u8) rfl rfl ?_;refine JF (by omega) (by omega) ?_;simp only[aab,adp];have hne:b+1≠g:=by
    have:=(z.own _ IT).2;simp only[bA.eJ] at this;omega
   have l:LB h b _ _:=z.get 0 rfl;rw[ag];have hdm:(D.map NY)[i]?=some (NY d):=by rw[aal,hd];rfl
   have hst:=Z.A2 z 0 (enc:=v8) (xs:=(D.map NY).take i++List.replicate ((D.map NY).length-i) 0) (k:=i) (v:=NY d) (f:=AI) (Q:=λ_ h'=>Z h0 h' (.av b ((((D.map NY).take (i+1)++List.replicate ((D.map NY).length-(i+1)) 0)).map v8) gH::L)) (by simp;omega) (λh' z'=>af.2 (by rw[NV hdm] at z';exact z'));have hfr:Wp (bD ⟨b,i,none⟩ [v8 (NY d)]) h λ_ h'=>Fr (·=b+1) h h':=l.st z.wf (by simp;omega) rfl λh' _ f=>f
   obtain⟨u,h5,e5,q5⟩:=hst;obtain⟨u2,h6,e6,q6⟩:=hfr;have e7:bD ⟨b,i,none⟩ [v8 (NY d)] h=some ((),h5):=by
    unfold sh at e5;split at e5
    .rename_i hu;cases e5;exact hu
    .cases e5
   rw[e7] at e6;cases e6;refine⟨(),h5,e7,?_⟩;rw[rR (B:=65536) (by omega) (by omega)];exact ih (i+1) h5 (by omega) (by omega) (rO.fr bl q6 λe=>absurd e.symm hne) hg q5
  .have hi:i=D.length:=by omega
   subst hi;rw[AT (by simp only[OF];omega),af];have:(D.map NY).take D.length++List.replicate ((D.map NY).length-D.length) 0=D.map NY:=by
    rw[agw (by simp)];simp
   rw[this] at z;exact z
theorem Hf:∀l:ε,bytesOf (l.map v8)=some (l.map byt)
 |[]=>rfl
 |x::l=>by
  simp only[adq,bytesOf];rw[Hf l];rfl
theorem Yx {b m:Nat}{xs:ε}(l:LB h b (xs.map v8) gH){f:ζ->M β}(q:Wp (f (ofBytes (xs.map byt))) h Q):Wp (sh (strOf ⟨some ⟨b,0,none⟩,xs.length,m⟩) f) h Q:=by
 rw[ag];refine⟨ofBytes (xs.map byt),h,?_,q⟩;unfold strOf;have:aX h (some ⟨b,0,none⟩) xs.length=some (xs.map v8):=by
  unfold aX;simp only[l.get]
  grind
 simp only[this,Hf]
theorem Vk {s:Sl}{D:ε}{g:Nat}{neg:Bool}{e:Int}{n:Nat}(hw:WF h)(bl:BL h s D g)(hg:g<=h.next)(hD:D.length<=65536)(hn:D.length<n) :
  Wp (mw n (neg,s,e)) h λr h'=>r=QK D/\Fr (λ_=>False) h h':=by
 unfold mw;have hl:=bl.len;refine (Z.start hw).new λx0 h1 z1 f1=>?_;refine z1.ld (o:=1) 0 ?_;change Wp (sh (vG none gH [v8 0] (s.len:Int) (s.len:Int)) _) _ _;refine z1.JE (by omega) (by unfold cT;omega) λb h2 z2 f2=>?_;refine z2.ld (o:=1) 1 ?_;rw[ag];have e1:(List.replicate ((s.len:Int)).toNat [v8 0]).flatten=((((D.map NY).take 0++List.replicate ((D.map NY).length-0) 0)).map v8):=by
  rw[hl];simp[aj8]
 rw[e1] at z2;have e2:((s.len:Int)).toNat=D.length:=by omega
 rw[e2];refine (NZ hD n 0 h2 (by omega) (by omega) ((bl.fr f1).fr f2) hg z2).mono λ_ h3 z3=>?_;have l:=z3.get 0 rfl;have:=Yx (m:=D.length+1) (f:=λx=>AI x) (Q:=λr h'=>r=QK D/\Fr (λ_=>False) h h') l (af.2 ⟨by unfold QK;rw[akk];rfl,z3.fr⟩)
 rwa [ae1] at this
theorem abQ {s:Sl}{D:ε}{g:Nat}{neg:Bool}{e:Int}{n:Nat}(hw:WF h)(bl:BL h s D g)(hg:g<=h.next)(hD:D.length<=65536)(hn:D.length<n) :
  Wp (oF n (neg,s,e)) h λr h'=>r=NX neg D/\Fr (λ_=>False) h h':=by
 unfold oF NX;have hl:=bl.len;refine (Z.start hw).new λx0 h1 z1 f1=>?_;refine z1.ld (o:=1) 0 ?_;by_cases h0:D.length=0
 .rw[By (by simp only[OF];omega),By h0];exact af.2 ⟨rfl,z1.fr⟩
 rw[AT (by simp only[OF];omega),AT h0];refine z1.fG 0 (x:=((neg,s,e):eI [.bool,.sl,li])) ?_;refine z1.fG 0 (x:=((neg,s,e):eI [.bool,.sl,li])) ?_;refine z1.NW 0 (abP z1.wf) λr h2 hr f2 z2=>?_;subst hr;refine z2.call (P:=λr _=>r=QK D) (Vk z2.wf ((bl.fr f1).fr f2) (abi hg (abi f1.next f2.next)) hD hn) λr h3 hr f3 z3=>?_
 subst hr
 try dsimp only
 rw[ag,Jx];have hs:(QK D).size=D.length:=by show (D.map _).toArray.size=_;simp
 have hs2:(if neg=true then ofBytes [45] else ofBytes []).size<=1:=by cases neg<;>decide
 exact⟨by unfold cT;omega,af.2 ⟨rfl,z3.fr⟩⟩
theorem QL (neg:Bool)(D:ε):(NX neg D).size<=D.length+1:=by
 unfold NX;split
 .show [48].toArray.size<=_;simp
 .have hs:(QK D).size=D.length:=by show (D.map _).toArray.size=_;simp
  have hs2:(if neg=true then ofBytes [45] else ofBytes []).size<=1:=by cases neg<;>decide
  rw[ajk];omega
theorem FT:∀(m u:Nat),u<10^m->0<m->Lib.nDigits u<=m:=by
 intro m
 induction m with
 |zero=>intro u _ h;omega
 |succ m ih=>
  intro u hu _;rw[Lib.nDigits]
  grind
theorem Yy {e:Int}(he:-2000<=e/\e<=2000):(Lib.itoa e).length<=5:=by
 unfold Lib.itoa;split
 .rw[aac,Lib.decDigits_length];have:=FT 4 e.natAbs (by omega) (by omega);omega
 .rw[Lib.decDigits_length];have:=FT 4 e.toNat (by omega) (by omega);omega
theorem abR {s:Sl}{D:ε}{g:Nat}{neg:Bool}{e:Int}{n:Nat}(hw:WF h)(bl:BL h s D g)(hg:g<=h.next)(hD:D.length<=65536)(hn:D.length<n)(he:-2000<=e/\e<=2000) :
  Wp (oG n (neg,s,e)) h λr h'=>r=Yv neg D e/\Fr (λ_=>False) h h':=by
 unfold oG;refine (Z.start hw).new λx0 h1 z1 f1=>?_;refine z1.fG 0 (x:=((neg,s,e):eI [.bool,.sl,li])) ?_;refine z1.ld (o:=2) 0 ?_;refine z1.NW 0 (abQ z1.wf (bl.fr f1) (abi hg f1.next) hD hn) λr h2 hr f2 z2=>?_
 subst hr;have hc:=QL neg D
 try dsimp only
 rw[ag,Jx];refine⟨by unfold cT;have:(ofBytes [101]).size=1:=rfl;omega,?_⟩;unfold strconv_Itoa;rw[By (by omega),ag,af,ag,Jx];refine⟨?_,af.2 ⟨rfl,z2.fr⟩⟩;have h9:(⟨(Lib.itoa e).toArray⟩:ζ).size<=100:=by
  show (Lib.itoa e).toArray.size<=100;have:=Yy he;simp;omega
 rw[ajk];have:(ofBytes [101]).size=1:=rfl;unfold cT;omega
end
section
variable {α β:Type}{h h' h0:ab}{L:List bA}{Q:β->ab->Prop}
theorem ixb (l:List UInt8)(c:UInt8):(Lib.indexByte l c<0)\/∃i:Nat,Lib.indexByte l c=i/\l[i]?=some c:=by
 by_cases hneg:Lib.indexByte l c<0
 .exact .inl hneg
 .obtain⟨i,hi⟩:∃i:Nat,Lib.indexByte l c=i:=⟨(Lib.indexByte l c).toNat,by omega⟩;exact .inr ⟨i,hi,(Lib.indexByte_some hi).1⟩
theorem Vl {s:ζ}(h:oQ s=true):0<s.size:=by
 unfold oQ at h;simp only[aag,OF] at h;have h1:=h.1.1;by_cases h0:s.size=0
 .simp_all
 .omega
def yB (s:ζ)(i:Nat):ζ:=⟨(Lib.trimPrefix (s.extract 0 i).data.toList [45]).toArray⟩
def numOf (s:ζ)(i:Nat)(e:Int):Bool×ε×Int:=zR (s.data.toList.head?==some 45) (yA (yB s i)) e
def aiI (N:Bool×ε×Int)(s:ζ):Bool:=decide (QJ N.2.1 N.2.2=0)&&mY (Yv N.1 N.2.1 N.2.2) s
def Yz (s:ζ)(i:Nat)(e:Int):Bool:=aiI (numOf s i e) s
def DT (s:ζ):Bool:=
 if Lib.indexByte s.data.toList 101<0 then false
 else if oQ (s.extract 0 (Lib.indexByte s.data.toList 101).toNat)=false then false
 else if 6<(s.size:Int)-Lib.indexByte s.data.toList 101 then false
 else match Lib.atoiAll (s.extract ((Lib.indexByte s.data.toList 101).toNat+1) s.size).data.toList with
  |.ok e=>Yz s (Lib.indexByte s.data.toList 101).toNat e
  |_=>false
theorem YA {s:ζ}(h:Lib.indexByte s.data.toList 101<0):DT s=false:=by unfold DT;rw[By h]
theorem abS {s:ζ}{i:Nat}(h:Lib.indexByte s.data.toList 101=i):DT s=if oQ (s.extract 0 i)=false then false else if 6<(s.size:Int)-(i:Int) then false else match Lib.atoiAll (s.extract (i+1) s.size).data.toList with
  |.ok e=>Yz s i e
  |_=>false:=by
 unfold DT;rw[h,aab,AT (by omega)]
theorem Lz (l p:List UInt8):(Lib.trimPrefix l p).length<=l.length:=by
 unfold Lib.trimPrefix;split
 .simp
 .exact aae _
theorem Hg (neg:Bool)(D:ε)(e:Int):(zR neg D e).2.1.length<=D.length:=by
 grind [zR,I0,stripL,DR,List.length_reverse]
theorem alC {D:ε}{e:Int}(h:QJ D e=0):-2000<=e/\e<=2000:=by
 grind [QJ]
theorem Sq {s:ζ}{n:Nat}(hs:s.size<=65536)(hw:WF h):Wp (strconv_Atoi n s) h λr h'=>(match Lib.atoiAll s.data.toList with | .ok v=>r=(v,.nilIface)|_=>∃t u,r.2=.iface t u)/\Fr (λ_=>False) h h':=by
 unfold strconv_Atoi;rw[By (by omega)];cases e:Lib.atoiAll s.data.toList with
 |ok v=>exact af.2 ⟨rfl,Fr.refl hw⟩
 |range=>
  show Wp (yF _) h _;unfold yF;rw[ag];exact Lw λh' f=>af.2 ⟨⟨_,_,rfl⟩,f hw⟩
 |_=>
  show Wp (yF 0) h _;unfold yF;rw[ag];exact Lw λh' f=>af.2 ⟨⟨_,_,rfl⟩,f hw⟩
theorem CJ {f:Bool->M β}{v:ξ}(hv:v=.nilIface)(q:Wp (f true) h Q):Wp (sh (kJ v) f) h Q:=by
 rw[ag,IP];exact .inl ⟨hv,q⟩
theorem CK {f:Bool->M β}{v:ξ}(hv:∃t u,v=.iface t u)(q:Wp (f false) h Q):Wp (sh (kJ v) f) h Q:=by
 obtain⟨t,u,hv⟩:=hv;rw[ag,IP];exact .inr ⟨t,u,hv,q⟩
theorem _root_.Go.Ago.Z.Ai (z:Z h0 h L)(i:Nat){b o:Nat}{cs vs cs':δ}{e:κ}{f:Unit->M β}{Q:β->ab->Prop}
  (q:∀h',Z h0 h' (L.set i (.av b cs' e))->Fr (·=b+1) h h'->Wp (f ()) h' Q) (hi:L[i]?=some (.av b cs e):=by rfl) (hc:bh cs o vs=cs':=by rfl) (ho:o+vs.length<=cs.length:=by first|decide|simp) (hs:vs.all eB=true:=by rfl) :
  Wp (sh (bD ⟨b,o,none⟩ vs) f) h Q:=by
 rw[ag];have l:LB h b cs e:=z.get i hi;refine l.st z.wf ho hs λh' l' fr=>q h' (z.sW (o:=.av b cs e) hi (by simp[bA.eJ]) fr ?_ (.inl rfl)) fr;rw[<-hc];exact l'
theorem yd (z:Z h0 h L)(i:Nat){b:Nat}{cs:δ}{e:κ}{neg:Bool}{s:Sl}{v:Int}{r:Bool}(hi:L[i]?=some (.av b cs e))(hc:cs.length=3) :
  Wp (sh (bD ⟨b,0,none⟩ [.bool neg,aM s,vi v]) λ_=>sh (aE [.bool,.sl,li] ⟨b,0,none⟩) λ(y:Bool×Sl×Int)=>AI ((y.1,y.2.1,y.2.2),r)) h λx h'=>x.2=r/\Fr (λ_=>False) h0 h'/\x.1=(neg,s,v)/\Fr (·=b+1) h h':=by
 have hsp:bh cs 0 [.bool neg,aM s,vi v]=[.bool neg,aM s,vi v]:=by
  unfold bh;simp[hc]
 refine z.Ai i (cs':=[.bool neg,aM s,vi v]) (λh1 z1 f1=>?_) hi hsp (by simp[hc]);have hi1:(L.set i (.av b [.bool neg,aM s,vi v] e))[i]?=some (.av b [.bool neg,aM s,vi v] e):=by
  have:=(List.getElem?_eq_some_iff.1 hi).1;simp[this]
 refine z1.fG i (x:=((neg,s,v):eI [.bool,.sl,li])) ?_ hi1;exact af.2 ⟨rfl,z1.fr,rfl,f1⟩
theorem DU (s:ζ)(a b:Nat):(s.extract a b).size<=s.size:=by simp;omega
def E8 (N:Bool×ε×Int)(h':ab)(x:Bool×Sl×Int):Prop:=x.1=N.1/\x.2.2=N.2.2/\N.2.1.length<=65536/\∃g,g<=h'.next/\BL h' x.2.1 N.2.1 g
def ye (s:ζ):Bool×ε×Int:=match Lib.atoiAll (s.extract ((Lib.indexByte s.data.toList 101).toNat+1) s.size).data.toList with
 |.ok e=>numOf s (Lib.indexByte s.data.toList 101).toNat e
 |_=>(false,[],0)
theorem abT {s:ζ}{i n a1:Nat}(hs:s.size<=65536)(hn:s.size+1<n)(hi:i<s.size)(hpos:0<i)(z:Z h0 h [.av a1 [.bool false,bF,vi 0] bT]) :
  Wp (py n s (ai a1) (i:Int)) h λx h'=>(x.2=match Lib.atoiAll (s.extract (i+1) s.size).data.toList with | .ok e=>Yz s i e|_=>false)/\Fr (λ_=>False) h0 h'/\(x.2=true->E8 (match Lib.atoiAll (s.extract (i+1) s.size).data.toList with | .ok e=>numOf s i e|_=>(false,[],0)) h' x.1):=by
 unfold py;rw[tA (by omega) (by omega),ag,fH];refine⟨by omega,by omega,by omega,?_⟩;rw[show (((i:Int)+1).toNat)=i+1 by omega,aab];have hsz:(s.extract (i+1) s.size).size<=65536:=by simp;omega
 refine z.call (P:=λr _=>match Lib.atoiAll (s.extract (i+1) s.size).data.toList with | .ok v=>r=(v,.nilIface)|_=>∃t u,r.2=.iface t u) (Sq hsz z.wf) λr h1 hr f1 z1=>?_;cases e:Lib.atoiAll (s.extract (i+1) s.size).data.toList with
 |range=>
  rw[e] at hr;refine CK hr ?_;rw[By (show (!false)=true from rfl)];exact (yd (s:=uV) z1 0 rfl rfl).mono λx h' hx=>⟨hx.1,hx.2.1,λe=>by rw[hx.1] at e;cases e⟩
 |ok v=>
  rw[e] at hr;simp only at hr;subst hr;refine CJ rfl ?_;show Wp (sh (hY s 0 (i:Int)) _) h1 _;rw[ag,fH];refine⟨by omega,by omega,by omega,?_⟩;rw[aab];unfold strings_TrimPrefix;rw[ag,af];have ec:(⟨(Lib.trimPrefix (s.extract (0:Int).toNat i).data.toList (ofBytes [45]).data.toList).toArray⟩:ζ)=yB s i:=rfl;rw[ec];have hcs:(yB s i).size<=s.size:=by
   show (Lib.trimPrefix (s.extract 0 i).data.toList [45]).toArray.size<=_;have h1:=Lz (s.extract 0 i).data.toList [45];have h2:(s.extract 0 i).data.toList.length<=s.size:=DU s 0 i;rw[ajG];omega
  refine z1.eU (n:=9) [7] (by decide) (by simp) λkb h2 z2=>?_;have hfr:H6 h2 (kb+7):=z2.get 0 rfl;obtain⟨c0,hc0⟩:∃c0,s[0]?=some c0:=⟨s[0]'(by omega),by simp[show 0<s.size by omega]⟩;rw[ag,fA];refine⟨c0,by omega,hc0,?_⟩;refine z2.newAt 0 λh3 z3=>?_;have hk:kb+7<h3.next:=LB.lt (z3.get 0 rfl) z3.wf
  have hdl:(yA (yB s i)).length=(yB s i).size:=by unfold yA;rw[ae1];rfl
  refine Lp.oo ((Yt (k:=kb+7) z3 (by omega) (by omega) hk).mono λx h4 hx=>?_);obtain⟨b2,rfl,hbk,z4⟩:=hx;have hk4:kb+7<h4.next:=LB.lt (z4.get 1 rfl) z4.wf
  rw[<-hdl];refine Lp.oo ((abO (k:=kb+7) z4 hbk hk4 (by omega) (by omega) _ v).mono λr h5 hr=>?_);obtain⟨r1,r2,z5,g,bl,hg,hg2,hg3⟩:=hr;have ha1:a1<h4.next:=LB.lt (z4.get 2 rfl) z4.wf
  have eneg:decide ((c0.toNat:Int)=45)=(s.data.toList.head?==some 45):=by
   rw[yc] at hc0;rw[aj3,hc0];by_cases hq:c0=45
   .subst hq;rfl
   .have:¬((c0.toNat:Int)=45):=λe=>hq (UInt8.toNat_inj.1 (by have:(45:UInt8).toNat=45:=rfl;omega));rw[decide_eq_false this];symm;simpa using hq
  rw[eneg] at r1 r2 bl;obtain⟨neg,sl,ee⟩:=r;simp only at r1 r2 bl;rw[show zR (s.data.toList.head?==some 45) (yA (yB s i)) v=numOf s i v from rfl] at r1 r2 bl;subst r1;subst r2;have hDl:(numOf s i v).2.1.length<=65536:=by
   grind [Hg,yA,yB,numOf]
  have hDn:(numOf s i v).2.1.length<n:=by
   grind [Hg,yA,yB,numOf]
  show Wp _ _ λ(x:(Bool×Sl×Int)×Bool) h'=>x.2=aiI (numOf s i v) s/\Fr (λ_=>False) h0 h'/\(x.2=true->E8 (numOf s i v) h' x.1);generalize numOf s i v=N at bl hDl hDn⊢;obtain⟨N1,N2,N3⟩:=N;refine z5.Ai 0 (cs':=[.bool N1,aM sl,vi N3]) (λh6 z6 f6=>?_);have bl:BL h6 sl N2 g:=rO.fr bl f6 λe=>absurd e hg;have hg6:g<=h6.next:=abi hg2 f6.next
  refine z6.fG 0 (x:=((N1,sl,N3):eI [.bool,.sl,li])) ?_;refine z6.fG 0 (x:=((N1,sl,N3):eI [.bool,.sl,li])) ?_;refine z6.NW 0 (Yw z6.wf bl) λr h7 hr f7 z7=>?_;subst hr;show Wp _ _ λ(x:(Bool×Sl×Int)×Bool) h'=>x.2=(decide (QJ N2 N3=0)&&mY (Yv N1 N2 N3) s)/\Fr (λ_=>False) h0 h'/\(x.2=true->E8 (N1,N2,N3) h' x.1);by_cases hl:QJ N2 N3=0
  .rw[By (by simpa using hl)];refine z7.fG 0 (x:=((N1,sl,N3):eI [.bool,.sl,li])) ?_;refine z7.NW 0 (abR z7.wf (bl.fr f7) (abi hg6 f7.next) hDl hDn (alC hl)) λr h8 hr f8 z8=>?_
   subst hr;rw[decide_eq_true hl,aj5];exact (yd z8 1 rfl rfl).mono λx h' hx=>⟨hx.1,hx.2.1,λ_=>by
    obtain⟨_,_,e,f9⟩:=hx;rw[e];exact⟨rfl,rfl,hDl,g,abi hg6 (abi f7.next (abi f8.next f9.next)),rO.fr ((bl.fr f7).fr f8) f9 λe=>by omega⟩⟩
  .rw[AT (by simpa using hl)];rw[decide_eq_false hl,akX];exact (yd z7 1 rfl rfl).mono λx h' hx=>⟨hx.1,hx.2.1,λe=>by rw[hx.1] at e;cases e⟩
 |_=>
  rw[e] at hr;refine CK hr ?_;rw[By (show (!false)=true from rfl)];exact (yd (s:=uV) z1 0 rfl rfl).mono λx h' hx=>⟨hx.1,hx.2.1,λe=>by rw[hx.1] at e;cases e⟩
theorem tT {s:ζ}{n:Nat}(hs:s.size<=65536)(hn:s.size+1<n)(hw:WF h):Wp (oH n s) h λx h'=>x.2=DT s/\Fr (λ_=>False) h h'/\(x.2=true->E8 (ye s) h' x.1):=by
  unfold oH;refine (Z.start hw).new λx0 h1 z1 f1=>?_;unfold strings_IndexByte;rw[ag,af];rw[show (101:Int).toNat.toUInt8=(101:UInt8) from rfl];rcases ixb s.data.toList 101 with hneg|⟨i,hi,hc⟩
  .rw[By (by simpa using hneg),YA hneg];exact (yd (s:=uV) z1 0 rfl rfl).mono λx h' hx=>⟨hx.1,hx.2.1,λe=>by rw[hx.1] at e;cases e⟩
  .have hlt:i<s.size:=(List.getElem?_eq_some_iff.1 hc).1;rw[abS hi,hi,AT (by simp),ag,fH];refine⟨by omega,by omega,by omega,?_⟩;rw[aab,show (0:Int).toNat=0 from rfl];have hes:=DU s 0 i;refine z1.call (P:=λr _=>r=oQ (s.extract 0 i)) (xb (by omega) (by omega) z1.wf) λr h2 hr f2 z2=>?_;subst hr;cases hok:oQ (s.extract 0 i) with
   |false=>
    rw[By (show (false=false) from rfl),By (show (!false)=true from rfl)];exact (yd (s:=uV) z2 0 rfl rfl).mono λx h' hx=>⟨hx.1,hx.2.1,λe=>by rw[hx.1] at e;cases e⟩
   |true=>
    have hp:=Vl hok;have hip:0<i:=by
     have:(s.extract 0 i).size=min i s.size:=(by simp);omega
    rw[AT (show ¬(true=false) by decide),AT (show ¬((!true)=true) by decide),tA (by omega) (by omega)];by_cases h6:6<(s.size:Int)-(i:Int)
    .rw[By (by simpa using h6),By h6];exact (yd (s:=uV) z2 0 rfl rfl).mono λx h' hx=>⟨hx.1,hx.2.1,λe=>by rw[hx.1] at e;cases e⟩
    .rw[AT (by simpa using h6),AT h6];refine (abT hs hn hlt hip z2).mono λx h' hx=>?_
     grind [ye,Int.toNat_natCast]
theorem DV {s:ζ}{n:Nat}(hs:s.size<=65536)(hn:s.size+1<n)(hw:WF h):Wp (sQ n s) h λx h'=>x=DT s/\Fr (λ_=>False) h h':=by
 unfold sQ;rw[ag];refine (tT hs hn hw).mono λx h1 hx=>?_;have z1:=(Z.start hw).pure hx.2.1;refine z1.new λb h2 z2 f2=>?_;refine z2.st 0 (cs':=[.bool x.1.1,aM x.1.2.1,vi x.1.2.2]) λh3 z3=>?_;exact af.2 ⟨hx.1,z3.fr⟩
end
section
def pX (b:UInt8):Bool:=b==45||decide (48<=b.toNat/\b.toNat<=57)
def DW (b:UInt8):Bool:=pX b||b==46||b==58||b==84
def CS (p:UInt8->Bool)(s:ζ):Prop:=∀b∈s.data.toList,p b=true
theorem Sr {b:UInt8}(h:pX b=true):DW b=true:=by unfold DW;rw[h];rfl
theorem CS.mom {s:ζ}(h:CS pX s):CS DW s:=λb hb=>Sr (h b hb)
theorem CS.app {p:UInt8->Bool}{x y z:ζ}(h1:CS p x)(h2:CS p y)(e:z.data.toList=x.data.toList++y.data.toList):CS p z:=λb hb=>by
 rw[e,ae0] at hb;exact hb.elim (h1 b) (h2 b)
theorem Ss:∀(u:Nat),∀b∈Lib.decDigits u,pX b=true:=by
 intro u b hb;rw[Lib.decDigits_eq] at hb;obtain⟨t,_,rfl⟩:=List.mem_map.1 hb;unfold pX Lib.dg;have h:(UInt8.ofNat (48+u/10^(Lib.nDigits u-1-t)%10)).toNat=48+u/10^(Lib.nDigits u-1-t)%10:=by
  rw[UInt8.toNat_ofNat'];omega
 simp only[ajc,OF];right;rw[h];omega
theorem N0 (e:Int):∀b∈Lib.itoa e,pX b=true:=by
 intro b hb;unfold Lib.itoa at hb;split at hb
 .rcases List.mem_cons.1 hb with rfl|hb
  .rfl
  .exact Ss _ b hb
 .exact Ss _ b hb
theorem YB (u:Nat):0<Lib.nDigits u:=by
 rw[Lib.nDigits];split<;>omega
theorem N4 (e:Int):0<(Lib.itoa e).length:=by
 unfold Lib.itoa;split
 .simp
 .rw[Lib.decDigits_length];exact YB _
theorem abU {l:List UInt8}{p:UInt8->Bool}(h:∀b∈l,p b=true):∀(c:Nat),∀b∈Lib.repeatL l c,p b=true:=by
 intro c
 induction c with
 |zero=>intro b hb;cases hb
 |succ c ih=>
  intro b hb;unfold Lib.repeatL at hb;rcases List.mem_append.1 hb with hb|hb
  .exact h b hb
  .exact ih b hb
theorem YC {l:List UInt8}{c:UInt8}:∀b∈Lib.trimRightB l c,b∈l:=by
 intro b hb;unfold Lib.trimRightB at hb;have:=(akR (·==c) (l:=l.reverse)).subset (List.mem_reverse.1 hb)
 exact List.mem_reverse.1 this
def TX (s:ζ):Prop:=CS DW s/\∃c t,s.data.toList=c::t/\((45:UInt8)∈t\/(58:UInt8)∈t)
theorem TX.app {x y z:ζ}(h1:TX x)(h2:CS DW y)(e:z.data.toList=x.data.toList++y.data.toList):TX z:=by
 obtain⟨a,c,t,e1,h⟩:=h1;refine⟨a.app h2 e,c,t++y.data.toList,by rw[e,e1];rfl,?_⟩;simp only[ae0]
 grind
theorem TX.pre {x y z:ζ}(h1:CS DW x)(h2:TX y)(e:z.data.toList=x.data.toList++y.data.toList):TX z:=by
 obtain⟨a,c,t,e1,h⟩:=h2;refine⟨h1.app a e,?_⟩;cases hx:x.data.toList with
 |nil=>exact⟨c,t,by rw[e,hx,e1];rfl,h⟩
 |cons b r=>
  refine⟨b,r++c::t,by rw[e,hx,e1];rfl,?_⟩;simp only[ae0,aio]
  grind
theorem TX.mk' {x z:ζ}{b:UInt8}(h0:0<x.size)(h1:CS pX x)(hb:b=45\/b=58)(e:z.data.toList=x.data.toList++[b]):TX z:=by
 refine⟨λd hd=>?_,?_⟩
 .rw[e,ae0] at hd;rcases hd with hd|hd
  .exact Sr (h1 d hd)
  .obtain rfl:=List.mem_singleton.1 hd;rcases hb with rfl|rfl<;>decide
 .cases hx:x.data.toList with
  |nil=>
   have:x.data.toList.length=x.size:=rfl;rw[hx] at this;simp at this;omega
  |cons c t=>
   refine⟨c,t++[b],by rw[e,hx];rfl,?_⟩;simp only[ae0,ahL]
   grind
end
section
def N5 (b:UInt8):Bool:=pX b||b==101||b==43
def YD (b:UInt8):Bool:=pX b||b==112||b==110||b==97||b==105||b==102
def FX (s:ζ):Prop:=CS YD s/\((112:UInt8)∈s.data.toList\/(110:UInt8)∈s.data.toList)
theorem Su {b:UInt8}(h:pX b=true):YD b=true:=by unfold YD;rw[h];rfl
theorem FX.pre {x y z:ζ}(h1:CS pX x)(h2:FX y)(e:z.data.toList=x.data.toList++y.data.toList):FX z:=by
 refine⟨CS.app (λb hb=>Su (h1 b hb)) h2.1 e,?_⟩;rw[e];simp only[ae0];exact h2.2.elim (λh=>.inl (.inr h)) λh=>.inr (.inr h)
theorem FX.app {x y z:ζ}(h1:FX x)(h2:CS pX y)(e:z.data.toList=x.data.toList++y.data.toList):FX z:=by
 refine⟨CS.app h1.1 (λb hb=>Su (h2 b hb)) e,?_⟩;rw[e];simp only[ae0];exact h1.2.elim (λh=>.inl (.inl h)) λh=>.inr (.inl h)
theorem YE:∀(l:List UInt8) (acc u:Nat),Lib.parseUint10 acc l=.ok u->∀b∈l,pX b=true
 |[],_,_,_=>λb hb=>by cases hb
 |c::r,acc,u,h=>by
  simp only[Lib.parseUint10] at h;split at h
  .rename_i hc;split at h
   .cases h
   .split at h
    .cases h
    .intro b hb;rcases List.mem_cons.1 hb with rfl|hb
     .unfold pX;rw[decide_eq_true hc];simp
     .exact YE r _ u h b hb
  .cases h
theorem Sv {l:List UInt8}{u:Nat}(h:Lib.parseMag l=.ok u):∀b∈l,pX b=true:=by
 unfold Lib.parseMag at h;split at h
 .cases h
 .exact YE l 0 u h
theorem YF {l:List UInt8}{e:Int}(h:Lib.atoiAll l=.ok e):∀b∈l,N5 b=true:=by
 cases l with
 |nil=>intro b hb;cases hb
 |cons c r=>
  have hn:∀{b:UInt8},pX b=true->N5 b=true:=λh=>by unfold N5;rw[h];rfl
  unfold Lib.atoiAll at h;simp only at h;split at h
  .cases h
  .cases h
  .rename_i u hu;split at hu
   .rename_i hc;intro b hb;rcases List.mem_cons.1 hb with rfl|hb
    .rcases hc with hc|hc
     .rw[show b=43 from UInt8.toNat_inj.1 hc];decide
     .rw[show b=45 from UInt8.toNat_inj.1 hc];decide
    .exact hn (Sv hu b hb)
   .exact λb hb=>hn (Sv hu b hb)
variable {Q X:List UInt8->List UInt8}
def lfB (Q X:List UInt8->List UInt8)(k:Int)(t:List UInt8):List UInt8:=
 if k=0 then [110,117,108,108] else if k=5 then 34::Q t++[34] else if k=6 then 35::X t else if k=7 then 64::t else if k=8 then 37::t else t
def SX (k:Int)(t:List UInt8):Prop:=0<=k/\k<9/\(k=0->t=[])/\(k=1->t=[116,114,117,101]\/t=[102,97,108,115,101]) /\
 (k=2->(∀b∈t,pX b=true)/\t≠[])/\(k=3->(∀b∈t,N5 b=true)/\(101:UInt8)∈t)/\(k=4->(∀b∈t,YD b=true)/\((112:UInt8)∈t\/(110:UInt8)∈t))/\(k=7\/k=8->∀b∈t,DW b=true\/b=90)
def hdB (l:List UInt8):Int:=match l with
 |b::_=>if b=34 then 5 else if b=35 then 6 else if b=64 then 7 else if b=37 then 8 else 9
 |[]=>9
def YG (l:List UInt8):Int:=
 if hdB l<9 then hdB l else if l=[110,117,108,108] then 0 else if l=[116,114,117,101]\/l=[102,97,108,115,101] then 1 else if l.all pX=true then 2 else if l.all N5=true then 3 else 4
theorem YH {p:UInt8->Bool}{l:List UInt8}(h:∀b∈l,p b=true)(h1:p 34=false)(h2:p 35=false)(h3:p 64=false)(h4:p 37=false):¬hdB l<9:=by
 cases l with
 |nil=>decide
 |cons b r=>
  have hb:=h b IT;unfold hdB;simp only;rw[AT (by rintro rfl;simp_all),AT (by rintro rfl;simp_all),AT (by rintro rfl;simp_all),AT (by rintro rfl;simp_all)];decide
theorem CL {p:UInt8->Bool}{l m:List UInt8}(h:∀b∈l,p b=true){c:UInt8}(hc:c∈m)(hp:p c=false):l≠m:=by
 rintro rfl;rw[h c hc] at hp;cases hp
theorem YI {k:Int}{t:List UInt8}(h:SX k t):YG (lfB Q X k t)=k:=by
 obtain⟨k0,k9,h0,h1,h2,h3,h4,h7⟩:=h;have hk:k=0\/k=1\/k=2\/k=3\/k=4\/k=5\/k=6\/k=7\/k=8:=by omega
 unfold lfB;rcases hk with rfl|rfl|rfl|rfl|rfl|rfl|rfl|rfl|rfl
 .rfl
 .rcases h1 rfl with rfl|rfl<;>rfl
 .obtain⟨a,b⟩:=h2 rfl;rw[AT (by decide),AT (by decide),AT (by decide),AT (by decide),AT (by decide)];unfold YG;rw[AT (YH a (by decide) (by decide) (by decide) (by decide)),AT (CL a (c:=110) (by decide) (by decide)),AT (λq=>q.elim (CL a (c:=116) (by decide) (by decide)) (CL a (c:=102) (by decide) (by decide))),By (List.all_eq_true.2 a)]
 .obtain⟨a,b⟩:=h3 rfl;rw[AT (by decide),AT (by decide),AT (by decide),AT (by decide),AT (by decide)];unfold YG;rw[AT (YH a (by decide) (by decide) (by decide) (by decide)),AT (CL a (c:=110) (by decide) (by decide)),AT (λq=>q.elim (CL a (c:=116) (by decide) (by decide)) (CL a (c:=102) (by decide) (by decide))),AT (λq=>absurd (List.all_eq_true.1 q _ b) (by decide)),By (List.all_eq_true.2 a)]
 .obtain⟨a,b⟩:=h4 rfl;rw[AT (by decide),AT (by decide),AT (by decide),AT (by decide),AT (by decide)];unfold YG;rw[AT (YH a (by decide) (by decide) (by decide) (by decide)),AT (CL a (c:=117) (by decide) (by decide)),AT (λq=>q.elim (CL a (c:=116) (by decide) (by decide)) (CL a (c:=108) (by decide) (by decide))),
   AT (λq=>b.elim (λb=>absurd (List.all_eq_true.1 q _ b) (by decide)) λb=>absurd (List.all_eq_true.1 q _ b) (by decide)),AT (λq=>b.elim (λb=>absurd (List.all_eq_true.1 q _ b) (by decide)) λb=>absurd (List.all_eq_true.1 q _ b) (by decide))]
 all_goals (unfold YG;simp[hdB])
theorem agi {k k2:Int}{t t2:List UInt8}(hQ:∀s t,34::Q s++[34]=34::Q t++[34]->s=t)(hX:∀s t,X s=X t->s=t)(h:SX k t)(h2:SX k2 t2)(e:lfB Q X k t=lfB Q X k2 t2):k=k2/\t=t2:=by
 have hk:k=k2:=by rw[<-YI (Q:=Q) (X:=X) h,<-YI (Q:=Q) (X:=X) h2,e]
 subst hk;refine⟨rfl,?_⟩;by_cases k0:k=0
 .rw[h.2.2.1 k0,h2.2.2.1 k0]
 unfold lfB at e;rw[AT k0,AT k0] at e;by_cases k5:k=5
 .rw[By k5,By k5] at e;exact hQ _ _ e
 rw[AT k5,AT k5] at e;by_cases k6:k=6
 .rw[By k6,By k6] at e;exact hX _ _ (aj6 e).2
 rw[AT k6,AT k6] at e;by_cases k7:k=7
 .rw[By k7,By k7] at e;exact (aj6 e).2
 rw[AT k7,AT k7] at e;by_cases k8:k=8
 .rw[By k8,By k8] at e;exact (aj6 e).2
 rwa [AT k8,AT k8] at e
end
section
variable {α β:Type}{h h' h0:ab}{L:List bA}{Q:β->ab->Prop}
def PP (P:α->Prop)(m:Nat->M α):Prop:=∃x,P x/\∀n h,m n h=some (x,h)
abbrev Any:α->Prop:=λ_=>True
theorem PP.pure {P:α->Prop}{x:α}(hx:P x):PP P λ_=>AI x:=⟨x,hx,λ_ _=>rfl⟩
theorem PP.bind {P:α->Prop}{R:β->Prop}{m:Nat->M α}{f:Nat->α->M β}(hm:PP P m)(hf:∀x,P x->PP R λn=>f n x):PP R λn=>sh (m n) (f n):=by
 obtain⟨x,hx,h1⟩:=hm
 grind [sh]
theorem PP.ite {P:α->Prop}{c:Prop}[Decidable c]{a b:Nat->M α}(ha:c->PP P a)(hb:¬c->PP P b):PP P λn=>if c then a n else b n:=by
 by_cases hc:c
 .simp_all
 simp_all
theorem PP.mono {P P':α->Prop}{m:Nat->M α}(hm:PP P m)(hp:∀x,P x->P' x):PP P' m:=let ⟨x,hx,h1⟩:=hm;⟨x,hp x hx,h1⟩
theorem PP.ck {b:Bool}(hb:b=true):PP (Any:Unit->Prop) λ_=>ou b:=⟨(),trivial,λ_ h=>by rw[hb];rfl⟩
theorem PP.cat {x y:ζ}(hs:x.size+y.size<=cT):PP (λz:ζ=>z.size=x.size+y.size/\z.data.toList=x.data.toList++y.data.toList) λ_=>kY x y:=⟨x++y,⟨by rw[ajk],by simp⟩,λ_ h=>by show (if x.size+y.size<=cT then some (x++y,h) else none)=_;rw[By hs]⟩
def YJ (b:Nat):Bool:=(FloatKind.f64.format.read b).isNaN
theorem agj {a b:Nat}(ha:YJ a=false)(hb:∃s m p,FloatKind.f64.format.read b=.number s m p/\m≠0):PP (Any:Nat->Prop) λ_=>MC a b:=by
 obtain⟨s,m,p,h1,h2⟩:=hb;have:∃r,FloatKind.f64.format.mul a b=some r:=by
  unfold Ieee.Format.mul;rw[h1];unfold YJ at ha;cases hr:FloatKind.f64.format.read a with
  |number t n q=>exact⟨_,rfl⟩
  |infinity t=>simp only[Ieee.Datum.product,AT h2,ais];exact⟨_,rfl⟩
  |nan t q=>rw[hr] at ha;cases ha
 obtain⟨r,hr⟩:=this;exact⟨r,trivial,λ_ h=>by unfold MC;rw[hr];rfl⟩
theorem abV {a b:Nat}(hb:YJ b=false)(ha:∃s m p,FloatKind.f64.format.read a=.number s m p/\m≠0):PP (Any:Nat->Prop) λ_=>MC a b:=by
 obtain⟨s,m,p,h1,h2⟩:=ha;have:∃r,FloatKind.f64.format.mul a b=some r:=by
  unfold Ieee.Format.mul;rw[h1];unfold YJ at hb;cases hr:FloatKind.f64.format.read b with
  |number t n q=>exact⟨_,rfl⟩
  |infinity t=>simp only[Ieee.Datum.product,AT h2,ais];exact⟨_,rfl⟩
  |nan t q=>rw[hr] at hb;cases hb
 obtain⟨r,hr⟩:=this;exact⟨r,trivial,λ_ h=>by unfold MC;rw[hr];rfl⟩
theorem agk {a:Nat}(h:HV a a=true):YJ a=false:=by
 unfold HV Ieee.Format.order at h;unfold YJ;cases hr:FloatKind.f64.format.read a with
 |number t n q=>rfl
 |infinity t=>rfl
 |nan t q=>rw[hr] at h;simp[Ieee.Datum.order] at h
theorem QM {b:Nat}{s:Bool}{m:Nat}{p:Int}(h:FloatKind.f64.format.read b=.number s m p)(hm:m≠0):∃s m p,FloatKind.f64.format.read b=.number s m p/\m≠0:=⟨s,m,p,h,hm⟩
theorem abW {b:Nat}(h:b%9223372036854775808<9218868437227405312):YJ b=false:=by
 unfold YJ FloatKind.format Ieee.Format.read;have e1:Ieee.double.signWeight=9223372036854775808:=by decide +kernel
 have e2:Ieee.double.infRung=9218868437227405312:=by decide +kernel
 simp only[e1];rw[e2];split
 .rfl
 .rfl
theorem yf {x:Int}(h1:0<=x)(h2:x<18446744073709551616):IntKind.u64.wrap x=x:=by rw[IntKind.wrap_u64];omega
theorem Hh (x:Int):0<=IntKind.u64.wrap x/\IntKind.u64.wrap x<18446744073709551616:=by rw[IntKind.wrap_u64];omega
theorem QN (x:Int):-9223372036854775808<=IntKind.i64.wrap x/\IntKind.i64.wrap x<=9223372036854775807:=by rw[IntKind.wrap_i64];omega
theorem field (a1:Int)(e:Nat)(he:e<=2046) :
  YJ (IntKind.u64.wrap ((BitVec.ofInt 64 (IntKind.u64.wrap ((BitVec.ofInt 64 a1&&&~~~BitVec.ofInt 64 9218868437227405312).toNat:Int))|||BitVec.ofInt 64 (IntKind.u64.wrap (IntKind.u64.wrap (e:Int)*2^52))).toNat:Int)).toNat=false:=by
 have hA:(BitVec.ofInt 64 a1&&&~~~BitVec.ofInt 64 9218868437227405312).toNat%9223372036854775808<4503599627370496:=by
  rw[BitVec.toNat_and];have hc:(~~~BitVec.ofInt 64 9218868437227405312).toNat=9227875636482146303:=by decide +kernel
  rw[hc,show (9223372036854775808:Nat)=2^63 from rfl,Nat.and_mod_two_pow,show 9227875636482146303%2^63=2^52-1 from rfl,Nat.and_two_pow_sub_one_eq_mod];exact akE _ (by decide)
 have hlt:(BitVec.ofInt 64 a1&&&~~~BitVec.ofInt 64 9218868437227405312).toNat<18446744073709551616:=(BitVec.ofInt 64 a1&&&~~~BitVec.ofInt 64 9218868437227405312).isLt;generalize (BitVec.ofInt 64 a1&&&~~~BitVec.ofInt 64 9218868437227405312).toNat=A at hA hlt⊢;rw[yf (x:=(A:Int)) (by omega) (by omega),yf (x:=(e:Int)) (by omega) (by omega),yf (x:=(e:Int)*2^52) (by omega) (by omega),BitVec.toNat_or,akw,akw];have e1:((A:Int)%(2^64:Nat)).toNat=A:=by omega
 have e2:((e:Int)*2^52%(2^64:Nat)).toNat=e*4503599627370496:=by omega
 rw[e1,e2];have hor:A|||e*4503599627370496<18446744073709551616:=Nat.or_lt_two_pow (n:=64) hlt (by omega);rw[yf (by omega) (by omega),aab];refine abW ?_;rw[show (9223372036854775808:Nat)=2^63 from rfl,Nat.or_mod_two_pow];have h1:A%2^63<2^52:=hA;have h2:e*4503599627370496%2^63=e*4503599627370496:=Nat.mod_eq_of_lt (by omega);rw[h2];have h3:A%2^63|||e*4503599627370496<=A%2^63+e*4503599627370496:=by
  rw[show e*4503599627370496=e <<< 52 by rw[Nat.shiftLeft_eq],Nat.or_comm,<-Nat.shiftLeft_add_eq_or_of_lt h1,ald];exact aae _
 omega
theorem YK (x:Int):0<=RP x/\RP x<64:=by
 unfold RP;have:=Hh (bits BinOp.and IntKind.u64 x (IntKind.u64.wrap (-x))*285870213051353865);omega
theorem agl (i:Nat):Jg i<64:=by
 unfold Jg;by_cases hi:i<64
 .have h1:HY.all (·<64)=true:=by decide
  have h2:i<HY.length:=hi
  simp_all
 .have h2:HY.length<=i:=by have:HY.length=64:=rfl;omega
  grind
theorem aiL (x:Int):PP (λy:Int=>0<=y/\y<=64) λn=>cP n x:=by
 unfold cP;refine PP.ite (λ_=>PP.pure (by omega)) λ_=>PP.ite (λhc=>PP.pure ?_) λhc=>absurd (YK x) hc
 grind [agl,RP,Go.RowKit.wrap64]
theorem Aj (b:Nat):PP (λy:Int=>y=b) λn=>eY n b:=PP.pure rfl
theorem Ak (x:Int):PP (λy:Nat=>y=x.toNat) λn=>cV n x:=PP.pure rfl
theorem QO (b:Nat):PP (Any:Nat->Prop) λn=>zu n b:=(Aj b).bind λx _=>(Ak _).bind λy _=>PP.pure trivial
theorem QP (x:Int):PP (Any:Nat->Prop) λn=>zr n x:=PP.ite (λ_=>(Ak _).bind λy _=>PP.pure trivial) λ_=>(Ak _).bind λy _=>PP.pure trivial
theorem agm:PP (Any:Nat->Prop) λn=>GS n:=(Ak _).bind λy _=>PP.pure trivial
theorem FU (a b:Nat):PP (Any:Nat->Prop) λn=>nh n a b:=(Aj a).bind λx _=>(Aj b).bind λy _=>(Ak _).bind λy _=>PP.pure trivial
theorem N6 (a:Nat)(x:Int):PP (Any:Bool->Prop) λn=>xK n a x:=PP.ite (λ_=>(QO a).bind λy _=>PP.pure trivial) λ_=>PP.ite (λ_=>PP.pure trivial) λ_=>PP.pure trivial
theorem abX (a:Nat):PP (Any:Bool->Prop) λn=>xL n a:=(Aj a).bind λx _=>PP.pure trivial
theorem LA {a:Nat}(ha:YJ a=false):PP (Any:Nat×Int->Prop) λn=>uZ n a:=by
 refine (QO a).bind λy _=>PP.ite (λ_=>(agj ha ?_).bind λz _=>PP.pure trivial) λ_=>PP.pure trivial;exact QM (s:=false) (m:=4503599627370496) (p:=0) (by decide +kernel) (by decide)
theorem aeJ {e a1:Int}{c:Nat}(h1:-1022<=e)(h2:e<=1023)(hc:∃s m p,FloatKind.f64.format.read c=.number s m p/\m≠0):PP (Any:Nat->Prop) λn=>sR n e a1 c:=by
 refine (PP.ck (by decide)).bind λ_ _=>(Ak _).bind λy hy=>(abV ?_ hc).bind λz _=>PP.pure trivial;rw[hy,tA (by omega) (by omega)];obtain⟨k,hk⟩:∃k:Nat,e+1023=k:=⟨(e+1023).toNat,by omega⟩;rw[hk];exact field a1 k (by omega)
theorem YL (a:Nat)(e:Int):PP (Any:Nat->Prop) λn=>Br n a e:=by
 refine PP.bind (P:=Any) ?_ λy _=>PP.pure trivial;refine PP.ite (λ_=>PP.pure trivial) λ_=>(N6 a 0).bind λb _=>PP.ite (λ_=>PP.pure trivial) λ_=>PP.bind (P:=λb=>b=!HV a a) (PP.pure rfl) λb hb=>PP.ite (λ_=>PP.pure trivial) λhn=>?_;have ha:YJ a=false:=agk (by subst hb;simpa using hn);refine (LA ha).bind λx _=>(Aj _).bind λx1 _=>(PP.ck (by decide)).bind λ_ _=>?_;generalize IntKind.i64.wrap (IntKind.i64.wrap (e+x.2)+IntKind.i64.wrap (IntKind.i64.wrap (↑(BitVec.ofInt 64 (IntKind.i64.wrap (Int.fdiv x1 (2^52)))&&&BitVec.ofInt 64 2047).toNat:Int)-1023))=E;refine PP.ite (λ_=>(FU _ _).bind λ_ _=>PP.pure trivial) λg1=>PP.ite (λ_=>PP.ite (λ_=>(QP _).bind λ_ _=>PP.pure trivial) λ_=>(QP _).bind λ_ _=>PP.pure trivial) λg2=>PP.ite (λg3=>?_) λg3=>?_
 .simp only[OF] at g1 g2 g3;rw[tA (by omega) (by omega)];exact aeJ (by omega) (by omega) (QM (s:=false) (m:=4503599627370496) (p:=-105) (by decide +kernel) (by decide))
 .simp only[OF] at g1 g2 g3;exact aeJ (by omega) (by omega) (QM (s:=false) (m:=4503599627370496) (p:=-52) (by decide +kernel) (by decide))
theorem I1 {m e:Int}(h1:0<=m)(h2:m<18446744073709551616):PP (λx:Int×Int=>(0<=x.1/\x.1<18446744073709551616)/\(-9223372036854775808<=x.2/\x.2<=9223372036854775807)) λn=>pz n m e:=by
 refine (aiL m).bind λy hy=>(PP.ck (by simpa using hy.1)).bind λ_ _=>PP.pure ⟨?_,QN _⟩;have hp:(0:Int)<2^min y.toNat 64:=Int.pow_pos (by decide);rw[akB _ (Int.le_of_lt hp)];have h3:=Int.ediv_nonneg h1 (Int.le_of_lt hp);have h4:=Int.ediv_le_self (a:=m) (2^min y.toNat 64) h1;exact⟨h3,by omega⟩
theorem YM (a:Nat):PP (λx:Int×Int=>(0<=x.1/\x.1<18446744073709551616)/\(-9223372036854775808<=x.2/\x.2<=9223372036854775807)) λn=>xM n a:=
 (QO a).bind λx _=>(Aj x).bind λy _=>(PP.ck (by decide)).bind λ_ _=>PP.ite (λ_=>I1 (Hh _).1 (Hh _).2) λ_=>I1 (Hh _).1 (Hh _).2
theorem Sw {e:Int}(h1:-9223372036854775808<=e)(h2:e<18446744073709551616):(Lib.itoa e).length<=21:=by
 unfold Lib.itoa;split
 .rw[aac,Lib.decDigits_length];have:=FT 20 e.natAbs (by omega) (by omega);omega
 .rw[Lib.decDigits_length];have:=FT 20 e.toNat (by omega) (by omega);omega
theorem aiM {u:Int}(h1:0<=u)(h2:u<18446744073709551616):PP (λx:ζ=>x.size<=21/\0<x.size/\CS pX x) λn=>pN n u 10:=by
 refine PP.bind (P:=λx:ζ=>x.size<=21/\0<x.size/\CS pX x) ?_ λx hx=>PP.pure hx;unfold fY;refine PP.ite (λ_=>PP.pure ?_) λhn=>absurd ⟨h1,h2,rfl⟩ hn;have:=Sw (e:=u) (by omega) h2;have:=N4 u;refine⟨?_,?_,N0 u⟩
 .show (Lib.itoa u).toArray.size<=21;simp;omega
 .show 0<(Lib.itoa u).toArray.size;simp;omega
theorem aeK {e:Int}(h1:-9223372036854775808<=e)(h2:e<=9223372036854775807):PP (λx:ζ=>x.size<=21/\0<x.size/\CS pX x) λn=>strconv_Itoa n e:=by
 unfold strconv_Itoa;refine PP.ite (λ_=>PP.pure ?_) λhn=>absurd ⟨h1,h2⟩ hn;have:=Sw (e:=e) h1 (by omega);have:=N4 e;refine⟨?_,?_,N0 e⟩
 .show (Lib.itoa e).toArray.size<=21;simp;omega
 .show 0<(Lib.itoa e).toArray.size;simp;omega
theorem fxl {l:List UInt8}(h:l.all YD=true)(h2:(112:UInt8)∈l\/(110:UInt8)∈l):FX (ofBytes l):=⟨λb hb=>List.all_eq_true.1 h b hb,h2⟩
theorem FX.trim {s:ζ}(h:FX ⟨(Lib.trimPrefix s.data.toList [45]).toArray⟩):FX s:=by
 unfold FX CS at h⊢;simp only at h;generalize s.data.toList=l at h⊢;unfold Lib.trimPrefix at h;split at h
 .cases l with
  |nil=>simp at h
  |cons c r=>
   rename_i hp;have hc:c=45:=by
    unfold Lib.hasPrefix at hp;simp at hp
    first|exact hp|exact hp.symm
   subst hc;simp only[aac,adf,adj,List.drop_succ_cons,ahZ] at h;refine⟨λb hb=>?_,h.2.elim (λh=>.inl (IN _ h)) λh=>.inr (IN _ h)⟩;rcases List.mem_cons.1 hb with rfl|hb
   .decide
   .exact h.1 b hb
 .exact h
theorem N7 {a:Nat}{s:ζ}(hs:s.size<=1)(hc:CS pX s):PP FX λn=>qC n a s:=by
 have h3:(ofBytes [105,110,102]).size=3:=rfl;have h4:(ofBytes [48,112,48]).size=3:=rfl;have h5:(ofBytes [112]).size=1:=rfl;refine PP.ite (λ_=>PP.pure (fxl (by decide) (by decide))) λ_=>(N6 a 0).bind λb _=>PP.ite (λ_=>(PP.cat (by unfold cT;omega)).bind λ_ hz=>PP.pure (.pre hc (fxl (by decide) (by decide)) hz.2)) λ_=>PP.ite (λ_=>(PP.cat (by unfold cT;omega)).bind λ_ hz=>PP.pure (.pre hc (fxl (by decide) (by decide)) hz.2)) λ_=>?_;refine (YM a).bind λx hx=>(aiM hx.1.1 hx.1.2).bind λy hy=>(PP.cat (by unfold cT;omega)).bind λz hz=>(PP.cat (by unfold cT;omega)).bind λz2 hz2=>(aeK hx.2.1 hx.2.2).bind λz3 hz3=>(PP.cat (by unfold cT;omega)).bind λw hw=>PP.pure ?_;exact .app (.pre (hc.app hy.2.2 hz.2) (fxl (by decide) (by decide)) hz2.2) hz3.2.2 hw.2
theorem alD:CS pX (ofBytes [45]):=λb hb=>by
 obtain rfl:=List.mem_singleton.1 (show b∈[45] from hb);decide
theorem cs0:CS pX (ofBytes []):=λb hb=>by cases hb
theorem YN (a:Nat):PP FX λn=>zw n a:=
 (abX a).bind λb _=>PP.ite (λ_=>N7 (by decide) alD) λ_=>N7 (by decide) cs0
theorem Vm (s:ζ)(b:Bool)(m e:Int):PP (λr:Nat×Bool=>r.2=true->FX s) λn=>iN n s b m e:=
 (YL _ e).bind λx _=>(YN x).bind λy hy=>PP.ite (λ_=>PP.pure λh=>by cases h) λg=>
  have q:FX s:=(kM (by simpa using g):y=s)▸hy
  PP.ite (λ_=>(FU _ _).bind λ_ _=>PP.pure λ_=>q) λ_=>PP.pure λ_=>q
theorem abY {m e:Int}(h1:0<=m)(h2:m<=18446744073709551615):PP (Any:Bool->Prop) λn=>nZ n m e:=by
 refine PP.bind (P:=Any) ?_ λx _=>(PP.ck (by decide)).bind λ_ _=>PP.ite (λ_=>PP.ite (λ_=>PP.ite (λ_=>PP.ite (λ_=>PP.pure trivial) λ_=>PP.pure trivial) λ_=>PP.pure trivial) λ_=>PP.pure trivial) λ_=>PP.pure trivial;unfold fP;exact PP.ite (λ_=>PP.pure trivial) λhn=>absurd ⟨h1,h2⟩ hn
theorem ago {s:ζ}(hs:s.size<=65536):PP (λr:ζ×ζ×Bool=>r.1.size<=65536/\r.2.1.size<=65536) λn=>strings_Cut n s (ofBytes [112]):=by
 refine PP.bind (P:=λr:ζ×ζ×Bool=>r.1.size<=65536/\r.2.1.size<=65536) ?_ λx hx=>PP.pure hx;unfold qB;refine PP.bind (P:=λx:Int=>x=Lib.indexByte s.data.toList 112) ⟨_,rfl,λ_ _=>rfl⟩ λx hx=>?_;subst hx;refine PP.ite (λhc=>?_) λ_=>PP.pure ⟨hs,by show 0<=65536;omega⟩;rcases ixb s.data.toList 112 with hneg|⟨i,hi,hg⟩
 .simp only[OF] at hc;omega
 .have hlt:i<s.size:=(List.getElem?_eq_some_iff.1 hg).1;rw[hi];have h1:=DU s 0 i;have h2:=DU s (i+1) s.size;refine PP.bind (P:=λx:ζ=>x.size<=65536) ⟨s.extract 0 i,by omega,λ_ h=>by show hY s 0 (i:Int) h=_;unfold hY;rw[By (by omega)];simp[F9]⟩ λx hx=>?_;have ew:IntKind.i64.wrap ((i:Int)+((ofBytes [112]).size:Int))=((i+1:Nat):Int):=by
   have:(ofBytes [112]).size=1:=rfl;rw[tA (by omega) (by omega)];omega
  rw[ew];refine PP.bind (P:=λx:ζ=>x.size<=65536) ⟨s.extract (i+1) s.size,by omega,λ_ h=>by show hY s ((i+1:Nat):Int) (s.size:Int) h=_;unfold hY;rw[By (by omega)];simp[F9]⟩ λy hy=>PP.pure ⟨hx,hy⟩
theorem abZ {s:ζ}{n:Nat}(hs:s.size<=65536)(hw:WF h):Wp (fC n s 10 64) h λr h'=>(match Lib.parseUintB 64 s.data.toList with | .ok v=>r=((v:Int),.nilIface)|_=>∃t u,r.2=.iface t u)/\Fr (λ_=>False) h h':=by
 unfold fC;rw[By ⟨by omega,rfl,rfl⟩];cases e:Lib.parseUintB 64 s.data.toList with
 |ok v=>exact af.2 ⟨rfl,Fr.refl hw⟩
 |range=>
  show Wp (yF _) h _;unfold yF;rw[ag];exact Lw λh' f=>af.2 ⟨⟨_,_,rfl⟩,f hw⟩
 |_=>
  show Wp (yF 0) h _;unfold yF;rw[ag];exact Lw λh' f=>af.2 ⟨⟨_,_,rfl⟩,f hw⟩
def One (R:Nat×Bool->Prop)(m:Nat->M (Nat×Bool)):Prop:=∃b:Nat×Bool,R b/\∀n h,WF h->Wp (m n) h λx h'=>x=b/\Fr (λ_=>False) h h'
variable {R:Nat×Bool->Prop}
theorem One.of {m:Nat->M (Nat×Bool)}(hm:PP R m):One R m:=by
 obtain⟨x,hr,hx⟩:=hm;exact⟨x,hr,λn h hw=>⟨x,h,hx n h,rfl,Fr.refl hw⟩⟩
theorem One.bind {P:α->Prop}{m:Nat->M α}{f:Nat->α->M (Nat×Bool)}(hm:PP P m)(hf:∀x,P x->One R λn=>f n x):One R λn=>sh (m n) (f n):=by
 obtain⟨x,hx,h1⟩:=hm;obtain⟨b,hr,h2⟩:=hf x hx;refine⟨b,hr,λn h hw=>?_⟩;show Wp (sh (m n) (f n)) h _;rw[ag];exact⟨x,h,h1 n h,h2 n h hw⟩
theorem One.ite {c:Prop}[Decidable c]{a b:Nat->M (Nat×Bool)}(ha:c->One R a)(hb:¬c->One R b):One R λn=>if c then a n else b n:=by
 by_cases hc:c
 .simp_all
 simp_all
theorem iA {h h1 h2:ab}(hw:WF h)(a:Fr (λ_=>False) h h1)(b:Fr (λ_=>False) h1 h2):Fr (λ_=>False) h h2:=a.trans hw b λ_ hx _=>hx.elim
theorem DX {s:ζ}(hs:s.size<=65536):One (λb=>b.2=true->FX s) λn=>mz n s:=by
 unfold mz;refine One.bind (P:=λx:ζ×Bool=>x.1.size<=65536/\(FX x.1->FX s)) ⟨_,⟨?_,λq=>FX.trim q⟩,λ_ _=>rfl⟩ λx0 h0=>One.ite (λg=>One.of (agm.bind λ_ _=>PP.pure λ_=>by rw[kM g];exact fxl (by decide) (by decide))) λ_=>
  One.ite (λg=>have q:FX s:=h0.2 (by rw[kM g];exact fxl (by decide) (by decide));One.of ((QP _).bind λ_ _=>PP.ite (λ_=>(FU _ _).bind λ_ _=>PP.pure λ_=>q) λ_=>PP.pure λ_=>q)) λ_=>
  One.ite (λg=>have q:FX s:=h0.2 (by rw[kM g];exact fxl (by decide) (by decide));One.of (PP.ite (λ_=>(FU _ _).bind λ_ _=>PP.pure λ_=>q) λ_=>PP.pure λ_=>q)) λ_=>One.bind (ago h0.1) λr hr=>?_
 .show (Lib.trimPrefix s.data.toList (ofBytes [45]).data.toList).toArray.size<=65536;have:=Lz s.data.toList (ofBytes [45]).data.toList;have h2:s.data.toList.length=s.size:=rfl;rw[ajG];omega
 .obtain⟨t,u,found⟩:=r;simp only at hr⊢;have tail:∀(v:Nat) (e:Int),Lib.parseUintB 64 t.data.toList=.ok v->One (λb=>b.2=true->FX s) λn=>sh (nZ n (v:Int) e) λx6=>if (!x6)=true then AI (0,false) else iN n x0.1 x0.2 (v:Int) e:=λv e hv=>by
   have hle:=Lib.parseUintB_le hv;exact One.of ((abY (by omega) (by omega)).bind λ_ _=>PP.ite (λ_=>PP.pure λh=>by cases h) λ_=>(Vm _ _ _ _).mono λr hr h=>h0.2 (hr h))
  have go:∃b:Nat×Bool,(b.2=true->FX s)/\∀n (x2 x3:Int×ξ) (h:ab),WF h->(match Lib.parseUintB 64 t.data.toList with | .ok v=>x2=((v:Int),.nilIface)|_=>∃t u,x2.2=.iface t u)->(match Lib.atoiAll u.data.toList with | .ok v=>x3=(v,.nilIface)|_=>∃t u,x3.2=.iface t u) ->
    Wp (if (!found)=true then AI (0,false) else sh (kJ x2.2) λx4=>if (!x4)=true then AI (0,false) else sh (kJ x3.2) λx5=>if (!x5)=true then AI (0,false) else
     sh (nZ n x2.1 x3.1) λx6=>if (!x6)=true then AI (0,false) else iN n x0.1 x0.2 x2.1 x3.1) h λx h'=>x=b/\Fr (λ_=>False) h h':=by
   cases found with
   |false=>exact⟨((0:Nat),false),(λh=>by cases h),λn x2 x3 h hw _ _=>by rw[By (show (!false)=true from rfl)];exact af.2 ⟨rfl,Fr.refl hw⟩⟩
   |true=>
    have bad2:∀n (x2 x3:Int×ξ) (h:ab),WF h->(∃t u,x2.2=.iface t u)->Wp (if (!true)=true then AI (0,false) else sh (kJ x2.2) λx4=>if (!x4)=true then AI (0,false) else sh (kJ x3.2) λx5=>if (!x5)=true then AI (0,false) else
     sh (nZ n x2.1 x3.1) λx6=>if (!x6)=true then AI (0,false) else iN n x0.1 x0.2 x2.1 x3.1) h λx h'=>x=((0:Nat),false)/\Fr (λ_=>False) h h':=λn x2 x3 h hw hb=>by
     rw[AT (show ¬((!true)=true) by decide)];refine CK hb ?_;rw[By (show (!false)=true from rfl)];exact af.2 ⟨rfl,Fr.refl hw⟩
    cases e2:Lib.parseUintB 64 t.data.toList with
    |range=>exact⟨((0:Nat),false),(λh=>by cases h),λn x2 x3 h hw hb _=>bad2 n x2 x3 h hw hb⟩
    |ok v=>
     have bad3:∀n (x2 x3:Int×ξ) (h:ab),WF h->x2.2=.nilIface->(∃t u,x3.2=.iface t u)->Wp (if (!true)=true then AI (0,false) else sh (kJ x2.2) λx4=>if (!x4)=true then AI (0,false) else sh (kJ x3.2) λx5=>if (!x5)=true then AI (0,false) else
      sh (nZ n x2.1 x3.1) λx6=>if (!x6)=true then AI (0,false) else iN n x0.1 x0.2 x2.1 x3.1) h λx h'=>x=((0:Nat),false)/\Fr (λ_=>False) h h':=λn x2 x3 h hw ha hb=>by
      rw[AT (show ¬((!true)=true) by decide)];refine CJ ha ?_;rw[AT (show ¬((!true)=true) by decide)];refine CK hb ?_;rw[By (show (!false)=true from rfl)];exact af.2 ⟨rfl,Fr.refl hw⟩
     cases e3:Lib.atoiAll u.data.toList with
     |range=>exact⟨((0:Nat),false),(λh=>by cases h),λn x2 x3 h hw ha hb=>bad3 n x2 x3 h hw (by rw[ha]) hb⟩
     |ok e=>
      obtain⟨b,rb,hb⟩:=tail v e e2;refine⟨b,rb,λn x2 x3 h hw h2 h3=>?_⟩;simp only at h2 h3;subst h2;subst h3;rw[AT (show ¬((!true)=true) by decide)];refine CJ rfl ?_;rw[AT (show ¬((!true)=true) by decide)];refine CJ rfl ?_;rw[AT (show ¬((!true)=true) by decide)];exact hb n h hw
     |_=>exact⟨((0:Nat),false),(λh=>by cases h),λn x2 x3 h hw ha hb=>bad3 n x2 x3 h hw (by rw[ha]) hb⟩
    |_=>exact⟨((0:Nat),false),(λh=>by cases h),λn x2 x3 h hw hb _=>bad2 n x2 x3 h hw hb⟩
  obtain⟨b,rb,hb⟩:=go;refine⟨b,rb,λn h hw=>?_⟩;show Wp (sh (fC n t 10 64) _) h _;rw[ag];refine (abZ hr.1 hw).mono λx2 h1 hx2=>?_;rw[ag];refine (Sq hr.2 hx2.2.wf).mono λx3 h2 hx3=>?_;refine (hb n x2 x3 h2 hx3.2.wf hx2.1 hx3.1).mono λx h3 hx=>⟨hx.1,iA hw hx2.2 (iA hx2.2.wf hx3.2 hx.2)⟩
theorem LC (s:ζ)(hs:s.size<=65536):∃b:Bool,(b=true->FX s)/\∀n h,WF h->Wp (qD n s) h λx h'=>x=b/\Fr (λ_=>False) h h':=by
 obtain⟨b,rb,hb⟩:=DX hs;refine⟨b.2,rb,λn h hw=>?_⟩;unfold qD;rw[ag];exact (hb n h hw).mono λx h1 hx=>af.2 ⟨by rw[hx.1],hx.2⟩
open Classical in
noncomputable def YO (s:ζ):Bool:=if hs:s.size<=65536 then (LC s hs).choose else false
theorem E9 {s:ζ}{n:Nat}(hs:s.size<=65536)(hw:WF h):Wp (qD n s) h λx h'=>x=YO s/\Fr (λ_=>False) h h':=by
 unfold YO;rw[dif_pos hs];exact (LC s hs).choose_spec.2 n h hw
theorem ab0 {s:ζ}(h:YO s=true):FX s:=by
 unfold YO at h;split at h
 .rename_i hs;exact (LC s hs).choose_spec.1 h
 .cases h
end
end Go.Sh
