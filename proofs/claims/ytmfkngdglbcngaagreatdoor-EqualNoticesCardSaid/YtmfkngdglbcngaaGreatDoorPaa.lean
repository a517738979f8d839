
import Derived.Test.YtmfkngdglbcngaaGreatDoorBi
import Derived.Test.YtmfkngdglbcngaaGreatDoorAgoY
import Derived.Test.YtmfkngdglbcngaaGreatDoorGi
set_option linter.all false
namespace Go.Sh
open Go Go.Ago Go.Proofs
section
variable {α β:Type}{h h' h0:af}{L:List bu}{Q:β->af->Prop}{k:Nat}
def stripR:ε->Int->ε×Int
 |[],e=>([],e)
 |x::r,e=>if x=0 then stripR r (IntKind.i64.wrap (e+1)) else ((x::r).reverse,e)
def stripL:ε->ε
 |[]=>[]
 |x::r=>if x=0 then stripL r else x::r
def y5 (neg:Bool)(D:ε)(e:Int):Bool×ε×Int:=
 if (stripR (stripL D).reverse e).1.length=0 then (false,[],0) else (neg,(stripR (stripL D).reverse e).1,(stripR (stripL D).reverse e).2)
theorem CM:∀D:ε,(stripL D).length<=D.length
 |[]=>aao _
 |x::r=>by
  unfold stripL;split
  .have:=CM r;simp;omega
  .exact aao _
theorem HW:∀(D:ε) (e:Int),(stripR D e).1.length<=D.length
 |[],e=>aao _
 |x::r,e=>by
  unfold stripR;split
  .have:=HW r (IntKind.i64.wrap (e+1));simp;omega
  .simp
def BL (h:af)(s:Sl)(xs:ε)(g:Nat):Prop:=rk h s 1 (xs.map v8) g
theorem Ms {γ:Type}{D:List γ}{z d:γ}{i:Nat}(hd:D[i]?=some d):(D.take i++List.replicate (D.length-i) z).set i d=D.take (i+1)++List.replicate (D.length-(i+1)) z:=by
 have hlt:=(List.getElem?_eq_some_iff.1 hd).1;have hl:(D.take i).length=i:=by rw[aeO];omega
 obtain⟨m,hm⟩:∃m,D.length-i=m+1:=⟨D.length-i-1,by omega⟩;rw[hm,agc,agz _ _ (by omega),hl,agk,afn,aiu,hd,show D.length-(i+1)=m by omega];simp
theorem Z.gne (z:Z h0 h L)(i:Nat){b k:Nat}{cs:δ}{e:κ}(hi:L[i]?=some (.au b cs e))(hk:b≠k):∀c g base e',h.get b=some (.cells c g base e')->g≠k+1:=λc g base e' hg=>by
 have l:LB h b cs e:=z.get i hi;rw[l.get] at hg;cases hg;omega
theorem O3 {s:ζ}{b:Nat}(hs:s.size<=65536)(hb:b≠k):∀(n i:Nat) (h:af),s.size-i<n->i<=s.size->Z h0 h (.au b (((xG s).take i++List.replicate ((xG s).length-i) 0).map v8) gU::L) ->
  Lp k (jv n s ⟨some ⟨b,0,none⟩,s.size,s.size+1⟩ (s.size:Int) (i:Int)) h λ_ h'=>Z h0 h' (.au b ((xG s).map v8) gU::L):=by
 have hl:(xG s).length=s.size:=by unfold xG;rw[ac3];exact jl s
 intro n
 induction n with
 |zero=>intro i h h1;omega
 |succ n ih=>
  intro i h h1 h2 z;rw[xR];unfold pM;refine CL (λhc=>?_) λhc=>?_
  .have hi:i<s.size:=by simp only[OF] at hc;omega
   obtain⟨c,hc1⟩:∃c,s[i]?=some c:=⟨s[i],by simp[hi]⟩;have hd:(xG s)[i]?=some (Wc c):=by
    grind [xG,xq]
   refine Lp.step ?_ (λ_ _ hx=>BP.pm (Pm.jx _ _) hx);rw[ah,fE];refine⟨c,by omega,by simpa using hc1,ag.2 ?_⟩;refine Lp.step (G4 (by omega) (by omega) (ag.2 ?_)) λ_ _ hx=>BP.pm (Pm.aw _ _ _) hx;simp only[IT,ac0];have hg:=Z.gne z 0 rfl hb;refine Lp.step (Z.As z 0 (enc:=v8) (xs:=(xG s).take i++List.replicate ((xG s).length-i) 0) (k:=i) (v:=Wc c) (by simp;omega) λh' z'=>ag.2 ?_) λ_ _ hx=>BP.bF hb hg hx;rw[Ms hd] at z';rw[vq (B:=65536) (by omega) (by omega)];exact ih (i+1) h' (by omega) (by omega) z'
  .have hi:i=s.size:=by simp only[OF] at hc;omega
   refine Lp.pure ?_;rw[hi,<-hl] at z;simpa using z
theorem Wf (z:Z h0 h L){s:ζ}{n:Nat}(hs:s.size<=65536)(hn:s.size<n)(hk:k<h.next) :
  Lp k (sB n s) h λx h'=>∃b,x=⟨some ⟨b,0,none⟩,s.size,s.size+1⟩/\b≠k/\Z h0 h' (.au b ((xG s).map v8) gU::L):=by
 unfold sB;have hl:(xG s).length=s.size:=by unfold xG;rw[ac3];exact jl s
 refine Lp.step ?_ λ_ _ hx=>BP.vS hx;rw[ah];refine IH (z:=[v8 0]) (by omega) (agD _) (by unfold cF;omega) (ag.2 ?_);have hf:=Fr.new (e:=gU) (cs:=(List.replicate s.size [v8 0]).flatten) z.wf;have z1:=z.add hf (o:=.au h.next _ gU) LB.new (.inr (aam _))
 have e1:(List.replicate s.size [v8 0]).flatten=((xG s).take 0++List.replicate ((xG s).length-0) 0).map v8:=by
  rw[hl];simp[ahN]
 simp only[IT];rw[e1] at z1⊢;refine Lp.bind ((O3 hs (by omega) n 0 _ (by omega) (by omega) z1).mono λ_ h' z2=>Lp.pure ⟨h.next,rfl,by omega,z2⟩)
theorem QC (z:Z h0 h L)(i:Nat){b o m c:Nat}{xs:ε}{j:Int}{x:Int}(hi:L[i]?=some (.au b (xs.map v8) gU))(hx:((xs.drop o).take m)[j.toNat]?=some x)(h1:0<=j)(hb:b≠k){f:Int->M β}(q:Lp k (f x) h Q) :
  Lp k (sh (aw ⟨some ⟨b,o,none⟩,m,c⟩ j 1) λa=>sh (ar (.int .u8) a) f) h Q:=by
 have hlt:=(List.getElem?_eq_some_iff.1 hx).1;rw[aeO] at hlt;have l:LB h b (xs.map v8) gU:=z.get i hi;refine Lp.step ?_ λ_ _ hx=>BP.pm (Pm.aw _ _ _) hx;rw[ah,zm];refine⟨_,rfl,h1,by simp only;omega,ag.2 ?_⟩;refine Lp.step ?_ λ_ _ hx=>BP.ar (by simpa[Addr.plus] using hb) hx;rw[ah,vD];refine⟨x,?_,ag.2 q⟩;refine l.ld (v:=v8 x) ?_ rfl;rw[agS,aev] at hx;split at hx
 .simp only[Addr.plus,ac0];rw[abo,hx];rfl
 .cases hx
theorem QD (z:Z h0 h L)(i:Nat){b o m c:Nat}{xs:ε}{lo hi:Int}(hL:L[i]?=some (.au b (xs.map v8) gU))(h1:0<=lo)(h2:lo<=hi)(h3:hi<=m)(hb:b≠k){f:Sl->M β}
  (q:∀c',Lp k (f ⟨some ⟨b,o+lo.toNat,none⟩,hi.toNat-lo.toNat,c'⟩) h Q):Lp k (sh (lu ⟨some ⟨b,o,none⟩,m,c⟩ lo hi gU 1) f) h Q:=by
 have l:LB h b (xs.map v8) gU:=z.get i hL;refine Lp.step ?_ λ_ _ hx=>BP.rm (Rm.lu _ _ _ _ _) (λb' hb'=>by cases hb';exact hb) hx;rw[ah];refine Co h1 h2 (by simpa using h3) (by simp[oU,l.get]) ?_;simp only[afk,Addr.plus,ac0];exact ag.2 (q _)
theorem Za (z:Z h0 h L)(i:Nat){b:Nat}{xs:ε}(hL:L[i]?=some (.au b (xs.map v8) gU))(hb:b≠k)(neg:Bool)(e:Int)(a3:Addr):∀(n o m c:Nat),m<n->o+m<=xs.length ->
  Lp k (jZ n neg ⟨some ⟨b,o,none⟩,m,c⟩ e a3) h λr h'=>h'=h/\∃o' m' c',r=⟨some ⟨b,o',none⟩,m',c'⟩/\o'+m'<=xs.length/\(xs.drop o').take m'=stripL ((xs.drop o).take m):=by
 intro n
 induction n with
 |zero=>intro o m c h1;omega
 |succ n ih=>
  intro o m c h1 h2;rw[yD];unfold qv;refine CL (λhc=>?_) λhc=>?_
  .have hm:0<m:=by simp only[OF] at hc;omega
   obtain⟨m,rfl⟩:∃m',m=m'+1:=⟨m-1,by omega⟩;obtain⟨x,hx⟩:∃x,xs[o]?=some x:=⟨xs[o],abi (by omega)⟩;have hd:(xs.drop o).take (m+1)=x::(xs.drop (o+1)).take m:=by
    rw[drop_cons hx,List.take_succ_cons]
   refine QC z i hL (x:=x) (by rw[hd];rfl) (by omega) hb ?_;rw[hd];refine CL (λh0=>?_) λh0=>?_
   .have h0:x=0:=(by simpa using h0);refine QD z i hL (by omega) (by simp only;omega) (by simp only;omega) hb λc'=>?_;rw[show o+(1:Int).toNat=o+1 from rfl,show ((((⟨some ⟨b,o,none⟩,m+1,c⟩:Sl).len:Nat):Int).toNat-(1:Int).toNat)=m by simp];refine (ih (o+1) m c' (by omega) (by omega)).mono λr h' hr=>?_;obtain⟨r1,o',m',c2,r2,r3,r4⟩:=hr;refine⟨r1,o',m',c2,r2,r3,?_⟩;rw[r4,stripL,AT h0]
   .have h0:¬x=0:=(by simpa using h0);exact Lp.pure ⟨rfl,o,m+1,c,rfl,h2,by rw[hd,stripL,By h0]⟩
  .have hm:m=0:=by simp only[OF] at hc;omega
   subst hm;exact Lp.pure ⟨rfl,o,0,c,rfl,h2,by simp[stripL]⟩
theorem Zb (z:Z h0 h L)(i:Nat){b:Nat}{xs:ε}(hL:L[i]?=some (.au b (xs.map v8) gU))(hb:b≠k)(hxs:xs.length<=65536)(neg:Bool)(a3:Addr):∀(n o m c:Nat) (e:Int),m<n->o+m<=xs.length ->
  Lp k (jY n neg ⟨some ⟨b,o,none⟩,m,c⟩ e a3) h λr h'=>h'=h/\∃m' c',r.1=⟨some ⟨b,o,none⟩,m',c'⟩/\o+m'<=xs.length/\stripR ((xs.drop o).take m).reverse e=((xs.drop o).take m',r.2):=by
 intro n
 induction n with
 |zero=>intro o m c e h1;omega
 |succ n ih=>
  intro o m c e h1 h2;rw[yC];unfold qu;refine CL (λhc=>?_) λhc=>?_
  .have hm:0<m:=by simp only[OF] at hc;omega
   obtain⟨m,rfl⟩:∃m',m=m'+1:=⟨m-1,by omega⟩;obtain⟨x,hx⟩:∃x,xs[o+m]?=some x:=⟨xs[o+m],abi (by omega)⟩;have hx2:(xs.drop o)[m]?=some x:=by rw[aev];exact hx
   have hd:(xs.drop o).take (m+1)=(xs.drop o).take m++[x]:=by rw[aiu,hx2];rfl
   have ew:IntKind.i64.wrap ((((⟨some ⟨b,o,none⟩,m+1,c⟩:Sl).len:Nat):Int)-1)=(m:Int):=by
    grind [s6]
   rw[ew];refine QC z i hL (x:=x) (by grind [Int.toNat_natCast,List.getElem?_append_right,List.length_take,List.length_drop,min]) (by omega) hb ?_;rw[hd,List.reverse_append,List.reverse_singleton,ait];refine CL (λh0=>?_) λh0=>?_
   .have h0:x=0:=(by simpa using h0);refine QD z i hL (by omega) (by omega) (by omega) hb λc'=>?_;rw[show o+(0:Int).toNat=o from rfl,show ((m:Int).toNat-(0:Int).toNat)=m by simp];refine (ih o m c' _ (by omega) (by omega)).mono λr h' hr=>?_;obtain⟨r1,m',c2,r2,r3,r4⟩:=hr;refine⟨r1,m',c2,r2,r3,?_⟩;rw[stripR,AT h0];exact r4
   .have h0:¬x=0:=(by simpa using h0);refine Lp.pure ⟨rfl,m+1,c,rfl,h2,?_⟩;rw[stripR,By h0,hd];simp
  .have hm:m=0:=by simp only[OF] at hc;omega
   subst hm;exact Lp.pure ⟨rfl,0,c,rfl,h2,by simp[stripR]⟩
theorem Zc (z:Z h0 h L){e:κ}{cs:δ}{f:Nat->M β}(q:∀h',Z h0 h' (.au h.next cs e::L)->h'.next=h.next+1->Lp k (f h.next) h' Q)(hs:cs.all eZ=true:=by rfl):Lp k (sh (aM none e cs) f) h Q:=by
 refine Lp.step ?_ λ_ _ hx=>BP.aM hx;rw[ah,Av];have hf:=Fr.new (e:=e) (cs:=cs) z.wf;exact⟨hs,ag.2 (q _ (z.add hf (o:=.au h.next cs e) LB.new (.inr (aam _))) rfl)⟩
theorem adn (z:Z h0 h L){e:κ}{v:ξ}{m:Nat}{f:Sl->M β}(hm:m<=65536)(q:∀h',Z h0 h' (.au h.next (List.replicate m v) e::L)->h'.next=h.next+1->Lp k (f ⟨some ⟨h.next,0,none⟩,m,m+1⟩) h' Q)(hs:eZ v=true:=by rfl):Lp k (sh (vS none e [v] (m:Int) (m:Int)) f) h Q:=by
 refine Lp.step ?_ λ_ _ hx=>BP.vS hx;rw[ah];refine IH (z:=[v]) (by omega) (agD _) (by unfold cF;omega) (ag.2 ?_) (by simp[hs]);have hf:=Fr.new (e:=e) (cs:=(List.replicate m [v]).flatten) z.wf;have z1:=z.add hf (o:=.au h.next _ e) LB.new (.inr (aam _))
 simp only[IT];refine q _ ?_ rfl
 simp_all
theorem abD (z:Z h0 h L)(i:Nat){b o:Nat}{cs vs cs':δ}{e:κ}{f:Unit->M β}(hb:b≠k)(q:∀h',Z h0 h' (L.set i (.au b cs' e))->h'.next=h.next->Lp k (f ()) h' Q)(hi:L[i]?=some (.au b cs e):=by rfl)(hc:bf cs o vs=cs':=by rfl)
  (ho:o+vs.length<=cs.length:=by first|decide|simp) (hs:vs.all eZ=true:=by rfl):Lp k (sh (bF ⟨b,o,none⟩ vs) f) h Q:=by
 have hg:=Z.gne z i hi hb;refine Lp.step ?_ λ_ _ hx=>BP.bF hb hg hx;have l:LB h b cs e:=z.get i hi;have w:=Z.st z i (f:=AI) (Q:=λ_ h'=>Z h0 h' (L.set i (.au b cs' e))) (λh' z'=>ag.2 z') hi hc ho hs;have hn:Wp (sh (bF ⟨b,o,none⟩ vs) AI) h λ_ h'=>h'.next=h.next:=by
  rw[ah,IF];exact⟨cs,b+1,0,e,l.get,by omega,ho,hs,ag.2 rfl⟩
 obtain⟨x,h1,e1,q1⟩:=w;obtain⟨y,h2,e2,q2⟩:=hn;rw[e1] at e2;cases e2;exact⟨x,h1,e1,q h1 q1 q2⟩
theorem Wg (z:Z h0 h L)(i:Nat){b:Nat}{cs:δ}{e:κ}{ls:List eN}{x:bS ls}{f:bS ls->M β}(hb:b≠k)(q:Lp k (f x) h Q)(hi:L[i]?=some (.au b cs e):=by rfl)(hx:zG ls cs=some x:=by rfl)(hl:ls.length=cs.length:=by rfl) :
  Lp k (sh (aN ls ⟨b,0,none⟩) f) h Q:=
 Lp.step (Z.fC z i (f:=AI) (ag.2 q) hi hx hl) λ_ _ hx=>BP.aN (by exact hb) hx
theorem Zd (z:Z h0 h L)(i j:Nat){b b2 o m c:Nat}{xs:ε}{f:Nat->M β}(hi:L[i]?=some (.au b2 (List.replicate m (v8 0)) gU))(hj:L[j]?=some (.au b (xs.map v8) gU))(hb:b≠k)(hb2:b2≠k)(hm:0<m)(ho:o+m<=xs.length)
  (q:∀h',Z h0 h' (L.set i (.au b2 (((xs.drop o).take m).map v8) gU))->h'.next=h.next->Lp k (f m) h' Q):Lp k (sh (xB ⟨some ⟨b2,0,none⟩,m,m+1⟩ ⟨some ⟨b,o,none⟩,m,c⟩ 1) f) h Q:=by
 have hg:=Z.gne z i hi hb2;refine Lp.step ?_ λ_ _ hx=>BP.xB (λb' hb'=>by cases hb';exact hb) (λb' hb'=>by cases hb';exact⟨hb2,hg⟩) hx;have l:LB h b (xs.map v8) gU:=z.get j hj;have hl:(((xs.drop o).take m).map v8).length=m:=by simp;omega
 have hcell:aU h (some ⟨b,o,none⟩) (Nat.min m m*1)=some (((xs.drop o).take m).map v8):=by
  unfold aU;simp only[l.get]
  simp_all
 have hall:(((xs.drop o).take m).map v8).all eZ=true:=by
  rw[List.all_map,aeI];intro x _;rfl
 have w:=Z.st z i (o:=0) (vs:=((xs.drop o).take m).map v8) (cs':=((xs.drop o).take m).map v8) (f:=AI) (Q:=λ_ h'=>Z h0 h' (L.set i (.au b2 (((xs.drop o).take m).map v8) gU)))
  (λh' z'=>ag.2 z') hi (by unfold bf;rw[adQ,hl];simp) (by rw[hl];simp) hall
 have hn:Wp (sh (bF ⟨b2,0,none⟩ (((xs.drop o).take m).map v8)) AI) h λ_ h'=>h'.next=h.next:=by
  have l2:LB h b2 _ _:=z.get i hi;rw[ah,IF];exact⟨_,b2+1,0,_,l2.get,by omega,by rw[hl];simp,hall,ag.2 rfl⟩
 obtain⟨x,h1,e1,q1⟩:=w;obtain⟨y,h2,e2,q2⟩:=hn;rw[e1] at e2;cases e2;have e3:bF ⟨b2,0,none⟩ (((xs.drop o).take m).map v8) h=some ((),h1):=by
  unfold sh at e1;split at e1
  .rename_i u h5 hu;cases e1;exact hu
  .cases e1
 refine⟨m,h1,?_,q h1 q1 q2⟩;have e4:xB ⟨some ⟨b2,0,none⟩,m,m+1⟩ ⟨some ⟨b,o,none⟩,m,c⟩ 1 h=some (m,h1):=by
  unfold xB
  grind
 simp only[sh,e4,AI]
theorem Ze {b n c:Nat}{xs:ε}(z:Z h0 h (.au b (xs.map v8) gU::L))(hb:b≠k)(hk:k<h.next)(hx:xs.length<=65536)(hn:xs.length<n)(neg:Bool)(e:Int) :
  Lp k (tW n neg ⟨some ⟨b,0,none⟩,xs.length,c⟩ e) h λr h'=>r.1=(y5 neg xs e).1/\r.2.2=(y5 neg xs e).2.2/\Z h0 h' L/\∃g,BL h' r.2.1 (y5 neg xs e).2.1 g/\g≠k+1/\g<=h'.next/\(g=0\/h.next<g):=by
 unfold tW;refine Zc z λh1 z1 n1=>?_;refine Lp.bind ((Za z1 1 rfl hb neg e _ n 0 xs.length c hn (by omega)).mono λr h' hr=>?_);obtain⟨hh,o,m,c',rfl,hom,e1⟩:=hr;have hh:=hh.symm;subst hh;rw[afj,ahu] at e1;have hm:=CM xs;rw[<-e1,aeO,aht] at hm;refine Lp.bind ((Zb z1 1 rfl hb hx neg _ n o m c' e (by omega) hom).mono λr h' hr=>?_);obtain⟨hh,m2,c2,e2,hom2,e3⟩:=hr;have hh:=hh.symm;subst hh;obtain⟨sl,ee⟩:=r;simp only at e2 e3;subst e2;rw[e1] at e3;have e4:(stripR (stripL xs).reverse e).1=(xs.drop o).take m2:=by rw[e3]
 have e5:(stripR (stripL xs).reverse e).2=ee:=by rw[e3]
 have el:((xs.drop o).take m2).length=m2:=by rw[aeO,aht];omega
 have hxk:h.next≠k:=by omega
 refine CL (λhc=>?_) λhc=>?_
 .have hm0:m2=0:=by simp only[OF] at hc;omega
  have en:y5 neg xs e=(false,[],0):=by unfold y5;rw[e4,el,AT hm0]
  refine abD z1 0 (cs':=[.bool false,aT,vi 0]) hxk λh2 z2 n2=>?_;refine Wg z2 0 (x:=((false,nP,0):bS [.bool,.sl,li])) hxk (Lp.pure ?_);rw[en];exact⟨rfl,rfl,z2.drop.drop,0,rk.nil rfl,by omega,agQ _,.inl rfl⟩
 .have hm0:0<m2:=by simp only[OF] at hc;omega
  have en:y5 neg xs e=(neg,(xs.drop o).take m2,ee):=by unfold y5;rw[e4,e5,el,By (by omega)]
  refine adn (m:=m2) z1 (by omega) λh2 z2 n2=>?_;have hbk:h1.next≠k:=by omega
  refine Zd z2 0 2 rfl rfl hb hbk hm0 hom2 λh3 z3 n3=>?_;refine abD z3 1 (cs':=[.bool neg,.slice (some ⟨h1.next,0,none⟩) m2 (m2+1),vi ee]) hxk λh4 z4 n4=>?_
  refine Wg z4 1 (x:=((neg,⟨some ⟨h1.next,0,none⟩,m2,m2+1⟩,ee):bS [.bool,.sl,li])) hxk (Lp.pure ?_)
  rw[en];have l:LB h4 h1.next (((xs.drop o).take m2).map v8) gU:=z4.get 0 rfl
  exact⟨rfl,rfl,z4.drop.drop.drop,h1.next+1,l.B5 (by simp;omega),by omega,by omega,.inr (by omega)⟩
end
section
variable {α β:Type}{h h' h0:af}{L:List bu}{Q:β->af->Prop}
theorem _root_.Go.Ago.Z.Mt (z:Z h0 h L)(i:Nat){b:Nat}{a:Addr}{cs:δ}{e:κ}{m:M α}{f:α->M β}{P:α->Prop}(hm:Wp m h λr h'=>P r/\Fr (λ_=>False) h h')
  (q:∀r h',P r->Fr (λ_=>False) h h'->Z h0 h' L->Wp (f r) h' Q) (hi:L[i]?=some (.au b cs e):=by rfl) (ha:a.block=b:=by rfl):Wp (sh (Ago.mY [some a] m) f) h Q:=by
 rw[ah];have l:LB h b cs e:=z.get i hi;refine yq (hm.mono λr h' hp=>⟨λa' hma=>?_,q r h' hp.1 hp.2 (z.pure hp.2)⟩);simp only[afY,abG] at hma;subst hma;rw[ha,l.get];exact hp.2.cells _ _ _ _ _ l.get λx=>x.elim
theorem BL.fr {s:Sl}{D:ε}{g:Nat}(b:BL h s D g)(f:Fr (λ_=>False) h h'):BL h' s D g:=rk.fr b f λx=>x.elim
theorem BL.len {s:Sl}{D:ε}{g:Nat}(b:BL h s D g):s.len=D.length:=rk.G0 (enc:=v8) b
def O4 (D:ε)(e:Int):Int:=if 400<D.length then 6 else if e < -2000 then 2 else if 2000<e then 2 else 0
def byt (x:Int):UInt8:=UInt8.ofNat x.toNat
def O5 (D:ε):ζ:=ofBytes (D.map λd=>byt (IntKind.u8.wrap (48+d)))
def Mu (neg:Bool)(D:ε):ζ:=if D.length=0 then ofBytes [48] else (if neg then ofBytes [45] else ofBytes [])++O5 D
def Wh (neg:Bool)(D:ε)(e:Int):ζ:=Mu neg D++ofBytes [101]++⟨(Lib.itoa e).toArray⟩
theorem Wi {s:Sl}{D:ε}{g:Nat}{neg:Bool}{e:Int}{n:Nat}(hw:WF h)(bl:BL h s D g):Wp (nR n (neg,s,e)) h λr h'=>r=O4 D e/\Fr (λ_=>False) h h':=by
 unfold nR;refine (Z.start hw).new λx0 h1 z1 f1=>?_;have hl:=bl.len;refine z1.ld (o:=1) 0 ?_;unfold O4;by_cases h1:400<D.length
 .rw[AT (by simp only[OF];omega),AT h1];exact ag.2 ⟨rfl,z1.fr⟩
 rw[By (by simp only[OF];omega),By h1];refine z1.ld (o:=2) 0 ?_;by_cases h2:e < -2000
 .rw[AT (by simpa using h2),AT h2];exact ag.2 ⟨rfl,z1.fr⟩
 rw[By (by simpa using h2),By h2];refine z1.ld (o:=2) 0 ?_;by_cases h3:2000<e
 .rw[AT (by simpa using h3),AT h3];exact ag.2 ⟨rfl,z1.fr⟩
 rw[By (by simpa using h3),By h3];exact ag.2 ⟨rfl,z1.fr⟩
theorem Zf {s:Sl}{neg:Bool}{e:Int}{n:Nat}(hw:WF h):Wp (oF n (neg,s,e)) h λr h'=>r=(if neg then ofBytes [45] else ofBytes [])/\Fr (λ_=>False) h h':=by
 unfold oF;refine (Z.start hw).new λx0 h1 z1 f1=>?_;refine z1.ld (o:=0) 0 ?_;cases neg
 .exact ag.2 ⟨rfl,z1.fr⟩
 .exact ag.2 ⟨rfl,z1.fr⟩
def Mv (d:Int):Int:=IntKind.u8.wrap (48+d)
theorem Mw {s:Sl}{D:ε}{g b m:Nat}(hD:D.length<=65536):∀(n i:Nat) (h:af),D.length-i<n->i<=D.length->BL h s D g->g<=h0.next->Z h0 h (.au b ((((D.map Mv).take i++List.replicate ((D.map Mv).length-i) 0)).map v8) gU::L) ->
  Wp (fL n ⟨some ⟨b,0,none⟩,D.length,m⟩ s (s.len:Int) (i:Int)) h λ_ h'=>Z h0 h' (.au b ((D.map Mv).map v8) gU::L):=by
 intro n
 induction n with
 |zero=>intro i h h1;omega
 |succ n ih=>
  intro i h h1 h2 bl hg z;have hl:=bl.len;rw[uE];unfold lD;by_cases hi:i<D.length
  .rw[AT (by simp only[OF];omega)];obtain⟨d,hd⟩:=fY hi;refine rk.UU (enc:=v8) bl (by omega) (by simpa using hd) λa c=>c.sy (l:=.int .u8) rfl rfl ?_;refine G4 (by omega) (by omega) ?_;simp only[IT,ac0];have hne:b+1≠g:=by
    have:=(z.own _ IS).2;simp only[bu.dY] at this;omega
   have l:LB h b _ _:=z.get 0 rfl;rw[ah];have hdm:(D.map Mv)[i]?=some (Mv d):=by rw[abo,hd];rfl
   have hst:=Z.As z 0 (enc:=v8) (xs:=(D.map Mv).take i++List.replicate ((D.map Mv).length-i) 0) (k:=i) (v:=Mv d) (f:=AI) (Q:=λ_ h'=>Z h0 h' (.au b ((((D.map Mv).take (i+1)++List.replicate ((D.map Mv).length-(i+1)) 0)).map v8) gU::L)) (by simp;omega) (λh' z'=>ag.2 (by rw[Ms hdm] at z';exact z'));have hfr:Wp (bF ⟨b,i,none⟩ [v8 (Mv d)]) h λ_ h'=>Fr (·=b+1) h h':=l.st z.wf (by simp;omega) rfl λh' _ f=>f
   obtain⟨u,h5,e5,q5⟩:=hst;obtain⟨u2,h6,e6,q6⟩:=hfr;have e7:bF ⟨b,i,none⟩ [v8 (Mv d)] h=some ((),h5):=by
    unfold sh at e5;split at e5
    .rename_i hu;cases e5;exact hu
    .cases e5
   rw[e7] at e6;cases e6;refine⟨(),h5,e7,?_⟩;rw[vq (B:=65536) (by omega) (by omega)];exact ih (i+1) h5 (by omega) (by omega) (rk.fr bl q6 λe=>absurd e.symm hne) hg q5
  .have hi:i=D.length:=by omega
   subst hi;rw[By (by simp only[OF];omega),ag];have:(D.map Mv).take D.length++List.replicate ((D.map Mv).length-D.length) 0=D.map Mv:=by
    rw[agR (by simp)];simp
   rw[this] at z;exact z
theorem Gc:∀l:ε,bytesOf (l.map v8)=some (l.map byt)
 |[]=>rfl
 |x::l=>by
  simp only[acw,bytesOf];rw[Gc l];rfl
theorem Wj {b m:Nat}{xs:ε}(l:LB h b (xs.map v8) gU){f:ζ->M β}(q:Wp (f (ofBytes (xs.map byt))) h Q):Wp (sh (strOf ⟨some ⟨b,0,none⟩,xs.length,m⟩) f) h Q:=by
 rw[ah];refine⟨ofBytes (xs.map byt),h,?_,q⟩;unfold strOf;have:aU h (some ⟨b,0,none⟩) xs.length=some (xs.map v8):=by
  unfold aU;simp only[l.get]
  grind
 simp only[this,Gc]
theorem Ti {s:Sl}{D:ε}{g:Nat}{neg:Bool}{e:Int}{n:Nat}(hw:WF h)(bl:BL h s D g)(hg:g<=h.next)(hD:D.length<=65536)(hn:D.length<n) :
  Wp (mu n (neg,s,e)) h λr h'=>r=O5 D/\Fr (λ_=>False) h h':=by
 unfold mu;have hl:=bl.len;refine (Z.start hw).new λx0 h1 z1 f1=>?_;refine z1.ld (o:=1) 0 ?_;change Wp (sh (vS none gU [v8 0] (s.len:Int) (s.len:Int)) _) _ _;refine z1.Mc (by omega) (by unfold cF;omega) λb h2 z2 f2=>?_;refine z2.ld (o:=1) 1 ?_;rw[ah];have e1:(List.replicate ((s.len:Int)).toNat [v8 0]).flatten=((((D.map Mv).take 0++List.replicate ((D.map Mv).length-0) 0)).map v8):=by
  rw[hl];simp[ahN]
 rw[e1] at z2;have e2:((s.len:Int)).toNat=D.length:=by omega
 rw[e2];refine (Mw hD n 0 h2 (by omega) (by omega) ((bl.fr f1).fr f2) hg z2).mono λ_ h3 z3=>?_;have l:=z3.get 0 rfl;have:=Wj (m:=D.length+1) (f:=λx=>AI x) (Q:=λr h'=>r=O5 D/\Fr (λ_=>False) h h') l (ag.2 ⟨by unfold O5;rw[agT];rfl,z3.fr⟩)
 rwa [ac3] at this
theorem Zg {s:Sl}{D:ε}{g:Nat}{neg:Bool}{e:Int}{n:Nat}(hw:WF h)(bl:BL h s D g)(hg:g<=h.next)(hD:D.length<=65536)(hn:D.length<n) :
  Wp (oG n (neg,s,e)) h λr h'=>r=Mu neg D/\Fr (λ_=>False) h h':=by
 unfold oG Mu;have hl:=bl.len;refine (Z.start hw).new λx0 h1 z1 f1=>?_;refine z1.ld (o:=1) 0 ?_;by_cases h0:D.length=0
 .rw[AT (by simp only[OF];omega),AT h0];exact ag.2 ⟨rfl,z1.fr⟩
 rw[By (by simp only[OF];omega),By h0];refine z1.fC 0 (x:=((neg,s,e):bS [.bool,.sl,li])) ?_;refine z1.fC 0 (x:=((neg,s,e):bS [.bool,.sl,li])) ?_;refine z1.Mt 0 (Zf z1.wf) λr h2 hr f2 z2=>?_;subst hr;refine z2.call (P:=λr _=>r=O5 D) (Ti z2.wf ((bl.fr f1).fr f2) (abX hg (abX f1.next f2.next)) hD hn) λr h3 hr f3 z3=>?_
 subst hr;dsimp only;rw[ah,IG];have hs:(O5 D).size=D.length:=by show (D.map _).toArray.size=_;simp
 have hs2:(if neg=true then ofBytes [45] else ofBytes []).size<=1:=by cases neg<;>decide
 exact⟨by unfold cF;omega,ag.2 ⟨rfl,z3.fr⟩⟩
theorem O6 (neg:Bool)(D:ε):(Mu neg D).size<=D.length+1:=by
 unfold Mu;split
 .show [48].toArray.size<=_;simp
 .have hs:(O5 D).size=D.length:=by show (D.map _).toArray.size=_;simp
  have hs2:(if neg=true then ofBytes [45] else ofBytes []).size<=1:=by cases neg<;>decide
  rw[agA];omega
theorem EO:∀(m u:Nat),u<10^m->0<m->Lib.nDigits u<=m:=by
 intro m
 induction m with
 |zero=>intro u _ h;omega
 |succ m ih=>
  intro u hu _;rw[Lib.nDigits]
  grind
theorem Wl {e:Int}(he:-2000<=e/\e<=2000):(Lib.itoa e).length<=5:=by
 unfold Lib.itoa;split
 .rw[aas,Lib.decDigits_length];have:=EO 4 e.natAbs (by omega) (by omega);omega
 .rw[Lib.decDigits_length];have:=EO 4 e.toNat (by omega) (by omega);omega
theorem Zh {s:Sl}{D:ε}{g:Nat}{neg:Bool}{e:Int}{n:Nat}(hw:WF h)(bl:BL h s D g)(hg:g<=h.next)(hD:D.length<=65536)(hn:D.length<n)(he:-2000<=e/\e<=2000) :
  Wp (oH n (neg,s,e)) h λr h'=>r=Wh neg D e/\Fr (λ_=>False) h h':=by
 unfold oH;refine (Z.start hw).new λx0 h1 z1 f1=>?_;refine z1.fC 0 (x:=((neg,s,e):bS [.bool,.sl,li])) ?_;refine z1.ld (o:=2) 0 ?_;refine z1.Mt 0 (Zg z1.wf (bl.fr f1) (abX hg f1.next) hD hn) λr h2 hr f2 z2=>?_
 subst hr;have hc:=O6 neg D;dsimp only;rw[ah,IG];refine⟨by unfold cF;have:(ofBytes [101]).size=1:=rfl;omega,?_⟩;unfold strconv_Itoa;rw[AT (by omega),ah,ag,ah,IG];refine⟨?_,ag.2 ⟨rfl,z2.fr⟩⟩;have h9:(⟨(Lib.itoa e).toArray⟩:ζ).size<=100:=by
  show (Lib.itoa e).toArray.size<=100;have:=Wl he;simp;omega
 rw[agA];have:(ofBytes [101]).size=1:=rfl;unfold cF;omega
end
section
variable {α β:Type}{h h' h0:af}{L:List bu}{Q:β->af->Prop}
theorem ixb (l:List UInt8)(c:UInt8):(Lib.indexByte l c<0)\/∃i:Nat,Lib.indexByte l c=i/\l[i]?=some c:=by
 by_cases hneg:Lib.indexByte l c<0
 .exact .inl hneg
 .obtain⟨i,hi⟩:∃i:Nat,Lib.indexByte l c=i:=⟨(Lib.indexByte l c).toNat,by omega⟩;exact .inr ⟨i,hi,(Lib.indexByte_some hi).1⟩
theorem Tj {s:ζ}(h:oT s=true):0<s.size:=by
 unfold oT at h;simp only[aau,OF] at h;have h1:=h.1.1;by_cases h0:s.size=0
 .simp_all
 .omega
def xH (s:ζ)(i:Nat):ζ:=⟨(Lib.trimPrefix (s.extract 0 i).data.toList [45]).toArray⟩
def numOf (s:ζ)(i:Nat)(e:Int):Bool×ε×Int:=y5 (s.data.toList.head?==some 45) (xG (xH s i)) e
def afD (N:Bool×ε×Int)(s:ζ):Bool:=decide (O4 N.2.1 N.2.2=0)&&mX (Wh N.1 N.2.1 N.2.2) s
def Wm (s:ζ)(i:Nat)(e:Int):Bool:=afD (numOf s i e) s
def Gd (s:ζ):Bool:=
 if Lib.indexByte s.data.toList 101<0 then false
 else if oT (s.extract 0 (Lib.indexByte s.data.toList 101).toNat)=false then false
 else if 6<(s.size:Int)-Lib.indexByte s.data.toList 101 then false
 else match Lib.atoiAll (s.extract ((Lib.indexByte s.data.toList 101).toNat+1) s.size).data.toList with
  |.ok e=>Wm s (Lib.indexByte s.data.toList 101).toNat e
  |_=>false
theorem Wn {s:ζ}(h:Lib.indexByte s.data.toList 101<0):Gd s=false:=by unfold Gd;rw[AT h]
theorem Zi {s:ζ}{i:Nat}(h:Lib.indexByte s.data.toList 101=i):Gd s=if oT (s.extract 0 i)=false then false else if 6<(s.size:Int)-(i:Int) then false else match Lib.atoiAll (s.extract (i+1) s.size).data.toList with
  |.ok e=>Wm s i e
  |_=>false:=by
 unfold Gd;rw[h,IT,By (by omega)]
theorem Kc (l p:List UInt8):(Lib.trimPrefix l p).length<=l.length:=by
 unfold Lib.trimPrefix;split
 .simp
 .exact aao _
theorem Ge (neg:Bool)(D:ε)(e:Int):(y5 neg D e).2.1.length<=D.length:=by
 grind [y5,HW,stripL,CM,List.length_reverse]
theorem aiD {D:ε}{e:Int}(h:O4 D e=0):-2000<=e/\e<=2000:=by
 grind [O4]
theorem QE {s:ζ}{n:Nat}(hs:s.size<=65536)(hw:WF h):Wp (strconv_Atoi n s) h λr h'=>(match Lib.atoiAll s.data.toList with | .ok v=>r=(v,.nilIface)|_=>∃t u,r.2=.iface t u)/\Fr (λ_=>False) h h':=by
 unfold strconv_Atoi;rw[AT (by omega)];cases e:Lib.atoiAll s.data.toList with
 |ok v=>exact ag.2 ⟨rfl,Fr.refl hw⟩
 |range=>
  show Wp (xN _) h _;unfold xN;rw[ah];exact J6 λh' f=>ag.2 ⟨⟨_,_,rfl⟩,f hw⟩
 | _=>
  show Wp (xN 0) h _;unfold xN;rw[ah];exact J6 λh' f=>ag.2 ⟨⟨_,_,rfl⟩,f hw⟩
theorem BI {f:Bool->M β}{v:ξ}(hv:v=.nilIface)(q:Wp (f true) h Q):Wp (sh (kM v) f) h Q:=by
 rw[ah,HN];exact .inl ⟨hv,q⟩
theorem BJ {f:Bool->M β}{v:ξ}(hv:∃t u,v=.iface t u)(q:Wp (f false) h Q):Wp (sh (kM v) f) h Q:=by
 obtain⟨t,u,hv⟩:=hv;rw[ah,HN];exact .inr ⟨t,u,hv,q⟩
theorem _root_.Go.Ago.Z.zu (z:Z h0 h L)(i:Nat){b o:Nat}{cs vs cs':δ}{e:κ}{f:Unit->M β}{Q:β->af->Prop}
  (q:∀h',Z h0 h' (L.set i (.au b cs' e))->Fr (·=b+1) h h'->Wp (f ()) h' Q) (hi:L[i]?=some (.au b cs e):=by rfl) (hc:bf cs o vs=cs':=by rfl) (ho:o+vs.length<=cs.length:=by first|decide|simp) (hs:vs.all eZ=true:=by rfl) :
  Wp (sh (bF ⟨b,o,none⟩ vs) f) h Q:=by
 rw[ah];have l:LB h b cs e:=z.get i hi;refine l.st z.wf ho hs λh' l' fr=>q h' (z.sr (o:=.au b cs e) hi (by simp[bu.dY]) fr ?_ (.inl rfl)) fr;rw[<-hc];exact l'
theorem xr (z:Z h0 h L)(i:Nat){b:Nat}{cs:δ}{e:κ}{neg:Bool}{s:Sl}{v:Int}{r:Bool}(hi:L[i]?=some (.au b cs e))(hc:cs.length=3) :
  Wp (sh (bF ⟨b,0,none⟩ [.bool neg,aH s,vi v]) λ_=>sh (aN [.bool,.sl,li] ⟨b,0,none⟩) λ(y:Bool×Sl×Int)=>AI ((y.1,y.2.1,y.2.2),r)) h λx h'=>x.2=r/\Fr (λ_=>False) h0 h'/\x.1=(neg,s,v)/\Fr (·=b+1) h h':=by
 have hsp:bf cs 0 [.bool neg,aH s,vi v]=[.bool neg,aH s,vi v]:=by
  unfold bf;simp[hc]
 refine z.zu i (cs':=[.bool neg,aH s,vi v]) (λh1 z1 f1=>?_) hi hsp (by simp[hc]);have hi1:(L.set i (.au b [.bool neg,aH s,vi v] e))[i]?=some (.au b [.bool neg,aH s,vi v] e):=by
  have:=(List.getElem?_eq_some_iff.1 hi).1;simp[this]
 refine z1.fC i (x:=((neg,s,v):bS [.bool,.sl,li])) ?_ hi1;exact ag.2 ⟨rfl,z1.fr,rfl,f1⟩
theorem CN (s:ζ)(a b:Nat):(s.extract a b).size<=s.size:=by simp;omega
def D9 (N:Bool×ε×Int)(h':af)(x:Bool×Sl×Int):Prop:=x.1=N.1/\x.2.2=N.2.2/\N.2.1.length<=65536/\∃g,g<=h'.next/\BL h' x.2.1 N.2.1 g
def xt (s:ζ):Bool×ε×Int:=match Lib.atoiAll (s.extract ((Lib.indexByte s.data.toList 101).toNat+1) s.size).data.toList with
 |.ok e=>numOf s (Lib.indexByte s.data.toList 101).toNat e
 |_=>(false,[],0)
theorem Zj {s:ζ}{i n a1:Nat}(hs:s.size<=65536)(hn:s.size+1<n)(hi:i<s.size)(hpos:0<i)(z:Z h0 h [.au a1 [.bool false,aT,vi 0] bZ]) :
  Wp (py n s (an a1) (i:Int)) h λx h'=>(x.2=match Lib.atoiAll (s.extract (i+1) s.size).data.toList with | .ok e=>Wm s i e|_=>false)/\Fr (λ_=>False) h0 h'/\(x.2=true->D9 (match Lib.atoiAll (s.extract (i+1) s.size).data.toList with | .ok e=>numOf s i e|_=>(false,[],0)) h' x.1):=by
 unfold py;rw[s6 (by omega) (by omega),ah,gf];refine⟨by omega,by omega,by omega,?_⟩;rw[show (((i:Int)+1).toNat)=i+1 by omega,IT];have hsz:(s.extract (i+1) s.size).size<=65536:=by simp;omega
 refine z.call (P:=λr _=>match Lib.atoiAll (s.extract (i+1) s.size).data.toList with | .ok v=>r=(v,.nilIface)|_=>∃t u,r.2=.iface t u) (QE hsz z.wf) λr h1 hr f1 z1=>?_;cases e:Lib.atoiAll (s.extract (i+1) s.size).data.toList with
 |range=>
  rw[e] at hr;refine BJ hr ?_;rw[AT (show (!false)=true from rfl)];exact (xr (s:=nP) z1 0 rfl rfl).mono λx h' hx=>⟨hx.1,hx.2.1,λe=>by rw[hx.1] at e;cases e⟩
 |ok v=>
  rw[e] at hr;simp only at hr;subst hr;refine BI rfl ?_;show Wp (sh (je s 0 (i:Int)) _) h1 _;rw[ah,gf];refine⟨by omega,by omega,by omega,?_⟩;rw[IT];unfold strings_TrimPrefix;rw[ah,ag];have ec:(⟨(Lib.trimPrefix (s.extract (0:Int).toNat i).data.toList (ofBytes [45]).data.toList).toArray⟩:ζ)=xH s i:=rfl;rw[ec];have hcs:(xH s i).size<=s.size:=by
   show (Lib.trimPrefix (s.extract 0 i).data.toList [45]).toArray.size<=_;have h1:=Kc (s.extract 0 i).data.toList [45];have h2:(s.extract 0 i).data.toList.length<=s.size:=CN s 0 i;rw[agY];omega
  refine z1.eC (n:=9) [7] (by decide) (by simp) λkb h2 z2=>?_;have hfr:G3 h2 (kb+7):=z2.get 0 rfl;obtain⟨c0,hc0⟩:∃c0,s[0]?=some c0:=⟨s[0]'(by omega),by simp[show 0<s.size by omega]⟩;rw[ah,fE];refine⟨c0,by omega,hc0,?_⟩;refine z2.newAt 0 λh3 z3=>?_;have hk:kb+7<h3.next:=LB.lt (z3.get 0 rfl) z3.wf
  have hdl:(xG (xH s i)).length=(xH s i).size:=by unfold xG;rw[ac3];rfl
  refine Lp.mY ((Wf (k:=kb+7) z3 (by omega) (by omega) hk).mono λx h4 hx=>?_);obtain⟨b2,rfl,hbk,z4⟩:=hx;have hk4:kb+7<h4.next:=LB.lt (z4.get 1 rfl) z4.wf
  rw[<-hdl];refine Lp.mY ((Ze (k:=kb+7) z4 hbk hk4 (by omega) (by omega) _ v).mono λr h5 hr=>?_);obtain⟨r1,r2,z5,g,bl,hg,hg2,hg3⟩:=hr;have ha1:a1<h4.next:=LB.lt (z4.get 2 rfl) z4.wf
  have eneg:decide ((c0.toNat:Int)=45)=(s.data.toList.head?==some 45):=by
   rw[xq] at hc0;rw[ahK,hc0];by_cases hq:c0=45
   .subst hq;rfl
   .have:¬((c0.toNat:Int)=45):=λe=>hq (UInt8.toNat_inj.1 (by have:(45:UInt8).toNat=45:=rfl;omega));rw[ag7 this];symm;simpa using hq
  rw[eneg] at r1 r2 bl;obtain⟨neg,sl,ee⟩:=r;simp only at r1 r2 bl;rw[show y5 (s.data.toList.head?==some 45) (xG (xH s i)) v=numOf s i v from rfl] at r1 r2 bl;subst r1;subst r2;have hDl:(numOf s i v).2.1.length<=65536:=by
   grind [Ge,xG,xH,numOf]
  have hDn:(numOf s i v).2.1.length<n:=by
   grind [Ge,xG,xH,numOf]
  show Wp _ _ λ(x:(Bool×Sl×Int)×Bool) h'=>x.2=afD (numOf s i v) s/\Fr (λ_=>False) h0 h'/\(x.2=true->D9 (numOf s i v) h' x.1);generalize numOf s i v=N at bl hDl hDn⊢;obtain⟨N1,N2,N3⟩:=N;refine z5.zu 0 (cs':=[.bool N1,aH sl,vi N3]) (λh6 z6 f6=>?_);have bl:BL h6 sl N2 g:=rk.fr bl f6 λe=>absurd e hg;have hg6:g<=h6.next:=abX hg2 f6.next
  refine z6.fC 0 (x:=((N1,sl,N3):bS [.bool,.sl,li])) ?_;refine z6.fC 0 (x:=((N1,sl,N3):bS [.bool,.sl,li])) ?_;refine z6.Mt 0 (Wi z6.wf bl) λr h7 hr f7 z7=>?_;subst hr;show Wp _ _ λ(x:(Bool×Sl×Int)×Bool) h'=>x.2=(decide (O4 N2 N3=0)&&mX (Wh N1 N2 N3) s)/\Fr (λ_=>False) h0 h'/\(x.2=true->D9 (N1,N2,N3) h' x.1);by_cases hl:O4 N2 N3=0
  .rw[AT (by simpa using hl)];refine z7.fC 0 (x:=((N1,sl,N3):bS [.bool,.sl,li])) ?_;refine z7.Mt 0 (Zh z7.wf (bl.fr f7) (abX hg6 f7.next) hDl hDn (aiD hl)) λr h8 hr f8 z8=>?_
   subst hr;rw[ahV hl,ahL];exact (xr z8 1 rfl rfl).mono λx h' hx=>⟨hx.1,hx.2.1,λ_=>by
    obtain⟨_,_,e,f9⟩:=hx;rw[e];exact⟨rfl,rfl,hDl,g,abX hg6 (abX f7.next (abX f8.next f9.next)),rk.fr ((bl.fr f7).fr f8) f9 λe=>by omega⟩⟩
  .rw[By (by simpa using hl)];rw[ag7 hl,ais];exact (xr z7 1 rfl rfl).mono λx h' hx=>⟨hx.1,hx.2.1,λe=>by rw[hx.1] at e;cases e⟩
 | _=>
  rw[e] at hr;refine BJ hr ?_;rw[AT (show (!false)=true from rfl)];exact (xr (s:=nP) z1 0 rfl rfl).mono λx h' hx=>⟨hx.1,hx.2.1,λe=>by rw[hx.1] at e;cases e⟩
theorem tJ {s:ζ}{n:Nat}(hs:s.size<=65536)(hn:s.size+1<n)(hw:WF h):Wp (oI n s) h λx h'=>x.2=Gd s/\Fr (λ_=>False) h h'/\(x.2=true->D9 (xt s) h' x.1):=by
  unfold oI;refine (Z.start hw).new λx0 h1 z1 f1=>?_;unfold strings_IndexByte;rw[ah,ag];rw[show (101:Int).toNat.toUInt8=(101:UInt8) from rfl];rcases ixb s.data.toList 101 with hneg|⟨i,hi,hc⟩
  .rw[AT (by simpa using hneg),Wn hneg];exact (xr (s:=nP) z1 0 rfl rfl).mono λx h' hx=>⟨hx.1,hx.2.1,λe=>by rw[hx.1] at e;cases e⟩
  .have hlt:i<s.size:=(List.getElem?_eq_some_iff.1 hc).1;rw[Zi hi,hi,By (by simp),ah,gf];refine⟨by omega,by omega,by omega,?_⟩;rw[IT,show (0:Int).toNat=0 from rfl];have hes:=CN s 0 i;refine z1.call (P:=λr _=>r=oT (s.extract 0 i)) (wz (by omega) (by omega) z1.wf) λr h2 hr f2 z2=>?_;subst hr;cases hok:oT (s.extract 0 i) with
   |false=>
    rw[AT (show (false=false) from rfl),AT (show (!false)=true from rfl)];exact (xr (s:=nP) z2 0 rfl rfl).mono λx h' hx=>⟨hx.1,hx.2.1,λe=>by rw[hx.1] at e;cases e⟩
   |true=>
    have hp:=Tj hok;have hip:0<i:=by
     have:(s.extract 0 i).size=min i s.size:=(by simp);omega
    rw[By (show ¬(true=false) by decide),By (show ¬((!true)=true) by decide),s6 (by omega) (by omega)];by_cases h6:6<(s.size:Int)-(i:Int)
    .rw[AT (by simpa using h6),AT h6];exact (xr (s:=nP) z2 0 rfl rfl).mono λx h' hx=>⟨hx.1,hx.2.1,λe=>by rw[hx.1] at e;cases e⟩
    .rw[By (by simpa using h6),By h6];refine (Zj hs hn hlt hip z2).mono λx h' hx=>?_
     grind [xt,Int.toNat_natCast]
theorem CP {s:ζ}{n:Nat}(hs:s.size<=65536)(hn:s.size+1<n)(hw:WF h):Wp (sC n s) h λx h'=>x=Gd s/\Fr (λ_=>False) h h':=by
 unfold sC;rw[ah];refine (tJ hs hn hw).mono λx h1 hx=>?_;have z1:=(Z.start hw).pure hx.2.1;refine z1.new λb h2 z2 f2=>?_;refine z2.st 0 (cs':=[.bool x.1.1,aH x.1.2.1,vi x.1.2.2]) λh3 z3=>?_;exact ag.2 ⟨hx.1,z3.fr⟩
end
end Go.Sh
