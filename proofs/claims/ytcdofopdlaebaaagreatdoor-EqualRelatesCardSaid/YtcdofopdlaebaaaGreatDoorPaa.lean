
import Derived.Test.YtcdofopdlaebaaaGreatDoorBi
import Derived.Test.YtcdofopdlaebaaaGreatDoorAgoY
import Derived.Test.YtcdofopdlaebaaaGreatDoorGi
set_option linter.all false
namespace Go.Sh
open Go Go.Ago Go.Proofs
section
variable {α β:Type}{h h' h0:af}{L:List bj}{Q:β->af->Prop}{k:Nat}
def stripR:List Int->Int->List Int×Int
 |[],e=>([],e)
 |x::r,e=>if x=0 then stripR r (IntKind.i64.wrap (e+1)) else ((x::r).reverse,e)
def stripL:List Int->List Int
 |[]=>[]
 |x::r=>if x=0 then stripL r else x::r
def yf (neg:Bool)(D:List Int)(e:Int):Bool×List Int×Int:=
 if (stripR (stripL D).reverse e).1.length=0 then (false,[],0) else (neg,(stripR (stripL D).reverse e).1,(stripR (stripL D).reverse e).2)
theorem BX:∀D:List Int,(stripL D).length<=D.length
 |[]=>aaR _
 |x::r=>by
  unfold stripL;split
  .have:=BX r;simp;omega
  .exact aaR _
theorem G4:∀(D:List Int) (e:Int),(stripR D e).1.length<=D.length
 |[],e=>aaR _
 |x::r,e=>by
  unfold stripR;split
  .have:=G4 r (IntKind.i64.wrap (e+1));simp;omega
  .simp
def BL (h:af)(s:Sl)(xs:List Int)(g:Nat):Prop:=qy h s 1 (xs.map v8) g
theorem Lz {γ:Type}{D:List γ}{z d:γ}{i:Nat}(hd:D[i]?=some d):(D.take i++List.replicate (D.length-i) z).set i d=D.take (i+1)++List.replicate (D.length-(i+1)) z:=by
 have hlt:=(List.getElem?_eq_some_iff.1 hd).1;have hl:(D.take i).length=i:=by rw[adw];omega
 obtain⟨m,hm⟩:∃m,D.length-i=m+1:=⟨D.length-i-1,by omega⟩;rw[hm,aeO,aeV _ _ (by omega),hl,aft,aeg,ag8,hd,show D.length-(i+1)=m by omega];simp
theorem Z.gne (z:Z h0 h L)(i:Nat){b k:Nat}{cs:List Value}{e:TypeId}(hi:L[i]?=some (.ar b cs e))(hk:b≠k):∀c g base e',h.get b=some (.cells c g base e')->g≠k+1:=λc g base e' hg=>by
 have l:LB h b cs e:=z.get i hi;rw[l.get] at hg;cases hg;omega
theorem N6 {s:ByteArray}{b:Nat}(hs:s.size<=65536)(hb:b≠k):∀(n i:Nat) (h:af),s.size-i<n->i<=s.size->Z h0 h (.ar b (((wT s).take i++List.replicate ((wT s).length-i) 0).map v8) gC::L) ->
  Lp k (jb n s ⟨some ⟨b,0,none⟩,s.size,s.size+1⟩ (s.size:Int) (i:Int)) h λ_ h'=>Z h0 h' (.ar b ((wT s).map v8) gC::L):=by
 have hl:(wT s).length=s.size:=by unfold wT;rw[adq];exact iU s
 intro n
 induction n with
 |zero=>intro i h h1;omega
 |succ n ih=>
  intro i h h1 h2 z;rw[w5];unfold o6;refine BW (λhc=>?_) λhc=>?_
  .have hi:i<s.size:=by simp only[decide_eq_true_eq] at hc;omega
   obtain⟨c,hc1⟩:∃c,s[i]?=some c:=⟨s[i],by simp[hi]⟩;have hd:(wT s)[i]?=some (Vr c):=by
    unfold wT;rw[aaW];rw[<-wE s i];rw[hc1];rfl
   refine Lp.step ?_ (λ_ _ hx=>BP.pm (Pm.jd _ _) hx);rw[ah,fl];refine⟨c,by omega,by simpa using hc1,ag.2 ?_⟩;refine Lp.step (F8 (by omega) (by omega) (ag.2 ?_)) λ_ _ hx=>BP.pm (Pm.av _ _ _) hx;simp only[IS,acq];have hg:=Z.gne z 0 rfl hb;refine Lp.step (Z.zA z 0 (enc:=v8) (xs:=(wT s).take i++List.replicate ((wT s).length-i) 0) (k:=i) (v:=Vr c) (by simp;omega) λh' z'=>ag.2 ?_) λ_ _ hx=>BP.bG hb hg hx;rw[Lz hd] at z';rw[uv (B:=65536) (by omega) (by omega)];exact ih (i+1) h' (by omega) (by omega) z'
  .have hi:i=s.size:=by simp only[decide_eq_true_eq] at hc;omega
   refine Lp.pure ?_;rw[hi,<-hl] at z;simpa using z
theorem Vu (z:Z h0 h L){s:ByteArray}{n:Nat}(hs:s.size<=65536)(hn:s.size<n)(hk:k<h.next) :
  Lp k (rK n s) h λx h'=>∃b,x=⟨some ⟨b,0,none⟩,s.size,s.size+1⟩/\b≠k/\Z h0 h' (.ar b ((wT s).map v8) gC::L):=by
 unfold rK;have hl:(wT s).length=s.size:=by unfold wT;rw[adq];exact iU s
 refine Lp.step ?_ λ_ _ hx=>BP.vc hx;rw[ah];refine HQ (z:=[v8 0]) (by omega) (agJ _) (by unfold cK;omega) (ag.2 ?_);have hf:=Fr.new (e:=gC) (cs:=(List.replicate s.size [v8 0]).flatten) z.wf;have z1:=z.add hf (o:=.ar h.next _ gC) LB.new (.inr (aar _))
 have e1:(List.replicate s.size [v8 0]).flatten=((wT s).take 0++List.replicate ((wT s).length-0) 0).map v8:=by
  rw[hl];simp[afN]
 simp only[IS];rw[e1] at z1⊢;refine Lp.bind ((N6 hs (by omega) n 0 _ (by omega) (by omega) z1).mono λ_ h' z2=>Lp.pure ⟨h.next,rfl,by omega,z2⟩)
theorem PM (z:Z h0 h L)(i:Nat){b o m c:Nat}{xs:List Int}{j:Int}{x:Int}(hi:L[i]?=some (.ar b (xs.map v8) gC))(hx:((xs.drop o).take m)[j.toNat]?=some x)(h1:0<=j)(hb:b≠k){f:Int->M β}(q:Lp k (f x) h Q) :
  Lp k (sh (av ⟨some ⟨b,o,none⟩,m,c⟩ j 1) λa=>sh (aq (.int .u8) a) f) h Q:=by
 have hlt:=(List.getElem?_eq_some_iff.1 hx).1;rw[adw] at hlt;have l:LB h b (xs.map v8) gC:=z.get i hi;refine Lp.step ?_ λ_ _ hx=>BP.pm (Pm.av _ _ _) hx;rw[ah,yw];refine⟨_,rfl,h1,by simp only;omega,ag.2 ?_⟩;refine Lp.step ?_ λ_ _ hx=>BP.aq (by simpa[Addr.plus] using hb) hx;rw[ah,uT];refine⟨x,?_,ag.2 q⟩;refine l.ld (v:=v8 x) ?_ rfl;rw[aeA,ady] at hx;split at hx
 .simp only[Addr.plus,acq];rw[aaW,hx];rfl
 .cases hx
theorem PN (z:Z h0 h L)(i:Nat){b o m c:Nat}{xs:List Int}{lo hi:Int}(hL:L[i]?=some (.ar b (xs.map v8) gC))(h1:0<=lo)(h2:lo<=hi)(h3:hi<=m)(hb:b≠k){f:Sl->M β}
  (q:∀c',Lp k (f ⟨some ⟨b,o+lo.toNat,none⟩,hi.toNat-lo.toNat,c'⟩) h Q):Lp k (sh (kJ ⟨some ⟨b,o,none⟩,m,c⟩ lo hi gC 1) f) h Q:=by
 have l:LB h b (xs.map v8) gC:=z.get i hL;refine Lp.step ?_ λ_ _ hx=>BP.rm (Rm.kJ _ _ _ _ _) (λb' hb'=>by cases hb';exact hb) hx;rw[ah];refine Bx h1 h2 (by simpa using h3) (by simp[np,l.get]) ?_;simp only[adO,Addr.plus,acq];exact ag.2 (q _)
theorem Yl (z:Z h0 h L)(i:Nat){b:Nat}{xs:List Int}(hL:L[i]?=some (.ar b (xs.map v8) gC))(hb:b≠k)(neg:Bool)(e:Int)(a3:Addr):∀(n o m c:Nat),m<n->o+m<=xs.length ->
  Lp k (jL n neg ⟨some ⟨b,o,none⟩,m,c⟩ e a3) h λr h'=>h'=h/\∃o' m' c',r=⟨some ⟨b,o',none⟩,m',c'⟩/\o'+m'<=xs.length/\(xs.drop o').take m'=stripL ((xs.drop o).take m):=by
 intro n
 induction n with
 |zero=>intro o m c h1;omega
 |succ n ih=>
  intro o m c h1 h2;rw[xH];unfold pT;refine BW (λhc=>?_) λhc=>?_
  .have hm:0<m:=by simp only[decide_eq_true_eq] at hc;omega
   obtain⟨m,rfl⟩:∃m',m=m'+1:=⟨m-1,by omega⟩;obtain⟨x,hx⟩:∃x,xs[o]?=some x:=⟨xs[o],aaJ (by omega)⟩;have hd:(xs.drop o).take (m+1)=x::(xs.drop (o+1)).take m:=by
    rw[drop_cons hx,List.take_succ_cons]
   refine PM z i hL (x:=x) (by rw[hd];rfl) (by omega) hb ?_;rw[hd];refine BW (λh0=>?_) λh0=>?_
   .have h0:x=0:=(by simpa using h0);refine PN z i hL (by omega) (by simp only;omega) (by simp only;omega) hb λc'=>?_;rw[show o+(1:Int).toNat=o+1 from rfl,show ((((⟨some ⟨b,o,none⟩,m+1,c⟩:Sl).len:Nat):Int).toNat-(1:Int).toNat)=m by simp];refine (ih (o+1) m c' (by omega) (by omega)).mono λr h' hr=>?_;obtain⟨r1,o',m',c2,r2,r3,r4⟩:=hr;refine⟨r1,o',m',c2,r2,r3,?_⟩;rw[r4,stripL,if_pos h0]
   .have h0:¬x=0:=(by simpa using h0);exact Lp.pure ⟨rfl,o,m+1,c,rfl,h2,by rw[hd,stripL,if_neg h0]⟩
  .have hm:m=0:=by simp only[decide_eq_true_eq] at hc;omega
   subst hm;exact Lp.pure ⟨rfl,o,0,c,rfl,h2,by simp[stripL]⟩
theorem Ym (z:Z h0 h L)(i:Nat){b:Nat}{xs:List Int}(hL:L[i]?=some (.ar b (xs.map v8) gC))(hb:b≠k)(hxs:xs.length<=65536)(neg:Bool)(a3:Addr):∀(n o m c:Nat) (e:Int),m<n->o+m<=xs.length ->
  Lp k (jK n neg ⟨some ⟨b,o,none⟩,m,c⟩ e a3) h λr h'=>h'=h/\∃m' c',r.1=⟨some ⟨b,o,none⟩,m',c'⟩/\o+m'<=xs.length/\stripR ((xs.drop o).take m).reverse e=((xs.drop o).take m',r.2):=by
 intro n
 induction n with
 |zero=>intro o m c e h1;omega
 |succ n ih=>
  intro o m c e h1 h2;rw[xG];unfold pS;refine BW (λhc=>?_) λhc=>?_
  .have hm:0<m:=by simp only[decide_eq_true_eq] at hc;omega
   obtain⟨m,rfl⟩:∃m',m=m'+1:=⟨m-1,by omega⟩;obtain⟨x,hx⟩:∃x,xs[o+m]?=some x:=⟨xs[o+m],aaJ (by omega)⟩;have hx2:(xs.drop o)[m]?=some x:=by rw[ady];exact hx
   have hd:(xs.drop o).take (m+1)=(xs.drop o).take m++[x]:=by rw[ag8,hx2];rfl
   have ew:IntKind.i64.wrap ((((⟨some ⟨b,o,none⟩,m+1,c⟩:Sl).len:Nat):Int)-1)=(m:Int):=by
    rw[sq (by simp only;omega) (by simp only;omega)];simp only;omega
   rw[ew];refine PM z i hL (x:=x) (by rw[hd,IS,agj (by rw[adw];omega),adw,af5,show m-min m (xs.length-o)=0 by omega];rfl) (by omega) hb ?_;rw[hd,List.reverse_append,List.reverse_singleton,ag7];refine BW (λh0=>?_) λh0=>?_
   .have h0:x=0:=(by simpa using h0);refine PN z i hL (by omega) (by omega) (by omega) hb λc'=>?_;rw[show o+(0:Int).toNat=o from rfl,show ((m:Int).toNat-(0:Int).toNat)=m by simp];refine (ih o m c' _ (by omega) (by omega)).mono λr h' hr=>?_;obtain⟨r1,m',c2,r2,r3,r4⟩:=hr;refine⟨r1,m',c2,r2,r3,?_⟩;rw[stripR,if_pos h0];exact r4
   .have h0:¬x=0:=(by simpa using h0);refine Lp.pure ⟨rfl,m+1,c,rfl,h2,?_⟩;rw[stripR,if_neg h0,hd];simp
  .have hm:m=0:=by simp only[decide_eq_true_eq] at hc;omega
   subst hm;exact Lp.pure ⟨rfl,0,c,rfl,h2,by simp[stripR]⟩
theorem Yn (z:Z h0 h L){e:TypeId}{cs:List Value}{f:Nat->M β}(q:∀h',Z h0 h' (.ar h.next cs e::L)->h'.next=h.next+1->Lp k (f h.next) h' Q)(hs:cs.all eQ=true:=by rfl):Lp k (sh (aO none e cs) f) h Q:=by
 refine Lp.step ?_ λ_ _ hx=>BP.aO hx;rw[ah,zF];have hf:=Fr.new (e:=e) (cs:=cs) z.wf;exact⟨hs,ag.2 (q _ (z.add hf (o:=.ar h.next cs e) LB.new (.inr (aar _))) rfl)⟩
theorem ach (z:Z h0 h L){e:TypeId}{v:Value}{m:Nat}{f:Sl->M β}(hm:m<=65536)(q:∀h',Z h0 h' (.ar h.next (List.replicate m v) e::L)->h'.next=h.next+1->Lp k (f ⟨some ⟨h.next,0,none⟩,m,m+1⟩) h' Q)(hs:eQ v=true:=by rfl):Lp k (sh (vc none e [v] (m:Int) (m:Int)) f) h Q:=by
 refine Lp.step ?_ λ_ _ hx=>BP.vc hx;rw[ah];refine HQ (z:=[v]) (by omega) (agJ _) (by unfold cK;omega) (ag.2 ?_) (by simp[hs]);have hf:=Fr.new (e:=e) (cs:=(List.replicate m [v]).flatten) z.wf;have z1:=z.add hf (o:=.ar h.next _ e) LB.new (.inr (aar _))
 simp only[IS];refine q _ ?_ rfl
 rwa [show List.replicate m v=(List.replicate m [v]).flatten by simp[afN]]
theorem aaG (z:Z h0 h L)(i:Nat){b o:Nat}{cs vs cs':List Value}{e:TypeId}{f:Unit->M β}(hb:b≠k)(q:∀h',Z h0 h' (L.set i (.ar b cs' e))->h'.next=h.next->Lp k (f ()) h' Q)(hi:L[i]?=some (.ar b cs e):=by rfl)(hc:aY cs o vs=cs':=by rfl)
  (ho:o+vs.length<=cs.length:=by first|decide|simp) (hs:vs.all eQ=true:=by rfl):Lp k (sh (bG ⟨b,o,none⟩ vs) f) h Q:=by
 have hg:=Z.gne z i hi hb;refine Lp.step ?_ λ_ _ hx=>BP.bG hb hg hx;have l:LB h b cs e:=z.get i hi;have w:=Z.st z i (f:=AI) (Q:=λ_ h'=>Z h0 h' (L.set i (.ar b cs' e))) (λh' z'=>ag.2 z') hi hc ho hs;have hn:Wp (sh (bG ⟨b,o,none⟩ vs) AI) h λ_ h'=>h'.next=h.next:=by
  rw[ah,HO];exact⟨cs,b+1,0,e,l.get,by omega,ho,hs,ag.2 rfl⟩
 obtain⟨x,h1,e1,q1⟩:=w;obtain⟨y,h2,e2,q2⟩:=hn;rw[e1] at e2;cases e2;exact⟨x,h1,e1,q h1 q1 q2⟩
theorem Vv (z:Z h0 h L)(i:Nat){b:Nat}{cs:List Value}{e:TypeId}{ls:List eF}{x:bN ls}{f:bN ls->M β}(hb:b≠k)(q:Lp k (f x) h Q)(hi:L[i]?=some (.ar b cs e):=by rfl)(hx:vF ls cs=some x:=by rfl)(hl:ls.length=cs.length:=by rfl) :
  Lp k (sh (aI ls ⟨b,0,none⟩) f) h Q:=
 Lp.step (Z.fI z i (f:=AI) (ag.2 q) hi hx hl) λ_ _ hx=>BP.aI (by exact hb) hx
theorem Yo (z:Z h0 h L)(i j:Nat){b b2 o m c:Nat}{xs:List Int}{f:Nat->M β}(hi:L[i]?=some (.ar b2 (List.replicate m (v8 0)) gC))(hj:L[j]?=some (.ar b (xs.map v8) gC))(hb:b≠k)(hb2:b2≠k)(hm:0<m)(ho:o+m<=xs.length)
  (q:∀h',Z h0 h' (L.set i (.ar b2 (((xs.drop o).take m).map v8) gC))->h'.next=h.next->Lp k (f m) h' Q):Lp k (sh (wO ⟨some ⟨b2,0,none⟩,m,m+1⟩ ⟨some ⟨b,o,none⟩,m,c⟩ 1) f) h Q:=by
 have hg:=Z.gne z i hi hb2;refine Lp.step ?_ λ_ _ hx=>BP.wO (λb' hb'=>by cases hb';exact hb) (λb' hb'=>by cases hb';exact⟨hb2,hg⟩) hx;have l:LB h b (xs.map v8) gC:=z.get j hj;have hl:(((xs.drop o).take m).map v8).length=m:=by simp;omega
 have hcell:aX h (some ⟨b,o,none⟩) (Nat.min m m*1)=some (((xs.drop o).take m).map v8):=by
  unfold aX;simp only[l.get];rw[if_pos (by simp;omega)];simp[List.map_take,List.map_drop]
 have hall:(((xs.drop o).take m).map v8).all eQ=true:=by
  rw[List.all_map,adx];intro x _;rfl
 have w:=Z.st z i (o:=0) (vs:=((xs.drop o).take m).map v8) (cs':=((xs.drop o).take m).map v8) (f:=AI) (Q:=λ_ h'=>Z h0 h' (L.set i (.ar b2 (((xs.drop o).take m).map v8) gC)))
  (λh' z'=>ag.2 z') hi (by unfold aY;rw[adr,hl];simp) (by rw[hl];simp) hall
 have hn:Wp (sh (bG ⟨b2,0,none⟩ (((xs.drop o).take m).map v8)) AI) h λ_ h'=>h'.next=h.next:=by
  have l2:LB h b2 _ _:=z.get i hi;rw[ah,HO];exact⟨_,b2+1,0,_,l2.get,by omega,by rw[hl];simp,hall,ag.2 rfl⟩
 obtain⟨x,h1,e1,q1⟩:=w;obtain⟨y,h2,e2,q2⟩:=hn;rw[e1] at e2;cases e2;have e3:bG ⟨b2,0,none⟩ (((xs.drop o).take m).map v8) h=some ((),h1):=by
  unfold sh at e1;split at e1
  .rename_i u h5 hu;cases e1;exact hu
  .cases e1
 refine⟨m,h1,?_,q h1 q1 q2⟩;have e4:wO ⟨some ⟨b2,0,none⟩,m,m+1⟩ ⟨some ⟨b,o,none⟩,m,c⟩ 1 h=some (m,h1):=by
  unfold wO;simp only[hcell];cases hv:((xs.drop o).take m).map v8 with
  |nil=>rw[hv] at hl;simp at hl;omega
  |cons v r=>
   rw[hv] at e3;simp only[e3,Nat.min_self]
 simp only[sh,e4,AI]
theorem Yp {b n c:Nat}{xs:List Int}(z:Z h0 h (.ar b (xs.map v8) gC::L))(hb:b≠k)(hk:k<h.next)(hx:xs.length<=65536)(hn:xs.length<n)(neg:Bool)(e:Int) :
  Lp k (s4 n neg ⟨some ⟨b,0,none⟩,xs.length,c⟩ e) h λr h'=>r.1=(yf neg xs e).1/\r.2.2=(yf neg xs e).2.2/\Z h0 h' L/\∃g,BL h' r.2.1 (yf neg xs e).2.1 g/\g≠k+1/\g<=h'.next/\(g=0\/h.next<g):=by
 unfold s4;refine Yn z λh1 z1 n1=>?_;refine Lp.bind ((Yl z1 1 rfl hb neg e _ n 0 xs.length c hn (by omega)).mono λr h' hr=>?_);obtain⟨hh,o,m,c',rfl,hom,e1⟩:=hr;have hh:=hh.symm;subst hh;rw[aeh,af8] at e1;have hm:=BX xs;rw[<-e1,adw,af5] at hm;refine Lp.bind ((Ym z1 1 rfl hb hx neg _ n o m c' e (by omega) hom).mono λr h' hr=>?_);obtain⟨hh,m2,c2,e2,hom2,e3⟩:=hr;have hh:=hh.symm;subst hh;obtain⟨sl,ee⟩:=r;simp only at e2 e3;subst e2;rw[e1] at e3;have e4:(stripR (stripL xs).reverse e).1=(xs.drop o).take m2:=by rw[e3]
 have e5:(stripR (stripL xs).reverse e).2=ee:=by rw[e3]
 have el:((xs.drop o).take m2).length=m2:=by rw[adw,af5];omega
 have hxk:h.next≠k:=by omega
 refine BW (λhc=>?_) λhc=>?_
 .have hm0:m2=0:=by simp only[decide_eq_true_eq] at hc;omega
  have en:yf neg xs e=(false,[],0):=by unfold yf;rw[e4,el,if_pos hm0]
  refine aaG z1 0 (cs':=[.bool false,aU,vi 0]) hxk λh2 z2 n2=>?_;refine Vv z2 0 (x:=((false,mX,0):bN [.bool,.sl,li])) hxk (Lp.pure ?_);rw[en];exact⟨rfl,rfl,z2.drop.drop,0,qy.nil rfl,by omega,agx _,.inl rfl⟩
 .have hm0:0<m2:=by simp only[decide_eq_true_eq] at hc;omega
  have en:yf neg xs e=(neg,(xs.drop o).take m2,ee):=by unfold yf;rw[e4,e5,el,if_neg (by omega)]
  refine ach (m:=m2) z1 (by omega) λh2 z2 n2=>?_;have hbk:h1.next≠k:=by omega
  refine Yo z2 0 2 rfl rfl hb hbk hm0 hom2 λh3 z3 n3=>?_;refine aaG z3 1 (cs':=[.bool neg,.slice (some ⟨h1.next,0,none⟩) m2 (m2+1),vi ee]) hxk λh4 z4 n4=>?_
  refine Vv z4 1 (x:=((neg,⟨some ⟨h1.next,0,none⟩,m2,m2+1⟩,ee):bN [.bool,.sl,li])) hxk (Lp.pure ?_)
  rw[en];have l:LB h4 h1.next (((xs.drop o).take m2).map v8) gC:=z4.get 0 rfl
  exact⟨rfl,rfl,z4.drop.drop.drop,h1.next+1,l.BB (by simp;omega),by omega,by omega,.inr (by omega)⟩
end
section
variable {α β:Type}{h h' h0:af}{L:List bj}{Q:β->af->Prop}
theorem _root_.Go.Ago.Z.LA (z:Z h0 h L)(i:Nat){b:Nat}{a:Addr}{cs:List Value}{e:TypeId}{m:M α}{f:α->M β}{P:α->Prop}(hm:Wp m h λr h'=>P r/\Fr (λ_=>False) h h')
  (q:∀r h',P r->Fr (λ_=>False) h h'->Z h0 h' L->Wp (f r) h' Q) (hi:L[i]?=some (.ar b cs e):=by rfl) (ha:a.block=b:=by rfl):Wp (sh (Ago.kG [some a] m) f) h Q:=by
 rw[ah];have l:LB h b cs e:=z.get i hi;refine xy (hm.mono λr h' hp=>⟨λa' hma=>?_,q r h' hp.1 hp.2 (z.pure hp.2)⟩);simp only[afC,aaM] at hma;subst hma;rw[ha,l.get];exact hp.2.cells _ _ _ _ _ l.get λx=>x.elim
theorem BL.fr {s:Sl}{D:List Int}{g:Nat}(b:BL h s D g)(f:Fr (λ_=>False) h h'):BL h' s D g:=qy.fr b f λx=>x.elim
theorem BL.len {s:Sl}{D:List Int}{g:Nat}(b:BL h s D g):s.len=D.length:=qy.F6 (enc:=v8) b
def N7 (D:List Int)(e:Int):Int:=if 400<D.length then 6 else if e < -2000 then 2 else if 2000<e then 2 else 0
def byt (x:Int):UInt8:=UInt8.ofNat x.toNat
def N8 (D:List Int):ByteArray:=ofBytes (D.map λd=>byt (IntKind.u8.wrap (48+d)))
def LC (neg:Bool)(D:List Int):ByteArray:=if D.length=0 then ofBytes [48] else (if neg then ofBytes [45] else ofBytes [])++N8 D
def Vw (neg:Bool)(D:List Int)(e:Int):ByteArray:=LC neg D++ofBytes [101]++⟨(Lib.itoa e).toArray⟩
theorem Vx {s:Sl}{D:List Int}{g:Nat}{neg:Bool}{e:Int}{n:Nat}(hw:WF h)(bl:BL h s D g):Wp (mZ n (neg,s,e)) h λr h'=>r=N7 D e/\Fr (λ_=>False) h h':=by
 unfold mZ;refine (Z.start hw).new λx0 h1 z1 f1=>?_;have hl:=bl.len;refine z1.ld (o:=1) 0 ?_;unfold N7;by_cases h1:400<D.length
 .rw[if_pos (by simp only[decide_eq_true_eq];omega),if_pos h1];exact ag.2 ⟨rfl,z1.fr⟩
 rw[if_neg (by simp only[decide_eq_true_eq];omega),if_neg h1];refine z1.ld (o:=2) 0 ?_;by_cases h2:e < -2000
 .rw[if_pos (by simpa using h2),if_pos h2];exact ag.2 ⟨rfl,z1.fr⟩
 rw[if_neg (by simpa using h2),if_neg h2];refine z1.ld (o:=2) 0 ?_;by_cases h3:2000<e
 .rw[if_pos (by simpa using h3),if_pos h3];exact ag.2 ⟨rfl,z1.fr⟩
 rw[if_neg (by simpa using h3),if_neg h3];exact ag.2 ⟨rfl,z1.fr⟩
theorem Yq {s:Sl}{neg:Bool}{e:Int}{n:Nat}(hw:WF h):Wp (nT n (neg,s,e)) h λr h'=>r=(if neg then ofBytes [45] else ofBytes [])/\Fr (λ_=>False) h h':=by
 unfold nT;refine (Z.start hw).new λx0 h1 z1 f1=>?_;refine z1.ld (o:=0) 0 ?_;cases neg
 .exact ag.2 ⟨rfl,z1.fr⟩
 .exact ag.2 ⟨rfl,z1.fr⟩
def LD (d:Int):Int:=IntKind.u8.wrap (48+d)
theorem LF {s:Sl}{D:List Int}{g b m:Nat}(hD:D.length<=65536):∀(n i:Nat) (h:af),D.length-i<n->i<=D.length->BL h s D g->g<=h0.next->Z h0 h (.ar b ((((D.map LD).take i++List.replicate ((D.map LD).length-i) 0)).map v8) gC::L) ->
  Wp (fE n ⟨some ⟨b,0,none⟩,D.length,m⟩ s (s.len:Int) (i:Int)) h λ_ h'=>Z h0 h' (.ar b ((D.map LD).map v8) gC::L):=by
 intro n
 induction n with
 |zero=>intro i h h1;omega
 |succ n ih=>
  intro i h h1 h2 bl hg z;have hl:=bl.len;rw[tP];unfold kM;by_cases hi:i<D.length
  .rw[if_pos (by simp only[decide_eq_true_eq];omega)];obtain⟨d,hd⟩:=jy hi;refine qy.Ua (enc:=v8) bl (by omega) (by simpa using hd) λa c=>c.pL (l:=.int .u8) rfl rfl ?_;refine F8 (by omega) (by omega) ?_;simp only[IS,acq];have hne:b+1≠g:=by
    have:=(z.own _ By).2;simp only[bj.dW] at this;omega
   have l:LB h b _ _:=z.get 0 rfl;rw[ah];have hdm:(D.map LD)[i]?=some (LD d):=by rw[aaW,hd];rfl
   have hst:=Z.zA z 0 (enc:=v8) (xs:=(D.map LD).take i++List.replicate ((D.map LD).length-i) 0) (k:=i) (v:=LD d) (f:=AI) (Q:=λ_ h'=>Z h0 h' (.ar b ((((D.map LD).take (i+1)++List.replicate ((D.map LD).length-(i+1)) 0)).map v8) gC::L)) (by simp;omega) (λh' z'=>ag.2 (by rw[Lz hdm] at z';exact z'));have hfr:Wp (bG ⟨b,i,none⟩ [v8 (LD d)]) h λ_ h'=>Fr (·=b+1) h h':=l.st z.wf (by simp;omega) rfl λh' _ f=>f
   obtain⟨u,h5,e5,q5⟩:=hst;obtain⟨u2,h6,e6,q6⟩:=hfr;have e7:bG ⟨b,i,none⟩ [v8 (LD d)] h=some ((),h5):=by
    unfold sh at e5;split at e5
    .rename_i hu;cases e5;exact hu
    .cases e5
   rw[e7] at e6;cases e6;refine⟨(),h5,e7,?_⟩;rw[uv (B:=65536) (by omega) (by omega)];exact ih (i+1) h5 (by omega) (by omega) (qy.fr bl q6 λe=>absurd e.symm hne) hg q5
  .have hi:i=D.length:=by omega
   subst hi;rw[if_neg (by simp only[decide_eq_true_eq];omega),ag];have:(D.map LD).take D.length++List.replicate ((D.map LD).length-D.length) 0=D.map LD:=by
    rw[aeI (by simp)];simp
   rw[this] at z;exact z
theorem Fj:∀l:List Int,bytesOf (l.map v8)=some (l.map byt)
 |[]=>rfl
 |x::l=>by
  simp only[adE,bytesOf];rw[Fj l];rfl
theorem Vy {b m:Nat}{xs:List Int}(l:LB h b (xs.map v8) gC){f:ByteArray->M β}(q:Wp (f (ofBytes (xs.map byt))) h Q):Wp (sh (strOf ⟨some ⟨b,0,none⟩,xs.length,m⟩) f) h Q:=by
 rw[ah];refine⟨ofBytes (xs.map byt),h,?_,q⟩;unfold strOf;have:aX h (some ⟨b,0,none⟩) xs.length=some (xs.map v8):=by
  unfold aX;simp only[l.get];rw[if_pos (by simp)];simp only[aeh];rw[aeI (by simp)]
 simp only[this,Fj]
theorem Sm {s:Sl}{D:List Int}{g:Nat}{neg:Bool}{e:Int}{n:Nat}(hw:WF h)(bl:BL h s D g)(hg:g<=h.next)(hD:D.length<=65536)(hn:D.length<n) :
  Wp (lQ n (neg,s,e)) h λr h'=>r=N8 D/\Fr (λ_=>False) h h':=by
 unfold lQ;have hl:=bl.len;refine (Z.start hw).new λx0 h1 z1 f1=>?_;refine z1.ld (o:=1) 0 ?_;change Wp (sh (vc none gC [v8 0] (s.len:Int) (s.len:Int)) _) _ _;refine z1.Lh (by omega) (by unfold cK;omega) λb h2 z2 f2=>?_;refine z2.ld (o:=1) 1 ?_;rw[ah];have e1:(List.replicate ((s.len:Int)).toNat [v8 0]).flatten=((((D.map LD).take 0++List.replicate ((D.map LD).length-0) 0)).map v8):=by
  rw[hl];simp[afN]
 rw[e1] at z2;have e2:((s.len:Int)).toNat=D.length:=by omega
 rw[e2];refine (LF hD n 0 h2 (by omega) (by omega) ((bl.fr f1).fr f2) hg z2).mono λ_ h3 z3=>?_;have l:=z3.get 0 rfl;have:=Vy (m:=D.length+1) (f:=λx=>AI x) (Q:=λr h'=>r=N8 D/\Fr (λ_=>False) h h') l (ag.2 ⟨by unfold N8;rw[agr];rfl,z3.fr⟩)
 rwa [adq] at this
theorem Yr {s:Sl}{D:List Int}{g:Nat}{neg:Bool}{e:Int}{n:Nat}(hw:WF h)(bl:BL h s D g)(hg:g<=h.next)(hD:D.length<=65536)(hn:D.length<n) :
  Wp (nU n (neg,s,e)) h λr h'=>r=LC neg D/\Fr (λ_=>False) h h':=by
 unfold nU LC;have hl:=bl.len;refine (Z.start hw).new λx0 h1 z1 f1=>?_;refine z1.ld (o:=1) 0 ?_;by_cases h0:D.length=0
 .rw[if_pos (by simp only[decide_eq_true_eq];omega),if_pos h0];exact ag.2 ⟨rfl,z1.fr⟩
 rw[if_neg (by simp only[decide_eq_true_eq];omega),if_neg h0];refine z1.fI 0 (x:=((neg,s,e):bN [.bool,.sl,li])) ?_;refine z1.fI 0 (x:=((neg,s,e):bN [.bool,.sl,li])) ?_;refine z1.LA 0 (Yq z1.wf) λr h2 hr f2 z2=>?_;subst hr;refine z2.call (P:=λr _=>r=N8 D) (Sm z2.wf ((bl.fr f1).fr f2) (abU hg (abU f1.next f2.next)) hD hn) λr h3 hr f3 z3=>?_
 subst hr;dsimp only;rw[ah,HP];have hs:(N8 D).size=D.length:=by show (D.map _).toArray.size=_;simp
 have hs2:(if neg=true then ofBytes [45] else ofBytes []).size<=1:=by cases neg<;>decide
 exact⟨by unfold cK;omega,ag.2 ⟨rfl,z3.fr⟩⟩
theorem N9 (neg:Bool)(D:List Int):(LC neg D).size<=D.length+1:=by
 unfold LC;split
 .show [48].toArray.size<=_;simp
 .have hs:(N8 D).size=D.length:=by show (D.map _).toArray.size=_;simp
  have hs2:(if neg=true then ofBytes [45] else ofBytes []).size<=1:=by cases neg<;>decide
  rw[afo];omega
theorem DZ:∀(m u:Nat),u<10^m->0<m->Lib.nDigits u<=m:=by
 intro m
 induction m with
 |zero=>intro u _ h;omega
 |succ m ih=>
  intro u hu _;rw[Lib.nDigits];split
  .omega
  .rename_i h;by_cases hm:m=0
   .subst hm;omega
   .have:=ih (u/10) (by rw[Nat.pow_succ] at hu;omega) (by omega);omega
theorem Vz {e:Int}(he:-2000<=e/\e<=2000):(Lib.itoa e).length<=5:=by
 unfold Lib.itoa;split
 .rw[OF,Lib.decDigits_length];have:=DZ 4 e.natAbs (by omega) (by omega);omega
 .rw[Lib.decDigits_length];have:=DZ 4 e.toNat (by omega) (by omega);omega
theorem Ys {s:Sl}{D:List Int}{g:Nat}{neg:Bool}{e:Int}{n:Nat}(hw:WF h)(bl:BL h s D g)(hg:g<=h.next)(hD:D.length<=65536)(hn:D.length<n)(he:-2000<=e/\e<=2000) :
  Wp (nV n (neg,s,e)) h λr h'=>r=Vw neg D e/\Fr (λ_=>False) h h':=by
 unfold nV;refine (Z.start hw).new λx0 h1 z1 f1=>?_;refine z1.fI 0 (x:=((neg,s,e):bN [.bool,.sl,li])) ?_;refine z1.ld (o:=2) 0 ?_;refine z1.LA 0 (Yr z1.wf (bl.fr f1) (abU hg f1.next) hD hn) λr h2 hr f2 z2=>?_
 subst hr;have hc:=N9 neg D;dsimp only;rw[ah,HP];refine⟨by unfold cK;have:(ofBytes [101]).size=1:=rfl;omega,?_⟩;unfold strconv_Itoa;rw[if_pos (by omega),ah,ag,ah,HP];refine⟨?_,ag.2 ⟨rfl,z2.fr⟩⟩;have h9:(⟨(Lib.itoa e).toArray⟩:ByteArray).size<=100:=by
  show (Lib.itoa e).toArray.size<=100;have:=Vz he;simp;omega
 rw[afo];have:(ofBytes [101]).size=1:=rfl;unfold cK;omega
end
section
variable {α β:Type}{h h' h0:af}{L:List bj}{Q:β->af->Prop}
theorem ixb (l:List UInt8)(c:UInt8):(Lib.indexByte l c<0)\/∃i:Nat,Lib.indexByte l c=i/\l[i]?=some c:=by
 by_cases hneg:Lib.indexByte l c<0
 .exact .inl hneg
 .obtain⟨i,hi⟩:∃i:Nat,Lib.indexByte l c=i:=⟨(Lib.indexByte l c).toNat,by omega⟩;exact .inr ⟨i,hi,(Lib.indexByte_some hi).1⟩
theorem Sn {s:ByteArray}(h:oh s=true):0<s.size:=by
 unfold oh at h;simp only[IT,decide_eq_true_eq] at h;have h1:=h.1.1;by_cases h0:s.size=0
 .have e:s.data.toList=[]:=List.length_eq_zero_iff.1 h0;rw[e] at h1;simp at h1
 .omega
def wU (s:ByteArray)(i:Nat):ByteArray:=⟨(Lib.trimPrefix (s.extract 0 i).data.toList [45]).toArray⟩
def numOf (s:ByteArray)(i:Nat)(e:Int):Bool×List Int×Int:=yf (s.data.toList.head?==some 45) (wT (wU s i)) e
def aev (N:Bool×List Int×Int)(s:ByteArray):Bool:=decide (N7 N.2.1 N.2.2=0)&&mI (Vw N.1 N.2.1 N.2.2) s
def VA (s:ByteArray)(i:Nat)(e:Int):Bool:=aev (numOf s i e) s
def Fk (s:ByteArray):Bool:=
 if Lib.indexByte s.data.toList 101<0 then false
 else if oh (s.extract 0 (Lib.indexByte s.data.toList 101).toNat)=false then false
 else if 6<(s.size:Int)-Lib.indexByte s.data.toList 101 then false
 else match Lib.atoiAll (s.extract ((Lib.indexByte s.data.toList 101).toNat+1) s.size).data.toList with
  |.ok e=>VA s (Lib.indexByte s.data.toList 101).toNat e
  |_=>false
theorem VB {s:ByteArray}(h:Lib.indexByte s.data.toList 101<0):Fk s=false:=by unfold Fk;rw[if_pos h]
theorem Yt {s:ByteArray}{i:Nat}(h:Lib.indexByte s.data.toList 101=i):Fk s=if oh (s.extract 0 i)=false then false else if 6<(s.size:Int)-(i:Int) then false else match Lib.atoiAll (s.extract (i+1) s.size).data.toList with
  |.ok e=>VA s i e
  |_=>false:=by
 unfold Fk;rw[h,IS,if_neg (by omega)]
theorem Jk (l p:List UInt8):(Lib.trimPrefix l p).length<=l.length:=by
 unfold Lib.trimPrefix;split
 .simp
 .exact aaR _
theorem Fl (neg:Bool)(D:List Int)(e:Int):(yf neg D e).2.1.length<=D.length:=by
 unfold yf;split
 .simp
 .have h1:=G4 (stripL D).reverse e;have h2:=BX D;rw[agm] at h1;simp only;omega
theorem ahp {D:List Int}{e:Int}(h:N7 D e=0):-2000<=e/\e<=2000:=by
 unfold N7 at h;split at h
 .cases h
 .split at h
  .cases h
  .split at h
   .cases h
   .omega
theorem PO {s:ByteArray}{n:Nat}(hs:s.size<=65536)(hw:WF h):Wp (strconv_Atoi n s) h λr h'=>(match Lib.atoiAll s.data.toList with | .ok v=>r=(v,.nilIface)|_=>∃t u,r.2=.iface t u)/\Fr (λ_=>False) h h':=by
 unfold strconv_Atoi;rw[if_pos (by omega)];cases e:Lib.atoiAll s.data.toList with
 |ok v=>exact ag.2 ⟨rfl,Fr.refl hw⟩
 |range=>
  show Wp (wY _) h _;unfold wY;rw[ah];exact Jg λh' f=>ag.2 ⟨⟨_,_,rfl⟩,f hw⟩
 | _=>
  show Wp (wY 0) h _;unfold wY;rw[ah];exact Jg λh' f=>ag.2 ⟨⟨_,_,rfl⟩,f hw⟩
theorem A2 {f:Bool->M β}{v:Value}(hv:v=.nilIface)(q:Wp (f true) h Q):Wp (sh (kc v) f) h Q:=by
 rw[ah,GU];exact .inl ⟨hv,q⟩
theorem A3 {f:Bool->M β}{v:Value}(hv:∃t u,v=.iface t u)(q:Wp (f false) h Q):Wp (sh (kc v) f) h Q:=by
 obtain⟨t,u,hv⟩:=hv;rw[ah,GU];exact .inr ⟨t,u,hv,q⟩
theorem _root_.Go.Ago.Z.G5 (z:Z h0 h L)(i:Nat){b o:Nat}{cs vs cs':List Value}{e:TypeId}{f:Unit->M β}{Q:β->af->Prop}
  (q:∀h',Z h0 h' (L.set i (.ar b cs' e))->Fr (·=b+1) h h'->Wp (f ()) h' Q) (hi:L[i]?=some (.ar b cs e):=by rfl) (hc:aY cs o vs=cs':=by rfl) (ho:o+vs.length<=cs.length:=by first|decide|simp) (hs:vs.all eQ=true:=by rfl) :
  Wp (sh (bG ⟨b,o,none⟩ vs) f) h Q:=by
 rw[ah];have l:LB h b cs e:=z.get i hi;refine l.st z.wf ho hs λh' l' fr=>q h' (z.rC (o:=.ar b cs e) hi (by simp[bj.dW]) fr ?_ (.inl rfl)) fr;rw[<-hc];exact l'
theorem wF (z:Z h0 h L)(i:Nat){b:Nat}{cs:List Value}{e:TypeId}{neg:Bool}{s:Sl}{v:Int}{r:Bool}(hi:L[i]?=some (.ar b cs e))(hc:cs.length=3) :
  Wp (sh (bG ⟨b,0,none⟩ [.bool neg,aE s,vi v]) λ_=>sh (aI [.bool,.sl,li] ⟨b,0,none⟩) λ(y:Bool×Sl×Int)=>AI ((y.1,y.2.1,y.2.2),r)) h λx h'=>x.2=r/\Fr (λ_=>False) h0 h'/\x.1=(neg,s,v)/\Fr (·=b+1) h h':=by
 have hsp:aY cs 0 [.bool neg,aE s,vi v]=[.bool neg,aE s,vi v]:=by
  unfold aY;simp[hc]
 refine z.G5 i (cs':=[.bool neg,aE s,vi v]) (λh1 z1 f1=>?_) hi hsp (by simp[hc]);have hi1:(L.set i (.ar b [.bool neg,aE s,vi v] e))[i]?=some (.ar b [.bool neg,aE s,vi v] e):=by
  have:=(List.getElem?_eq_some_iff.1 hi).1;simp[this]
 refine z1.fI i (x:=((neg,s,v):bN [.bool,.sl,li])) ?_ hi1;exact ag.2 ⟨rfl,z1.fr,rfl,f1⟩
theorem BZ (s:ByteArray)(a b:Nat):(s.extract a b).size<=s.size:=by simp;omega
def Dh (N:Bool×List Int×Int)(h':af)(x:Bool×Sl×Int):Prop:=x.1=N.1/\x.2.2=N.2.2/\N.2.1.length<=65536/\∃g,g<=h'.next/\BL h' x.2.1 N.2.1 g
def wG (s:ByteArray):Bool×List Int×Int:=match Lib.atoiAll (s.extract ((Lib.indexByte s.data.toList 101).toNat+1) s.size).data.toList with
 |.ok e=>numOf s (Lib.indexByte s.data.toList 101).toNat e
 |_=>(false,[],0)
theorem Yu {s:ByteArray}{i n a1:Nat}(hs:s.size<=65536)(hn:s.size+1<n)(hi:i<s.size)(hpos:0<i)(z:Z h0 h [.ar a1 [.bool false,aU,vi 0] bZ]) :
  Wp (oN n s (ak a1) (i:Int)) h λx h'=>(x.2=match Lib.atoiAll (s.extract (i+1) s.size).data.toList with | .ok e=>VA s i e|_=>false)/\Fr (λ_=>False) h0 h'/\(x.2=true->Dh (match Lib.atoiAll (s.extract (i+1) s.size).data.toList with | .ok e=>numOf s i e|_=>(false,[],0)) h' x.1):=by
 unfold oN;rw[sq (by omega) (by omega),ah,fQ];refine⟨by omega,by omega,by omega,?_⟩;rw[show (((i:Int)+1).toNat)=i+1 by omega,IS];have hsz:(s.extract (i+1) s.size).size<=65536:=by simp;omega
 refine z.call (P:=λr _=>match Lib.atoiAll (s.extract (i+1) s.size).data.toList with | .ok v=>r=(v,.nilIface)|_=>∃t u,r.2=.iface t u) (PO hsz z.wf) λr h1 hr f1 z1=>?_;cases e:Lib.atoiAll (s.extract (i+1) s.size).data.toList with
 |range=>
  rw[e] at hr;refine A3 hr ?_;rw[if_pos (show (!false)=true from rfl)];exact (wF (s:=mX) z1 0 rfl rfl).mono λx h' hx=>⟨hx.1,hx.2.1,λe=>by rw[hx.1] at e;cases e⟩
 |ok v=>
  rw[e] at hr;simp only at hr;subst hr;refine A2 rfl ?_;show Wp (sh (iL s 0 (i:Int)) _) h1 _;rw[ah,fQ];refine⟨by omega,by omega,by omega,?_⟩;rw[IS];unfold strings_TrimPrefix;rw[ah,ag];have ec:(⟨(Lib.trimPrefix (s.extract (0:Int).toNat i).data.toList (ofBytes [45]).data.toList).toArray⟩:ByteArray)=wU s i:=rfl;rw[ec];have hcs:(wU s i).size<=s.size:=by
   show (Lib.trimPrefix (s.extract 0 i).data.toList [45]).toArray.size<=_;have h1:=Jk (s.extract 0 i).data.toList [45];have h2:(s.extract 0 i).data.toList.length<=s.size:=BZ s 0 i;rw[afT];omega
  refine z1.eS (n:=9) [7] (by decide) (by simp) λkb h2 z2=>?_;have hfr:F7 h2 (kb+7):=z2.get 0 rfl;obtain⟨c0,hc0⟩:∃c0,s[0]?=some c0:=⟨s[0]'(by omega),by simp[show 0<s.size by omega]⟩;rw[ah,fl];refine⟨c0,by omega,hc0,?_⟩;refine z2.newAt 0 λh3 z3=>?_;have hk:kb+7<h3.next:=LB.lt (z3.get 0 rfl) z3.wf
  have hdl:(wT (wU s i)).length=(wU s i).size:=by unfold wT;rw[adq];rfl
  refine Lp.kG ((Vu (k:=kb+7) z3 (by omega) (by omega) hk).mono λx h4 hx=>?_);obtain⟨b2,rfl,hbk,z4⟩:=hx;have hk4:kb+7<h4.next:=LB.lt (z4.get 1 rfl) z4.wf
  rw[<-hdl];refine Lp.kG ((Yp (k:=kb+7) z4 hbk hk4 (by omega) (by omega) _ v).mono λr h5 hr=>?_);obtain⟨r1,r2,z5,g,bl,hg,hg2,hg3⟩:=hr;have ha1:a1<h4.next:=LB.lt (z4.get 2 rfl) z4.wf
  have eneg:decide ((c0.toNat:Int)=45)=(s.data.toList.head?==some 45):=by
   rw[wE] at hc0;rw[agz,hc0];by_cases hq:c0=45
   .subst hq;rfl
   .have:¬((c0.toNat:Int)=45):=λe=>hq (UInt8.toNat_inj.1 (by have:(45:UInt8).toNat=45:=rfl;omega));rw[decide_eq_false this];symm;simpa using hq
  rw[eneg] at r1 r2 bl;obtain⟨neg,sl,ee⟩:=r;simp only at r1 r2 bl;rw[show yf (s.data.toList.head?==some 45) (wT (wU s i)) v=numOf s i v from rfl] at r1 r2 bl;subst r1;subst r2;have hDl:(numOf s i v).2.1.length<=65536:=by
   have:=Fl (s.data.toList.head?==some 45) (wT (wU s i)) v;unfold numOf;omega
  have hDn:(numOf s i v).2.1.length<n:=by
   have:=Fl (s.data.toList.head?==some 45) (wT (wU s i)) v;unfold numOf;omega
  show Wp _ _ λ(x:(Bool×Sl×Int)×Bool) h'=>x.2=aev (numOf s i v) s/\Fr (λ_=>False) h0 h'/\(x.2=true->Dh (numOf s i v) h' x.1);generalize numOf s i v=N at bl hDl hDn⊢;obtain⟨N1,N2,N3⟩:=N;refine z5.G5 0 (cs':=[.bool N1,aE sl,vi N3]) (λh6 z6 f6=>?_);have bl:BL h6 sl N2 g:=qy.fr bl f6 λe=>absurd e hg;have hg6:g<=h6.next:=abU hg2 f6.next
  refine z6.fI 0 (x:=((N1,sl,N3):bN [.bool,.sl,li])) ?_;refine z6.fI 0 (x:=((N1,sl,N3):bN [.bool,.sl,li])) ?_;refine z6.LA 0 (Vx z6.wf bl) λr h7 hr f7 z7=>?_;subst hr;show Wp _ _ λ(x:(Bool×Sl×Int)×Bool) h'=>x.2=(decide (N7 N2 N3=0)&&mI (Vw N1 N2 N3) s)/\Fr (λ_=>False) h0 h'/\(x.2=true->Dh (N1,N2,N3) h' x.1);by_cases hl:N7 N2 N3=0
  .rw[if_pos (by simpa using hl)];refine z7.fI 0 (x:=((N1,sl,N3):bN [.bool,.sl,li])) ?_;refine z7.LA 0 (Ys z7.wf (bl.fr f7) (abU hg6 f7.next) hDl hDn (ahp hl)) λr h8 hr f8 z8=>?_
   subst hr;rw[decide_eq_true hl,agf];exact (wF z8 1 rfl rfl).mono λx h' hx=>⟨hx.1,hx.2.1,λ_=>by
    obtain⟨_,_,e,f9⟩:=hx;rw[e];exact⟨rfl,rfl,hDl,g,abU hg6 (abU f7.next (abU f8.next f9.next)),qy.fr ((bl.fr f7).fr f8) f9 λe=>by omega⟩⟩
  .rw[if_neg (by simpa using hl)];rw[decide_eq_false hl,ag6];exact (wF z7 1 rfl rfl).mono λx h' hx=>⟨hx.1,hx.2.1,λe=>by rw[hx.1] at e;cases e⟩
 | _=>
  rw[e] at hr;refine A3 hr ?_;rw[if_pos (show (!false)=true from rfl)];exact (wF (s:=mX) z1 0 rfl rfl).mono λx h' hx=>⟨hx.1,hx.2.1,λe=>by rw[hx.1] at e;cases e⟩
theorem sR {s:ByteArray}{n:Nat}(hs:s.size<=65536)(hn:s.size+1<n)(hw:WF h):Wp (nW n s) h λx h'=>x.2=Fk s/\Fr (λ_=>False) h h'/\(x.2=true->Dh (wG s) h' x.1):=by
  unfold nW;refine (Z.start hw).new λx0 h1 z1 f1=>?_;unfold strings_IndexByte;rw[ah,ag];rw[show (101:Int).toNat.toUInt8=(101:UInt8) from rfl];rcases ixb s.data.toList 101 with hneg|⟨i,hi,hc⟩
  .rw[if_pos (by simpa using hneg),VB hneg];exact (wF (s:=mX) z1 0 rfl rfl).mono λx h' hx=>⟨hx.1,hx.2.1,λe=>by rw[hx.1] at e;cases e⟩
  .have hlt:i<s.size:=(List.getElem?_eq_some_iff.1 hc).1;rw[Yt hi,hi,if_neg (by simp),ah,fQ];refine⟨by omega,by omega,by omega,?_⟩;rw[IS,show (0:Int).toNat=0 from rfl];have hes:=BZ s 0 i;refine z1.call (P:=λr _=>r=oh (s.extract 0 i)) (vz (by omega) (by omega) z1.wf) λr h2 hr f2 z2=>?_;subst hr;cases hok:oh (s.extract 0 i) with
   |false=>
    rw[if_pos (show (false=false) from rfl),if_pos (show (!false)=true from rfl)];exact (wF (s:=mX) z2 0 rfl rfl).mono λx h' hx=>⟨hx.1,hx.2.1,λe=>by rw[hx.1] at e;cases e⟩
   |true=>
    have hp:=Sn hok;have hip:0<i:=by
     have:(s.extract 0 i).size=min i s.size:=(by simp);omega
    rw[if_neg (show ¬(true=false) by decide),if_neg (show ¬((!true)=true) by decide),sq (by omega) (by omega)];by_cases h6:6<(s.size:Int)-(i:Int)
    .rw[if_pos (by simpa using h6),if_pos h6];exact (wF (s:=mX) z2 0 rfl rfl).mono λx h' hx=>⟨hx.1,hx.2.1,λe=>by rw[hx.1] at e;cases e⟩
    .rw[if_neg (by simpa using h6),if_neg h6];refine (Yu hs hn hlt hip z2).mono λx h' hx=>?_;unfold wG;rw[hi,IS];exact hx
theorem B0 {s:ByteArray}{n:Nat}(hs:s.size<=65536)(hn:s.size+1<n)(hw:WF h):Wp (rL n s) h λx h'=>x=Fk s/\Fr (λ_=>False) h h':=by
 unfold rL;rw[ah];refine (sR hs hn hw).mono λx h1 hx=>?_;have z1:=(Z.start hw).pure hx.2.1;refine z1.new λb h2 z2 f2=>?_;refine z2.st 0 (cs':=[.bool x.1.1,aE x.1.2.1,vi x.1.2.2]) λh3 z3=>?_;exact ag.2 ⟨hx.1,z3.fr⟩
end
end Go.Sh
