
import Derived.Test.YtajnpfnomgjlaaaGreatDoorBi
import Derived.Test.YtajnpfnomgjlaaaGreatDoorAgoY
import Derived.Test.YtajnpfnomgjlaaaGreatDoorGi
set_option linter.all false
namespace Go.Sh
open Go Go.Ago Go.Proofs
section
variable {α β:Type}{h h' h0:ai}{L:List bG}{Q:β->ai->Prop}{k:Nat}
def stripR:ε->Int->ε×Int
 |[],e=>([],e)
 |x::r,e=>if x=0 then stripR r (IntKind.i64.wrap (e+1)) else ((x::r).reverse,e)
def stripL:ε->ε
 |[]=>[]
 |x::r=>if x=0 then stripL r else x::r
def zV (neg:Bool)(D:ε)(e:Int):Bool×ε×Int:=
 if (stripR (stripL D).reverse e).1.length=0 then (false,[],0) else (neg,(stripR (stripL D).reverse e).1,(stripR (stripL D).reverse e).2)
theorem DT:∀D:ε,(stripL D).length<=D.length
 |[]=>abi _
 |x::r=>by
  unfold stripL;split
  .have:=DT r;simp;omega
  .exact abi _
theorem IA:∀D e ,(stripR D e).1.length<=D.length
 |[],e=>abi _
 |x::r,e=>by
  unfold stripR;split
  .have:=IA r (IntKind.i64.wrap (e+1));simp;omega
  .simp
def BL (h:ai)(s:Sl)(xs:ε)(g:Nat):Prop:=wq h s 1 (xs.map v8) g
theorem Nv {γ:Type}{D:List γ}{z d i}(hd:D[i]?=some d):(D.take i++List.replicate (D.length-i) z).set i d=D.take (i+1)++List.replicate (D.length-(i+1)) z:=by
 have hlt:=(List.getElem?_eq_some_iff.1 hd).1;have hl:(D.take i).length=i:=by grind
 obtain⟨m,hm⟩:∃m,D.length-i=m+1:=⟨D.length-i-1,by omega⟩;rw[hm,ah3,ah9 _ _ (by omega),hl,aio,ahZ,aj1,hd,show D.length-(i+1)=m by omega];simp
theorem Z.gne (z:Z h0 h L)(i:Nat){b k cs e}(hi:L[i]?=some (.au b cs e))(hk:b≠k):∀c g base e',h.get b=some (.cells c g base e')->g≠k+1:=λc g base e' hg=>by
 have l:LB h b cs e:=z.get i hi;rw[l.get] at hg;cases hg;omega
theorem PT {s b}(hs:s.size<=65536)(hb:b≠k):∀n i h ,s.size-i<n->i<=s.size->Z h0 h (.au b (((yH s).take i++List.replicate ((yH s).length-i) 0).map v8) jT::L) ->
  Lp k (gR n s ⟨some ⟨b,0,none⟩,s.size,s.size+1⟩ (s.size:Int) (i:Int)) h λ_ h'=>Z h0 h' (.au b ((yH s).map v8) jT::L):=by
 have hl:(yH s).length=s.size:=by grind [yH,List.length_map,kW]
 intro n
 induction n with
 |zero=>intro i h h1;omega
 |succ n ih=>
  intro i h h1 h2 z;rw[yS];unfold lD;refine DR (λhc=>?_) λhc=>?_
  .have hi:i<s.size:=by grind
   obtain⟨c,hc1⟩:∃c,s[i]?=some c:=⟨s[i],by simp[hi]⟩;have hd:(yH s)[i]?=some (XS c):=by
    grind [yH,BM]
   refine Lp.step ?_ (λ_ _ hx=>BP.pm (Pm.oL _ _) hx);rw[ah,jW];refine⟨c,by omega,by simpa using hc1,ag.2 ?_⟩;refine Lp.step (Ek (by omega) (by omega) (ag.2 ?_)) λ_ _ hx=>BP.pm (Pm.ar _ _ _) hx;simp;have hg:=Z.gne z 0 rfl hb;refine Lp.step (Z.A3 z 0 (enc:=v8) (xs:=(yH s).take i++List.replicate ((yH s).length-i) 0) (v:=XS c) (by simp;omega) λh' z'=>ag.2 ?_) λ_ _ hx=>BP.bh hb hg hx;rw[Nv hd] at z';rw[vk (by omega) (by omega)];exact ih (i+1) h' (by omega) (by omega) z'
  .have hi:i=s.size:=by grind
   refine Lp.pure ?_;rw[hi,<-hl] at z;simpa using z
theorem XV (z:Z h0 h L){s n}(hs:s.size<=65536)(hn:s.size<n)(hk:k<h.next) :
  Lp k (pg n s) h λx h'=>∃b,x=⟨some ⟨b,0,none⟩,s.size,s.size+1⟩/\b≠k/\Z h0 h' (.au b ((yH s).map v8) jT::L):=by
 unfold pg;have hl:(yH s).length=s.size:=by grind [yH,List.length_map,kW]
 refine Lp.step ?_ λ_ _ hx=>BP.qM hx;rw[ah];refine Jf (z:=[v8 0]) (by omega) (agu _) (by unfold cF;omega) (ag.2 ?_);have hf:=Fr.new (e:=jT) (cs:=(List.replicate s.size [v8 0]).flatten) z.wf;have z1:=z.add hf (o:=.au h.next _ jT) LB.new (.inr (IT _))
 have e1:(List.replicate s.size [v8 0]).flatten=((yH s).take 0++List.replicate ((yH s).length-0) 0).map v8:=by
  simp_all
 simp only[aa1];rw[e1] at z1⊢;refine Lp.bind ((PT hs (by omega) n 0 _ (by omega) (by omega) z1).mono λ_ h' z2=>Lp.pure ⟨h.next,rfl,by omega,z2⟩)
theorem Rf (z:Z h0 h L)(i:Nat){b o m c}{xs:ε}{j x}(hi:L[i]?=some (.au b (xs.map v8) jT))(hx:((xs.drop o).take m)[j.toNat]?=some x)(h1:0<=j)(hb:b≠k){f:Int->M β}(q:Lp k (f x) h Q) :
  Lp k (sh (ar ⟨some ⟨b,o,none⟩,m,c⟩ j 1) λa=>sh (aq (.int .u8) a) f) h Q:=by
 have hlt:=(List.getElem?_eq_some_iff.1 hx).1;rw[ahY] at hlt;have l:LB h b (xs.map v8) jT:=z.get i hi;refine Lp.step ?_ λ_ _ hx=>BP.pm (Pm.ar _ _ _) hx;rw[ah,xW];refine⟨_,rfl,h1,by simp;omega,ag.2 ?_⟩;refine Lp.step ?_ λ_ _ hx=>BP.aq (by simpa[Addr.plus] using hb) hx;rw[ah,wV];refine⟨x,?_,ag.2 q⟩;refine l.ld (v:=v8 x) ?_ rfl;rw[aiW,aha] at hx;split at hx
 .simp only[Addr.plus,ae1]
  grind
 .cases hx
theorem Rh (z:Z h0 h L)(i:Nat){b o m c:Nat}{xs:ε}{lo hi:Int}(hL:L[i]?=some (.au b (xs.map v8) jT))(h1:0<=lo)(h2:lo<=hi)(h3:hi<=m)(hb:b≠k){f}
  (q:∀c',Lp k (f ⟨some ⟨b,o+lo.toNat,none⟩,hi.toNat-lo.toNat,c'⟩) h Q):Lp k (sh (gm ⟨some ⟨b,o,none⟩,m,c⟩ lo hi jT 1) f) h Q:=by
 have l:LB h b (xs.map v8) jT:=z.get i hL;refine Lp.step ?_ λ_ _ hx=>BP.rm (Rm.gm _ _ _ _ _) (λb' hb'=>by cases hb';exact hb) hx;rw[ah];refine rn h1 h2 (by simpa using h3) (by simp[kc,l.get]) ?_;simp[ahH,Addr.plus,ae1];exact ag.2 (q _)
theorem aa4 (z:Z h0 h L)(i:Nat){b}{xs:ε}(hL:L[i]?=some (.au b (xs.map v8) jT))(hb:b≠k) neg e a3:∀n o m c ,m<n->o+m<=xs.length ->
  Lp k (iP n neg ⟨some ⟨b,o,none⟩,m,c⟩ e a3) h λr h'=>h'=h/\∃o' m' c',r=⟨some ⟨b,o',none⟩,m',c'⟩/\o'+m'<=xs.length/\(xs.drop o').take m'=stripL ((xs.drop o).take m):=by
 intro n
 induction n with
 |zero=>intro o m c h1;omega
 |succ n ih=>
  intro o m c h1 h2;rw[zx];unfold mM;refine DR (λhc=>?_) λhc=>?_
  .have hm:0<m:=by grind
   obtain⟨m,rfl⟩:∃m',m=m'+1:=⟨m-1,by omega⟩;obtain⟨x,hx⟩:∃x,xs[o]?=some x:=⟨xs[o],ace (by omega)⟩;have hd:(xs.drop o).take (m+1)=x::(xs.drop (o+1)).take m:=by
    rw[drop_cons hx,List.take_succ_cons]
   refine Rf z i hL (by rw[hd];rfl) (by omega) hb ?_;rw[hd];refine DR (λh0=>?_) λh0=>?_
   .have h0:x=0:=(by simpa using h0);refine Rh z i hL (by omega) (by simp only;omega) (by simp only;omega) hb λc'=>?_;rw[show o+(1:Int).toNat=o+1 from rfl,show ((((⟨some ⟨b,o,none⟩,m+1,c⟩:Sl).len:Nat):Int).toNat-(1:Int).toNat)=m by simp];refine (ih (o+1) m c' (by omega) (by omega)).mono λr h' hr=>?_;obtain⟨r1,o',m',c2,r2,r3,r4⟩:=hr;refine⟨r1,o',m',c2,r2,r3,?_⟩;rw[r4,stripL,By h0]
   .have h0:¬x=0:=(by simpa using h0);exact Lp.pure ⟨rfl,o,m+1,c,rfl,h2,by rw[hd,stripL,AT h0]⟩
  .have hm:m=0:=by grind
   subst hm;exact Lp.pure ⟨rfl,o,0,c,rfl,h2,by simp[stripL]⟩
theorem aa5 (z:Z h0 h L)(i:Nat){b}{xs:ε}(hL:L[i]?=some (.au b (xs.map v8) jT))(hb:b≠k)(hxs:xs.length<=65536) neg a3:∀n o m c e ,m<n->o+m<=xs.length ->
  Lp k (iO n neg ⟨some ⟨b,o,none⟩,m,c⟩ e a3) h λr h'=>h'=h/\∃m' c',r.1=⟨some ⟨b,o,none⟩,m',c'⟩/\o+m'<=xs.length/\stripR ((xs.drop o).take m).reverse e=((xs.drop o).take m',r.2):=by
 intro n
 induction n with
 |zero=>intro o m c e h1;omega
 |succ n ih=>
  intro o m c e h1 h2;rw[zw];unfold mK;refine DR (λhc=>?_) λhc=>?_
  .have hm:0<m:=by grind
   obtain⟨m,rfl⟩:∃m',m=m'+1:=⟨m-1,by omega⟩;obtain⟨x,hx⟩:∃x,xs[o+m]?=some x:=⟨xs[o+m],ace (by omega)⟩;have hx2:(xs.drop o)[m]?=some x:=by grind
   have hd:(xs.drop o).take (m+1)=(xs.drop o).take m++[x]:=by grind [List.take_succ]
   have ew:IntKind.i64.wrap ((((⟨some ⟨b,o,none⟩,m+1,c⟩:Sl).len:Nat):Int)-1)=(m:Int):=by
    grind [xG]
   rw[ew];refine Rf z i hL (x:=x) (by grind [Int.toNat_natCast,List.getElem?_append_right,List.length_take,List.length_drop,min]) (by omega) hb ?_;rw[hd,List.reverse_append,List.reverse_singleton,aj0];refine DR (λh0=>?_) λh0=>?_
   .have h0:x=0:=(by simpa using h0);refine Rh z i hL (by omega) (by omega) (by omega) hb λc'=>?_;rw[show o+(0:Int).toNat=o from rfl,show ((m:Int).toNat-(0:Int).toNat)=m by simp];refine (ih o m c' _ (by omega) (by omega)).mono λr h' hr=>?_;obtain⟨r1,m',c2,r2,r3,r4⟩:=hr;refine⟨r1,m',c2,r2,r3,?_⟩;rw[stripR,By h0];exact r4
   .have h0:¬x=0:=(by simpa using h0);refine Lp.pure ⟨rfl,m+1,c,rfl,h2,?_⟩;rw[stripR,AT h0,hd];simp
  .have hm:m=0:=by grind
   subst hm;exact Lp.pure ⟨rfl,0,c,rfl,h2,by simp[stripR]⟩
theorem aa6 (z:Z h0 h L){e cs f}(q:∀h',Z h0 h' (.au h.next cs e::L)->h'.next=h.next+1->Lp k (f h.next) h' Q)(hs:cs.all eS=true:=by rfl):Lp k (sh (aF none e cs) f) h Q:=by
 refine Lp.step ?_ λ_ _ hx=>BP.aF hx;rw[ah,Gt];have hf:=Fr.new (e:=e) (cs:=cs) z.wf;exact⟨hs,ag.2 (q _ (z.add hf LB.new (.inr (IT _))) rfl)⟩
theorem afd (z:Z h0 h L){e v m f}(hm:m<=65536)(q:∀h',Z h0 h' (.au h.next (List.replicate m v) e::L)->h'.next=h.next+1->Lp k (f ⟨some ⟨h.next,0,none⟩,m,m+1⟩) h' Q)(hs:eS v=true:=by rfl):Lp k (sh (qM none e [v] (m:Int) (m:Int)) f) h Q:=by
 refine Lp.step ?_ λ_ _ hx=>BP.qM hx;rw[ah];refine Jf (by omega) (agu _) (by unfold cF;omega) (ag.2 ?_) (by simp[hs]);have hf:=Fr.new (e:=e) (cs:=(List.replicate m [v]).flatten) z.wf;have z1:=z.add hf (o:=.au h.next _ e) LB.new (.inr (IT _))
 simp only[aa1];refine q _ ?_ rfl
 simp_all
theorem adw (z:Z h0 h L) i {b o cs vs cs' e f}(hb:b≠k)(q:∀h',Z h0 h' (L.set i (.au b cs' e))->h'.next=h.next->Lp k (f ()) h' Q)(hi:L[i]?=some (.au b cs e):=by rfl)(hc:aU cs o vs=cs':=by rfl)
  (ho:o+vs.length<=cs.length:=by first|decide|simp)(hs:vs.all eS=true:=by rfl):Lp k (sh (bh ⟨b,o,none⟩ vs) f) h Q:=by
 have hg:=Z.gne z i hi hb;refine Lp.step ?_ λ_ _ hx=>BP.bh hb hg hx;have l:LB h b cs e:=z.get i hi;have w:=Z.st z i (Q:=λ_ h'=>Z h0 h' (L.set i (.au b cs' e))) (λh' z'=>ag.2 z') hi hc ho hs;have hn:Wp (sh (bh ⟨b,o,none⟩ vs) AI) h λ_ h'=>h'.next=h.next:=by
  rw[ah,Gs];exact⟨cs,b+1,0,e,l.get,by omega,ho,hs,ag.2 rfl⟩
 obtain⟨x,h1,e1,q1⟩:=w;obtain⟨y,h2,e2,q2⟩:=hn;rw[e1] at e2;cases e2;exact⟨x,h1,e1,q h1 q1 q2⟩
theorem XW (z:Z h0 h L)(i:Nat){b cs e ls x f}(hb:b≠k)(q:Lp k (f x) h Q)(hi:L[i]?=some (.au b cs e):=by rfl)(hx:yL ls cs=some x:=by rfl)(hl:ls.length=cs.length:=by rfl) :
  Lp k (sh (aE ls ⟨b,0,none⟩) f) h Q:=
 Lp.step (Z.iN z i (f:=AI) (ag.2 q) hi hx hl) λ_ _ hx=>BP.aE (by exact hb) hx
theorem aa7 (z:Z h0 h L)(i j:Nat){b b2 o m c}{xs:ε}{f}(hi:L[i]?=some (.au b2 (List.replicate m (v8 0)) jT))(hj:L[j]?=some (.au b (xs.map v8) jT))(hb:b≠k)(hb2:b2≠k)(hm:0<m)(ho:o+m<=xs.length)
  (q:∀h',Z h0 h' (L.set i (.au b2 (((xs.drop o).take m).map v8) jT))->h'.next=h.next->Lp k (f m) h' Q):Lp k (sh (rh ⟨some ⟨b2,0,none⟩,m,m+1⟩ ⟨some ⟨b,o,none⟩,m,c⟩ 1) f) h Q:=by
 have hg:=Z.gne z i hi hb2;refine Lp.step ?_ λ_ _ hx=>BP.rh (λb' hb'=>by cases hb';exact hb) (λb' hb'=>by grind) hx;have l:LB h b (xs.map v8) jT:=z.get j hj;have hl:(((xs.drop o).take m).map v8).length=m:=by simp;omega
 have hcell:aQ h (some ⟨b,o,none⟩) (Nat.min m m*1)=some (((xs.drop o).take m).map v8):=by
  unfold aQ;simp only[l.get]
  simp_all
 have hall:(((xs.drop o).take m).map v8).all eS=true:=by
  rw[List.all_map,ah5];intro x _;rfl
 have w:=Z.st z i (Q:=λ_ h'=>Z h0 h' (L.set i (.au b2 (((xs.drop o).take m).map v8) jT)))
  (λh' z'=>ag.2 z') hi (by unfold aU;rw[aea,hl];simp) (by rw[hl];simp) hall
 have hn:Wp (sh (bh ⟨b2,0,none⟩ (((xs.drop o).take m).map v8)) AI) h λ_ h'=>h'.next=h.next:=by
  have l2:LB h b2 _ _:=z.get i hi;rw[ah,Gs];exact⟨_,b2+1,0,_,l2.get,by omega,by rw[hl];simp,hall,ag.2 rfl⟩
 obtain⟨x,h1,e1,q1⟩:=w;obtain⟨y,h2,e2,q2⟩:=hn;rw[e1] at e2;cases e2;have e3:bh ⟨b2,0,none⟩ (((xs.drop o).take m).map v8) h=some ((),h1):=by
  unfold sh at e1;split at e1
  .rename_i u h5 hu;cases e1;exact hu
  .cases e1
 refine⟨m,h1,?_,q h1 q1 q2⟩;have e4:rh ⟨some ⟨b2,0,none⟩,m,m+1⟩ ⟨some ⟨b,o,none⟩,m,c⟩ 1 h=some (m,h1):=by
  unfold rh
  grind
 simp[sh,e4,AI]
theorem aa8 {b n c xs}(z:Z h0 h (.au b (xs.map v8) jT::L))(hb:b≠k)(hk:k<h.next)(hx:xs.length<=65536)(hn:xs.length<n) neg e :
  Lp k (p8 n neg ⟨some ⟨b,0,none⟩,xs.length,c⟩ e) h λr h'=>r.1=(zV neg xs e).1/\r.2.2=(zV neg xs e).2.2/\Z h0 h' L/\∃g,BL h' r.2.1 (zV neg xs e).2.1 g/\g≠k+1/\g<=h'.next/\(g=0\/h.next<g):=by
 unfold p8;refine aa6 z λh1 z1 n1=>?_;refine Lp.bind ((aa4 z1 1 rfl hb neg e _ n 0 xs.length c hn (by omega)).mono λr h' hr=>?_);obtain⟨hh,o,m,c',rfl,hom,e1⟩:=hr;have hh:=hh.symm;subst hh;rw[ahx,aiJ] at e1;have hm:=DT xs;rw[<-e1,ahY,ain] at hm;refine Lp.bind ((aa5 z1 1 rfl hb hx neg _ n o m c' e (by omega) hom).mono λr h' hr=>?_);obtain⟨hh,m2,c2,e2,hom2,e3⟩:=hr;have hh:=hh.symm;subst hh;obtain⟨sl,ee⟩:=r;simp at e2 e3;subst e2;rw[e1] at e3;have e4:(stripR (stripL xs).reverse e).1=(xs.drop o).take m2:=by rw[e3]
 have e5:(stripR (stripL xs).reverse e).2=ee:=by rw[e3]
 have el:((xs.drop o).take m2).length=m2:=by grind
 have hxk:h.next≠k:=by omega
 refine DR (λhc=>?_) λhc=>?_
 .have hm0:m2=0:=by grind
  have en:zV neg xs e=(false,[],0):=by unfold zV;rw[e4,el,By hm0]
  refine adw z1 0 (cs':=[.bool false,aO,vi 0]) hxk λh2 z2 n2=>?_;refine XW z2 0 (x:=((false,qQ,0):mD [.bool,.sl,li])) hxk (Lp.pure ?_);rw[en];exact⟨rfl,rfl,z2.drop.drop,0,wq.nil rfl,by omega,agD _,.inl rfl⟩
 .have hm0:0<m2:=by grind
  have en:zV neg xs e=(neg,(xs.drop o).take m2,ee):=by unfold zV;grind
  refine afd (m:=m2) z1 (by omega) λh2 z2 n2=>?_;have hbk:h1.next≠k:=by omega
  refine aa7 z2 0 2 rfl rfl hb hbk hm0 hom2 λh3 z3 n3=>?_;refine adw z3 1 (cs':=[.bool neg,.slice (some ⟨h1.next,0,none⟩) m2 (m2+1),vi ee]) hxk λh4 z4 n4=>?_
  refine XW z4 1 hxk (Lp.pure ?_);rw[en];have l:LB h4 h1.next (((xs.drop o).take m2).map v8) jT:=z4.get 0 rfl
  exact⟨rfl,rfl,z4.drop.drop.drop,h1.next+1,l.Dm (by simp;omega),by omega,by omega,.inr (by omega)⟩
end
section
variable {α β:Type}{h h' h0:ai}{L:List bG}{Q:β->ai->Prop}
theorem _root_.Go.Ago.Z.Nw (z:Z h0 h L)(i:Nat){b:Nat}{a:Addr}{cs:δ}{e:κ}{m:M α}{f:α->M β}{P:α->Prop}(hm:Wp m h λr h'=>P r/\Fr (λ_=>False) h h')
  (q:∀r h',P r->Fr (λ_=>False) h h'->Z h0 h' L->Wp (f r) h' Q)(hi:L[i]?=some (.au b cs e):=by rfl)(ha:a.block=b:=by rfl):Wp (sh (Ago.k8 [some a] m) f) h Q:=by
 rw[ah];have l:LB h b cs e:=z.get i hi;refine Dj (hm.mono λr h' hp=>⟨λa' hma=>?_,q r h' hp.1 hp.2 (z.pure hp.2)⟩);simp at hma;subst hma;rw[ha,l.get];exact hp.2.cells _ _ _ _ _ l.get λx=>x.elim
theorem BL.fr {s D g}(b:BL h s D g)(f:Fr (λ_=>False) h h'):BL h' s D g:=wq.fr b f λx=>x.elim
theorem BL.len {s D g}(b:BL h s D g):s.len=D.length:=wq.Dn (enc:=v8) b
def PU (D:ε)(e:Int):Int:=if 400<D.length then 6 else if e < -2000 then 2 else if 2000<e then 2 else 0
def byt (x:Int):UInt8:=UInt8.ofNat x.toNat
def Up (D:ε):ζ:=ofBytes (D.map λd=>byt (IntKind.u8.wrap (48+d)))
def Nx (neg:Bool)(D:ε):ζ:=if D.length=0 then ofBytes [48] else (if neg then ofBytes [45] else ofBytes [])++Up D
def XX (neg:Bool)(D:ε)(e:Int):ζ:=Nx neg D++ofBytes [101]++⟨(Lib.itoa e).toArray⟩
theorem XY {s D g neg e n}(hw:WF h)(bl:BL h s D g):Wp (j5 n (neg,s,e)) h λr h'=>r=PU D e/\Fr (λ_=>False) h h':=by
 unfold j5;refine (Z.start hw).new λx0 h1 z1 f1=>?_;have hl:=bl.len;refine z1.ld 0 ?_;unfold PU;by_cases h1:400<D.length
 .rw[By (by simp;omega),By h1];exact ag.2 ⟨rfl,z1.fr⟩
 rw[AT (by grind),AT h1];refine z1.ld 0 ?_;by_cases h2:e < -2000
 .rw[By (by simpa using h2),By h2];exact ag.2 ⟨rfl,z1.fr⟩
 rw[AT (by simpa using h2),AT h2];refine z1.ld 0 ?_;by_cases h3:2000<e
 .rw[By (by simpa using h3),By h3];exact ag.2 ⟨rfl,z1.fr⟩
 rw[AT (by simpa using h3),AT h3];exact ag.2 ⟨rfl,z1.fr⟩
theorem aa9 {s neg e n}(hw:WF h):Wp (lh n (neg,s,e)) h λr h'=>r=(if neg then ofBytes [45] else ofBytes [])/\Fr (λ_=>False) h h':=by
 unfold lh;refine (Z.start hw).new λx0 h1 z1 f1=>?_;refine z1.ld 0 ?_;cases neg
 .exact ag.2 ⟨rfl,z1.fr⟩
 .exact ag.2 ⟨rfl,z1.fr⟩
def Of (d:Int):Int:=IntKind.u8.wrap (48+d)
theorem Ny {s}{D:ε}{g b m}(hD:D.length<=65536):∀n i h ,D.length-i<n->i<=D.length->BL h s D g->g<=h0.next->Z h0 h (.au b ((((D.map Of).take i++List.replicate ((D.map Of).length-i) 0)).map v8) jT::L) ->
  Wp (dY n ⟨some ⟨b,0,none⟩,D.length,m⟩ s (s.len:Int) (i:Int)) h λ_ h'=>Z h0 h' (.au b ((D.map Of).map v8) jT::L):=by
 intro n
 induction n with
 |zero=>intro i h h1;omega
 |succ n ih=>
  intro i h h1 h2 bl hg z;have hl:=bl.len;rw[vM];unfold gS;by_cases hi:i<D.length
  .rw[By (by grind)];obtain⟨d,hd⟩:=eY hi;refine wq.VZ bl (by omega) (by simpa using hd) λa c=>c.rD rfl rfl ?_;refine Ek (by omega) (by omega) ?_;simp only[aa1,ae1];have hne:b+1≠g:=by
    have:=(z.own _ OF).2;simp only[bG.eI] at this;omega
   have l:LB h b _ _:=z.get 0 rfl;rw[ah];have hdm:(D.map Of)[i]?=some (Of d):=by grind
   have hst:=Z.A3 z 0 (xs:=(D.map Of).take i++List.replicate ((D.map Of).length-i) 0) (k:=i) (Q:=λ_ h'=>Z h0 h' (.au b ((((D.map Of).take (i+1)++List.replicate ((D.map Of).length-(i+1)) 0)).map v8) jT::L)) (by simp;omega) (λh' z'=>ag.2 (by rw[Nv hdm] at z';exact z'));have hfr:Wp (bh ⟨b,i,none⟩ [v8 (Of d)]) h λ_ h'=>Fr (·=b+1) h h':=l.st z.wf (by simp;omega) rfl λh' _ f=>f
   obtain⟨u,h5,e5,q5⟩:=hst;obtain⟨u2,h6,e6,q6⟩:=hfr;have e7:bh ⟨b,i,none⟩ [v8 (Of d)] h=some ((),h5):=by
    unfold sh at e5;split at e5
    .rename_i hu;cases e5;exact hu
    .cases e5
   rw[e7] at e6;cases e6;refine⟨(),h5,e7,?_⟩;rw[vk (by omega) (by omega)];exact ih (i+1) h5 (by omega) (by omega) (wq.fr bl q6 λe=>absurd e.symm hne) hg q5
  .have hi:i=D.length:=by omega
   subst hi;rw[AT (by grind),ag];have:(D.map Of).take D.length++List.replicate ((D.map Of).length-D.length) 0=D.map Of:=by
    rw[aix (by simp)];simp
   rw[this] at z;exact z
theorem G3:∀l:ε,bytesOf (l.map v8)=some (l.map byt)
 |[]=>rfl
 |x::l=>by
  simp[adR,bytesOf];rw[G3 l];rfl
theorem XZ {b m}{xs:ε}(l:LB h b (xs.map v8) jT){f}(q:Wp (f (ofBytes (xs.map byt))) h Q):Wp (sh (strOf ⟨some ⟨b,0,none⟩,xs.length,m⟩) f) h Q:=by
 rw[ah];refine⟨ofBytes (xs.map byt),h,?_,q⟩;unfold strOf;have:aQ h (some ⟨b,0,none⟩) xs.length=some (xs.map v8):=by
  unfold aQ;simp only[l.get]
  grind
 simp[this,G3]
theorem Uq {s D g neg e n}(hw:WF h)(bl:BL h s D g)(hg:g<=h.next)(hD:D.length<=65536)(hn:D.length<n) :
  Wp (jg n (neg,s,e)) h λr h'=>r=Up D/\Fr (λ_=>False) h h':=by
 unfold jg;have hl:=bl.len;refine (Z.start hw).new λx0 h1 z1 f1=>?_;refine z1.ld 0 ?_;change Wp (sh (qM none jT [v8 0] (s.len:Int) (s.len:Int)) _) _ _;refine z1.EC (by omega) (by unfold cF;omega) λb h2 z2 f2=>?_;refine z2.ld 1 ?_;rw[ah];have e1:(List.replicate ((s.len:Int)).toNat [v8 0]).flatten=((((D.map Of).take 0++List.replicate ((D.map Of).length-0) 0)).map v8):=by
  simp_all
 rw[e1] at z2;have e2:((s.len:Int)).toNat=D.length:=by omega
 rw[e2];refine (Ny hD n 0 h2 (by omega) (by omega) ((bl.fr f1).fr f2) hg z2).mono λ_ h3 z3=>?_;have l:=z3.get 0 rfl;have:=XZ (m:=D.length+1) (f:=λx=>AI x) (Q:=λr h'=>r=Up D/\Fr (λ_=>False) h h') l (ag.2 ⟨by unfold Up;rw[ajM];rfl,z3.fr⟩)
 rwa [adQ] at this
theorem aba {s D g neg e n}(hw:WF h)(bl:BL h s D g)(hg:g<=h.next)(hD:D.length<=65536)(hn:D.length<n) :
  Wp (lj n (neg,s,e)) h λr h'=>r=Nx neg D/\Fr (λ_=>False) h h':=by
 unfold lj Nx;have hl:=bl.len;refine (Z.start hw).new λx0 h1 z1 f1=>?_;refine z1.ld 0 ?_;by_cases h0:D.length=0
 .rw[By (by grind),By h0];exact ag.2 ⟨rfl,z1.fr⟩
 rw[AT (by grind),AT h0];refine z1.iN 0 (x:=((neg,s,e):mD [.bool,.sl,li])) ?_;refine z1.iN 0 (x:=((neg,s,e):mD [.bool,.sl,li])) ?_;refine z1.Nw 0 (aa9 z1.wf) λr h2 hr f2 z2=>?_;subst hr;refine z2.call (Uq z2.wf ((bl.fr f1).fr f2) (adr hg (adr f1.next f2.next)) hD hn) λr h3 hr f3 z3=>?_
 subst hr
 try dsimp
 rw[ah,Cj];have hs:(Up D).size=D.length:=by show (D.map _).toArray.size=_;simp
 have hs2:(if neg=true then ofBytes [45] else ofBytes []).size<=1:=by cases neg<;>decide
 exact⟨by unfold cF;omega,ag.2 ⟨rfl,z3.fr⟩⟩
theorem PW neg D:(Nx neg D).size<=D.length+1:=by
 unfold Nx;split
 .show [48].toArray.size<=_;simp
 .have hs:(Up D).size=D.length:=by show (D.map _).toArray.size=_;simp
  have hs2:(if neg=true then ofBytes [45] else ofBytes []).size<=1:=by cases neg<;>decide
  grind
theorem FC:∀m u ,u<10^m->0<m->Lib.nDigits u<=m:=by
 intro m
 induction m with
 |zero=>intro u _ h;omega
 |succ m ih=>
  intro u hu _;rw[Lib.nDigits]
  grind
theorem X0 {e}(he:-2000<=e/\e<=2000):(Lib.itoa e).length<=5:=by
 unfold Lib.itoa;split
 .rw[acp,Lib.decDigits_length];have:=FC 4 e.natAbs (by omega) (by omega);omega
 .rw[Lib.decDigits_length];have:=FC 4 e.toNat (by omega) (by omega);omega
theorem abb {s D g neg e n}(hw:WF h)(bl:BL h s D g)(hg:g<=h.next)(hD:D.length<=65536)(hn:D.length<n)(he:-2000<=e/\e<=2000) :
  Wp (lu n (neg,s,e)) h λr h'=>r=XX neg D e/\Fr (λ_=>False) h h':=by
 unfold lu;refine (Z.start hw).new λx0 h1 z1 f1=>?_;refine z1.iN 0 (x:=((neg,s,e):mD [.bool,.sl,li])) ?_;refine z1.ld 0 ?_;refine z1.Nw 0 (aba z1.wf (bl.fr f1) (adr hg f1.next) hD hn) λr h2 hr f2 z2=>?_
 subst hr;have hc:=PW neg D
 try dsimp
 rw[ah,Cj];refine⟨by unfold cF;have:(ofBytes [101]).size=1:=rfl;omega,?_⟩;unfold strconv_Itoa;rw[By (by omega),ah,ag,ah,Cj];refine⟨?_,ag.2 ⟨rfl,z2.fr⟩⟩;have h9:(⟨(Lib.itoa e).toArray⟩:ζ).size<=100:=by
  show (Lib.itoa e).toArray.size<=100
  grind [X0]
 rw[ByteArray.size_append];have:(ofBytes [101]).size=1:=rfl;unfold cF;omega
end
section
variable {α β:Type}{h h' h0:ai}{L:List bG}{Q:β->ai->Prop}
theorem ixb l c:(Lib.indexByte l c<0)\/∃i:Nat,Lib.indexByte l c=i/\l[i]?=some c:=by
 by_cases hneg:Lib.indexByte l c<0
 .exact .inl hneg
 .obtain⟨i,hi⟩:∃i:Nat,Lib.indexByte l c=i:=⟨(Lib.indexByte l c).toNat,by omega⟩;exact .inr ⟨i,hi,(Lib.indexByte_some hi).1⟩
theorem Ur {s}(h:tk s=true):0<s.size:=by
 unfold tk at h;simp only[ach,acu] at h;have h1:=h.1.1;by_cases h0:s.size=0
 .simp_all
 .omega
def yI (s:ζ)(i:Nat):ζ:=⟨(Lib.trimPrefix (s.extract 0 i).data.toList [45]).toArray⟩
def numOf (s:ζ)(i:Nat)(e:Int):Bool×ε×Int:=zV (s.data.toList.head?==some 45) (yH (yI s i)) e
def ahg (N:Bool×ε×Int)(s:ζ):Bool:=decide (PU N.2.1 N.2.2=0)&&qE (XX N.1 N.2.1 N.2.2) s
def X1 (s:ζ)(i:Nat)(e:Int):Bool:=ahg (numOf s i e) s
def G4 (s:ζ):Bool:=
 if Lib.indexByte s.data.toList 101<0 then false
 else if tk (s.extract 0 (Lib.indexByte s.data.toList 101).toNat)=false then false
 else if 6<(s.size:Int)-Lib.indexByte s.data.toList 101 then false
 else match Lib.atoiAll (s.extract ((Lib.indexByte s.data.toList 101).toNat+1) s.size).data.toList with
  |.ok e=>X1 s (Lib.indexByte s.data.toList 101).toNat e
  |_=>false
theorem X2 {s}(h:Lib.indexByte s.data.toList 101<0):G4 s=false:=by unfold G4;rw[By h]
theorem abc {s}{i:Nat}(h:Lib.indexByte s.data.toList 101=i):G4 s=if tk (s.extract 0 i)=false then false else if 6<(s.size:Int)-(i:Int) then false else match Lib.atoiAll (s.extract (i+1) s.size).data.toList with
  |.ok e=>X1 s i e
  |_=>false:=by
 unfold G4
 grind
theorem Lj l p:(Lib.trimPrefix l p).length<=l.length:=by
 unfold Lib.trimPrefix
 grind
theorem G5 neg D e:(zV neg D e).2.1.length<=D.length:=by
 grind [zV,IA,stripL,DT,List.length_reverse]
theorem aiN {D e}(h:PU D e=0):-2000<=e/\e<=2000:=by
 grind [PU]
theorem Ri {s n}(hs:s.size<=65536)(hw:WF h):Wp (strconv_Atoi n s) h λr h'=>(match Lib.atoiAll s.data.toList with | .ok v=>r=(v,.nilIface)|_=>∃t u,r.2=.iface t u)/\Fr (λ_=>False) h h':=by
 unfold strconv_Atoi;rw[By (by omega)];cases e:Lib.atoiAll s.data.toList with
 |ok v=>exact ag.2 ⟨rfl,Fr.refl hw⟩
 |range=>
  show Wp (yc _) h _;unfold yc;rw[ah];exact GY λh' f=>ag.2 ⟨⟨_,_,rfl⟩,f hw⟩
 |_=>
  show Wp (yc 0) h _;unfold yc;rw[ah];exact GY λh' f=>ag.2 ⟨⟨_,_,rfl⟩,f hw⟩
theorem CD {f v}(hv:v=.nilIface)(q:Wp (f true) h Q):Wp (sh (ke v) f) h Q:=by
 rw[ah,Iv];exact .inl ⟨hv,q⟩
theorem CE {f v}(hv:∃t u,v=.iface t u)(q:Wp (f false) h Q):Wp (sh (ke v) f) h Q:=by
 obtain⟨t,u,hv⟩:=hv;rw[ah,Iv];grind
theorem _root_.Go.Ago.Z.za (z:Z h0 h L)(i:Nat){b o:Nat}{cs vs cs':δ}{e:κ}{f:Unit->M β}{Q:β->ai->Prop}
  (q:∀h',Z h0 h' (L.set i (.au b cs' e))->Fr (·=b+1) h h'->Wp (f ()) h' Q)(hi:L[i]?=some (.au b cs e):=by rfl)(hc:aU cs o vs=cs':=by rfl)(ho:o+vs.length<=cs.length:=by first|decide|simp)(hs:vs.all eS=true:=by rfl) :
  Wp (sh (bh ⟨b,o,none⟩ vs) f) h Q:=by
 rw[ah];have l:LB h b cs e:=z.get i hi;refine l.st z.wf ho hs λh' l' fr=>q h' (z.qf hi (by simp[bG.eI]) fr ?_ (.inl rfl)) fr;rw[<-hc];exact l'
theorem yx (z:Z h0 h L)(i:Nat){b cs e neg s v}{r:Bool}(hi:L[i]?=some (.au b cs e))(hc:cs.length=3) :
  Wp (sh (bh ⟨b,0,none⟩ [.bool neg,aI s,vi v]) λ_=>sh (aE [.bool,.sl,li] ⟨b,0,none⟩) λ(y:Bool×Sl×Int)=>AI ((y.1,y.2.1,y.2.2),r)) h λx h'=>x.2=r/\Fr (λ_=>False) h0 h'/\x.1=(neg,s,v)/\Fr (·=b+1) h h':=by
 have hsp:aU cs 0 [.bool neg,aI s,vi v]=[.bool neg,aI s,vi v]:=by
  unfold aU;simp[hc]
 refine z.za i (λh1 z1 f1=>?_) hi hsp (by simp[hc]);have hi1:(L.set i (.au b [.bool neg,aI s,vi v] e))[i]?=some (.au b [.bool neg,aI s,vi v] e):=by
  grind
 refine z1.iN i (x:=((neg,s,v):mD [.bool,.sl,li])) ?_ hi1;exact ag.2 ⟨rfl,z1.fr,rfl,f1⟩
theorem DU (s:ζ) a b:(s.extract a b).size<=s.size:=by simp;omega
def Fb (N:Bool×ε×Int)(h':ai)(x:Bool×Sl×Int):Prop:=x.1=N.1/\x.2.2=N.2.2/\N.2.1.length<=65536/\∃g,g<=h'.next/\BL h' x.2.1 N.2.1 g
def yy (s:ζ):Bool×ε×Int:=match Lib.atoiAll (s.extract ((Lib.indexByte s.data.toList 101).toNat+1) s.size).data.toList with
 |.ok e=>numOf s (Lib.indexByte s.data.toList 101).toNat e
 |_=>(false,[],0)
theorem abd {s:ζ}{i n a1}(hs:s.size<=65536)(hn:s.size+1<n)(hi:i<s.size)(hpos:0<i)(z:Z h0 h [.au a1 [.bool false,aO,vi 0] bW]) :
  Wp (mw n s (al a1) (i:Int)) h λx h'=>(x.2=match Lib.atoiAll (s.extract (i+1) s.size).data.toList with | .ok e=>X1 s i e|_=>false)/\Fr (λ_=>False) h0 h'/\(x.2=true->Fb (match Lib.atoiAll (s.extract (i+1) s.size).data.toList with | .ok e=>numOf s i e|_=>(false,[],0)) h' x.1):=by
 unfold mw;rw[xG (by omega) (by omega),ah,gM];refine⟨by omega,by omega,by omega,?_⟩;rw[show (((i:Int)+1).toNat)=i+1 by omega,aa1];have hsz:(s.extract (i+1) s.size).size<=65536:=by simp;omega
 refine z.call (Ri hsz z.wf) λr h1 hr f1 z1=>?_;cases e:Lib.atoiAll (s.extract (i+1) s.size).data.toList with
 |range=>
  rw[e] at hr;refine CE hr ?_;rw[By (show (!false)=true from rfl)];exact (yx (s:=qQ) z1 0 rfl rfl).mono λx h' hx=>⟨hx.1,hx.2.1,λe=>by rw[hx.1] at e;cases e⟩
 |ok v=>
  rw[e] at hr;simp at hr;subst hr;refine CD rfl ?_;show Wp (sh (iq s 0 (i:Int)) _) h1 _;rw[ah,gM];refine⟨by omega,by omega,by omega,?_⟩;rw[aa1];unfold strings_TrimPrefix;rw[ah,ag];have ec:(⟨(Lib.trimPrefix (s.extract (0:Int).toNat i).data.toList (ofBytes [45]).data.toList).toArray⟩:ζ)=yI s i:=rfl;rw[ec];have hcs:(yI s i).size<=s.size:=by
   show (Lib.trimPrefix (s.extract 0 i).data.toList [45]).toArray.size<=_;have h1:=Lj (s.extract 0 i).data.toList [45];have h2:(s.extract 0 i).data.toList.length<=s.size:=DU s 0 i
   grind
  refine z1.dz [7] (by decide) (by simp) λkb h2 z2=>?_;have hfr:Gz h2 (kb+7):=z2.get 0 rfl;obtain⟨c0,hc0⟩:∃c0,s[0]?=some c0:=⟨s[0]'(by omega),by grind⟩;rw[ah,jW];refine⟨c0,by omega,hc0,?_⟩;refine z2.newAt 0 λh3 z3=>?_;have hk:kb+7<h3.next:=LB.lt (z3.get 0 rfl) z3.wf
  have hdl:(yH (yI s i)).length=(yI s i).size:=by unfold yH;rw[adQ];rfl
  refine Lp.k8 ((XV z3 (by omega) (by omega) hk).mono λx h4 hx=>?_);obtain⟨b2,rfl,hbk,z4⟩:=hx;have hk4:kb+7<h4.next:=LB.lt (z4.get 1 rfl) z4.wf
  rw[<-hdl];refine Lp.k8 ((aa8 z4 hbk hk4 (by omega) (by omega) _ v).mono λr h5 hr=>?_);obtain⟨r1,r2,z5,g,bl,hg,hg2,hg3⟩:=hr;have ha1:a1<h4.next:=LB.lt (z4.get 2 rfl) z4.wf
  have eneg:decide ((c0.toNat:Int)=45)=(s.data.toList.head?==some 45):=by
   rw[BM] at hc0;rw[aji,hc0];by_cases hq:c0=45
   .subst hq;rfl
   .have:¬((c0.toNat:Int)=45):=λe=>hq (UInt8.toNat_inj.1 (by grind))
    grind
  rw[eneg] at r1 r2 bl;obtain⟨neg,sl,ee⟩:=r;simp at r1 r2 bl;rw[show zV (s.data.toList.head?==some 45) (yH (yI s i)) v=numOf s i v from rfl] at r1 r2 bl;subst r1;subst r2;have hDl:(numOf s i v).2.1.length<=65536:=by
   grind [G5,yH,yI,numOf]
  have hDn:(numOf s i v).2.1.length<n:=by
   grind [G5,yH,yI,numOf]
  show Wp _ _ λ(x:(Bool×Sl×Int)×Bool) h'=>x.2=ahg (numOf s i v) s/\Fr (λ_=>False) h0 h'/\(x.2=true->Fb (numOf s i v) h' x.1);generalize numOf s i v=N at bl hDl hDn⊢;obtain⟨N1,N2,N3⟩:=N;refine z5.za 0 (cs':=[.bool N1,aI sl,vi N3]) (λh6 z6 f6=>?_);have bl:BL h6 sl N2 g:=wq.fr bl f6 λe=>absurd e hg;have hg6:g<=h6.next:=adr hg2 f6.next
  refine z6.iN 0 (x:=((N1,sl,N3):mD [.bool,.sl,li])) ?_;refine z6.iN 0 (x:=((N1,sl,N3):mD [.bool,.sl,li])) ?_;refine z6.Nw 0 (XY z6.wf bl) λr h7 hr f7 z7=>?_;subst hr;show Wp _ _ λ(x:(Bool×Sl×Int)×Bool) h'=>x.2=(decide (PU N2 N3=0)&&qE (XX N1 N2 N3) s)/\Fr (λ_=>False) h0 h'/\(x.2=true->Fb (N1,N2,N3) h' x.1);by_cases hl:PU N2 N3=0
  .rw[By (by simpa using hl)];refine z7.iN 0 (x:=((N1,sl,N3):mD [.bool,.sl,li])) ?_;refine z7.Nw 0 (abb z7.wf (bl.fr f7) (adr hg6 f7.next) hDl hDn (aiN hl)) λr h8 hr f8 z8=>?_
   subst hr;rw[decide_eq_true hl,ajj];exact (yx z8 1 rfl rfl).mono λx h' hx=>⟨hx.1,hx.2.1,λ_=>by
    obtain⟨_,_,e,f9⟩:=hx;rw[e];exact⟨rfl,rfl,hDl,g,adr hg6 (adr f7.next (adr f8.next f9.next)),wq.fr ((bl.fr f7).fr f8) f9 λe=>by omega⟩⟩
  .rw[AT (by simpa using hl)];rw[decide_eq_false hl,ai2];exact (yx z7 1 rfl rfl).mono λx h' hx=>⟨hx.1,hx.2.1,λe=>by rw[hx.1] at e;cases e⟩
 |_=>
  rw[e] at hr;refine CE hr ?_;rw[By (show (!false)=true from rfl)];exact (yx (s:=qQ) z1 0 rfl rfl).mono λx h' hx=>⟨hx.1,hx.2.1,λe=>by rw[hx.1] at e;cases e⟩
theorem uT {s n}(hs:s.size<=65536)(hn:s.size+1<n)(hw:WF h):Wp (nh n s) h λx h'=>x.2=G4 s/\Fr (λ_=>False) h h'/\(x.2=true->Fb (yy s) h' x.1):=by
  unfold nh;refine (Z.start hw).new λx0 h1 z1 f1=>?_;unfold strings_IndexByte;rw[ah,ag];rw[show (101:Int).toNat.toUInt8=(101:UInt8) from rfl];rcases ixb s.data.toList 101 with hneg|⟨i,hi,hc⟩
  .rw[By (by simpa using hneg),X2 hneg];exact (yx (s:=qQ) z1 0 rfl rfl).mono λx h' hx=>⟨hx.1,hx.2.1,λe=>by rw[hx.1] at e;cases e⟩
  .have hlt:i<s.size:=(List.getElem?_eq_some_iff.1 hc).1;rw[abc hi,hi,AT (by simp),ah,gM];refine⟨by omega,by omega,by omega,?_⟩;rw[aa1,show (0:Int).toNat=0 from rfl];have hes:=DU s 0 i;refine z1.call (xz (by omega) (by omega) z1.wf) λr h2 hr f2 z2=>?_;subst hr;cases hok:tk (s.extract 0 i) with
   |false=>
    rw[By (show (false=false) from rfl),By (show (!false)=true from rfl)];exact (yx (s:=qQ) z2 0 rfl rfl).mono λx h' hx=>⟨hx.1,hx.2.1,λe=>by rw[hx.1] at e;cases e⟩
   |true=>
    have hp:=Ur hok;have hip:0<i:=by
     have:(s.extract 0 i).size=min i s.size:=(by simp);omega
    rw[AT (show ¬(true=false) by decide),AT (show ¬((!true)=true) by decide),xG (by omega) (by omega)];by_cases h6:6<(s.size:Int)-(i:Int)
    .rw[By (by simpa using h6),By h6];exact (yx (s:=qQ) z2 0 rfl rfl).mono λx h' hx=>⟨hx.1,hx.2.1,λe=>by rw[hx.1] at e;cases e⟩
    .rw[AT (by simpa using h6),AT h6];refine (abd hs hn hlt hip z2).mono λx h' hx=>?_
     grind [yy,Int.toNat_natCast]
theorem DV {s n}(hs:s.size<=65536)(hn:s.size+1<n)(hw:WF h):Wp (po n s) h λx h'=>x=G4 s/\Fr (λ_=>False) h h':=by
 unfold po;rw[ah];refine (uT hs hn hw).mono λx h1 hx=>?_;have z1:=(Z.start hw).pure hx.2.1;refine z1.new λb h2 z2 f2=>?_;refine z2.st 0 (cs':=[.bool x.1.1,aI x.1.2.1,vi x.1.2.2]) λh3 z3=>?_;exact ag.2 ⟨hx.1,z3.fr⟩
end
end Go.Sh
