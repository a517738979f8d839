
import Derived.Test.YthcljaholofonaaGreatDoorPag
set_option linter.all false
namespace Go.Sh
open Go Go.Ago Go.Proofs
variable {α β:Type}{h h' h0:aj}{L R:List bA}{N N':List ao}{root v:Int}{φ:Int->Int}{x x':ao}{B:Nat}{Q:β->aj->Prop}
def KF:Nat:=7000
def mU.k0 (f:mU N):gK N.length 80<=KF:=by
 grind [f.len,Nat.mul_le_mul,gK,KF]
def mU.tot (f:mU N) root:∃r,xk KF N root=some r:=Tx f.bd.2.2 f.bd.1 (by omega) f.k0
noncomputable def gc (N:List ao)(root:Int):Int:=(xk KF N root).getD 3
def mU.gc (f:mU N) root:xk KF N root=some (gc N root):=by
 obtain⟨r,e⟩:=f.tot root;unfold Sh.gc;grind
def ow.last {u w}(h:ow N u w):u=w\/∃p,ow N u p/\Edge N p w:=by
 cases h with
 |refl=>grind
 |step r e=>grind
section
variable (d:Vd N root)
include d
theorem Vd.down {H:Int->Nat}(hH:∀u v,KN N v->Edge N u v->H v<H u){u w}(k:KN N u)(h:ow N u w):KN N w/\H w<=H u:=by
 induction h with
 |refl=>grind
 |step _ e ih=>exact⟨ih.1.step e,by have:=hH _ _ (ih.1.step e) e;omega⟩
theorem Vd.apart {i c c'}(e:Edge N i c)(e':Edge N i c')(k:KN N c)(k':KN N c')(hne:c≠c'){w}(h:ow N c w)(h':ow N c' w):False:=by
 obtain⟨H,_,hH⟩:=d.Yt;have loop:∀{c:Int},Edge N i c->KN N c->¬ow N c i:=λ{c} e k r=>by
  have h1:=hH i c k e;have h2:=(d.down hH k r).2;omega
 have one:∀{w p q:Int},KN N w->Edge N p w->Edge N q w->p=q:=λkw e1 e2=>(Oo (d.one _ kw) e2).2 _ e1
 induction h with
 |refl=>
  rcases h'.last with q|⟨p,r,q⟩
  .grind
  grind
 |step r ed ih=>
  rename_i p w;have kw:KN N w:=(d.down hH k (r.step ed)).1;rcases h'.last with q|⟨p',r',q⟩
  .grind
  grind
end
def wh {p q r}:∀(l:η),(∀i∈l,(p i=true->r i=true)/\(q i=true->r i=true)/\¬(p i=true/\q i=true))->l.countP p+l.countP q<=l.countP r
 |[],_=>by simp
 |i::l,h=>by
  have ih:=wh l λj hj=>h j (IN _ hj)
  grind
noncomputable def cR (N:List ao)(u:Int):Nat:=open Classical in (List.range N.length).countP λi:Nat=>decide (ow N u (i:Int))
def acZ:∀(L:ε),(L.Pairwise λc c'=>∀w,¬(ow N c w/\ow N c' w))->(L.map (cR N)).sum<=open Classical in (List.range N.length).countP λi:Nat=>decide (∃c∈L,ow N c (i:Int))
 |[],_=>by simp
 |c::L,h=>by
  rw[anJ] at h;have ih:=acZ L h.2;rw[adZ,aqN];refine ad5 (apX ih _) ?_;unfold cR;refine wh _ λi _=>?_
  grind
def agN (d:Vd N root){u}{x}(hx:gt N u=some x)(k:KN N u):((refs x).map (cR N)).sum+1<=cR N u:=by
 obtain⟨H,_,hH⟩:=d.Yt;have ed:∀c∈refs x,Edge N u c:=λc hc=>⟨x,hx,by grind [refs]⟩;have nd:(refs x).Nodup:=List.nodup_iff_count.2 λc=>by
  by_cases hc:c∈refs x
  .have h1:=d.one c (k.step (ed c hc));have h2:=Am (u:=c) (aE hx)
   grind
  grind
 have h1:=acZ (refs x) (nd.imp_of_mem λ{c c'} hc hc' hne w q=>d.apart (ed c hc) (ed c' hc') (k.step (ed c hc)) (k.step (ed c' hc')) hne q.1 q.2);have hu:=kF hx;have h2:(List.range N.length).countP (λi=>i==u.toNat)=1:=by
  have:=(anX (n:=N.length)).count (a:=u.toNat);rw[By (List.mem_range.2 (show u.toNat<N.length by have:=hu.1;have:=hu.2;omega))] at this;exact this
 rw[<-h2];refine ad5 (arp h1 _) ?_;unfold cR;refine wh _ λi _=>?_;simp only[ab8,beq_iff_eq];have e:i=u.toNat->(i:Int)=u:=λe=>by have:=hu.1;omega
 refine⟨λ⟨c,q1,q2⟩=>(ow.one (ed c q1)).trans q2,λq=>by rw[e q];exact .refl,λ⟨⟨c,q1,q2⟩,q3⟩=>?_⟩;rw[e q3] at q2;have a1:=hH u c (k.step (ed c q1)) (ed c q1);have a2:=(d.down hH (k.step (ed c q1)) q2).2;omega
theorem aiN u:cR N u<=N.length:=by
 grind [cR,Nat.le_trans,List.countP_le_length]
def mU.gv (f:mU N):Sh.gc N root=0->GV N root:=λh=>Tw f.bd.2.2 f.bd.1 (by omega) f.k0 (f.gc root) h
def mU.vdg (f:mU N)(h:Sh.gc N root=0):Vd N root:=Ys f.bd.2.2 f.bd.1 (by omega) f.k0 (by rw[f.gc root,h])
def mU.aoR (f:mU N)(h:Sh.gc N root=0):∃d a,Sh.dep KF N root=some (d,a)/\(a=true↔∀u v,Edge N u v->¬ow N v u):=by
 have d:=f.vdg h;have hk:=f.k0;obtain⟨dd,a,e,_,ha⟩:=aiF (k:=KF) d.ix d.rt f.bd.2.2 d.le f.bd.1 (λv hv=>let ⟨_,_,w⟩:=d.wk v hv;w.Yr) (by grind [gK,Nat.add_mul])
 grind
def ac0 (hI:qA N N.length)(ha:∀u v,Edge N u v->¬ow N v u){u v}(e:Edge N u v):cR N v<cR N u:=by
 obtain⟨x,hx,_⟩:=id e;have hu:=kF hx;have h2:(List.range N.length).countP (λi=>i==u.toNat)=1:=by
  have:=(anX (n:=N.length)).count (a:=u.toNat);rw[By (List.mem_range.2 (show u.toNat<N.length by have:=hu.1;have:=hu.2;omega))] at this;exact this
 have h3:cR N v+1<=cR N u:=by
  rw[<-h2];unfold cR;refine wh _ λi _=>?_;simp only[ab8,beq_iff_eq];have e1:i=u.toNat->(i:Int)=u:=λe=>by have:=hu.1;omega
  refine⟨λq=>(ow.one e).trans q,λq=>by rw[e1 q];exact .refl,λ⟨q,q3⟩=>?_⟩
  grind
 omega
def ac1 {s}{root}{N}(z:Z h0 h L)(G:iK h0 s N){B}(hB:Bd N B)(ht:∀x∈N,x.text.size<=65536){k n}(hn:k+4*B+65600<n)(hv:xk k N root=some 0){d}{a}(hd:dep k N root=some (d,a)) :
  Wp (zH n (s,root)) h λx h'=>x=(d,a)/\Z h0 h' L:=by
 unfold zH;refine z.new λx0 h1 z _=>?_;refine z.eZ 0 (ls:=[.sl,li]) (x:=(s,root)) ?_;rw[ah];refine (wU z G hB ht hn hv).mono λy h2 hy=>?_;obtain⟨rfl,z⟩:=hy;rw[AT (by simp)];refine z.eZ 0 (ls:=[.sl,li]) (x:=(s,root)) ?_;rw[ah];refine (QH z G hB (by omega) (by omega) hd).mono λy h3 hy=>?_;obtain⟨rfl,z⟩:=hy;rw[ag];exact⟨rfl,z.drop⟩
def ac2 {s}{root}{N}(z:Z h0 h L)(G:iK h0 s N){B}(hB:Bd N B)(ht:∀x∈N,x.text.size<=65536){k n}(hn:k+4*B+65600<n){r0}(hv:xk k N root=some r0){d}{a}(hd:r0=0->dep k N root=some (d,a)) :
  Wp (sZ n (s,root)) h λx h'=>x=(if r0≠0 then 3 else if a then 0 else 14)/\Z h0 h' L:=by
 unfold sZ;refine z.new λx0 h1 z _=>?_;refine z.eZ 0 (ls:=[.sl,li]) (x:=(s,root)) ?_;rw[ah];refine (wU z G hB ht hn hv).mono λy h2 hy=>?_;obtain⟨rfl,z⟩:=hy;by_cases h0':y=0
 .subst h0';rw[AT (by simp),AT (by simp)];refine z.eZ 0 (ls:=[.sl,li]) (x:=(s,root)) ?_;rw[ah];refine (ac1 z G hB ht hn hv (hd rfl)).mono λy h3 hy=>?_;obtain⟨rfl,z⟩:=hy;cases a
  .exact ag.2 ⟨rfl,z.drop⟩
  .exact ag.2 ⟨rfl,z.drop⟩
 .rw[By (by grind),By h0'];exact ag.2 ⟨rfl,z.drop⟩
end Go.Sh
namespace Go.Ago
open Go
variable {α β:Type}{h h' h0:aj}{L:List bA}
def Z.amL (z:Z h0 h L)(i:Nat){b0 sz n}{e}{new}{f:Sl->M β}{Q}(hi:L[i]?=some (.au b0 [] e))(hn:n≠0)(hl:new.length=n*sz)(hb:n<=bJ)
  (q:∀b' h',Z h0 h' (.au b' new e::L)->Wp (f ⟨some ⟨b',0,none⟩,n,0⟩) h' Q):Wp (sh (Ago.app false ⟨some ⟨b0,0,none⟩,0,1⟩ sz e n new) f) h Q:=by
 rw[ah];have l:LB h b0 [] e:=z.get i hi;refine⟨⟨some ⟨h.next,0,none⟩,n,0⟩,h.new e new,?_,q h.next _ (z.add (Fr.new z.wf) LB.new (.inr (IT _)))⟩
 unfold Ago.app zO;simp only[aqE,ad6,ap3];rw[AT hn,AT (by grind)];simp[aX,l.get];omega
theorem Z.EU (z:Z h0 h L)(i:Nat){b o n c sz}{e}{cs}{f:δ->M β}{Q}(hi:L[i]?=some (.au b cs e))(ho:o+n*sz<=cs.length)
  (q:Wp (f ((cs.drop o).take (n*sz))) h Q):Wp (sh (EU ⟨some ⟨b,o,none⟩,n,c⟩ sz) f) h Q:=by
 rw[ah];have l:LB h b cs e:=z.get i hi;exact ZQ (.inr ⟨_,by simp[aX,l.get];exact ho,q⟩)
end Go.Ago
namespace Go.Sh
open Go Go.Ago Go.Proofs
variable {α β:Type}{h h' h0:aj}{L:List bA}{Q:β->aj->Prop}
def ixO {b o n cap:Nat}{k}{sz}(h1:0<=k)(h2:k<(n:Int)){f}(q:Wp (f ⟨b,o+k.toNat*sz,none⟩) h Q):Wp (sh (ni ⟨some ⟨b,o,none⟩,n,cap⟩ k sz) f) h Q:=by
 rw[ah,ta];exact⟨_,rfl,h1,h2,q⟩
def Vn {out:ε}{i}{v}{res}(hi:i<out.length):(out.set i v).take (i+1)++res=out.take i++v::res:=by
 rw[List.take_add_one,ajo hi,List.take_set_of_le (acX _)];simp
section
variable {V:Int->Prop}{f:ξ}{K:Nat}
def aoS (hless:∀{n:Nat} {h:aj} {P:List bA} {x y:Int},K<=n->V x->V y->Z h0 h (P++L)->Wp (qw n f x y) h λb h'=>Z h0 h' (P++L)){bl br b m c0}{ls rs:ε}(hm:m<1073741824)(hl:∀x∈ls,V x)(hr:∀x∈rs,V x){P} :
  ∀n i p q (out:ε) h c2 c3 ,m-i+K<n->i<=m->p<=ls.length->q<=rs.length->out.length=m->m-i=(ls.length-p)+(rs.length-q) ->
   Z h0 h (.au b (out.map vi) an::.au bl (ls.map vi) an::.au br (rs.map vi) an::(P++L)) ->
   Wp (ko n ⟨some ⟨b,0,none⟩,m,c0⟩ f ⟨some ⟨bl,p,none⟩,ls.length-p,c2⟩ ⟨some ⟨br,q,none⟩,rs.length-q,c3⟩ (m:Int) (i:Int)) h λ_ h'=>∃res:ε,res.Perm (ls.drop p++rs.drop q) /\
    Z h0 h' (.au b ((out.take i++res).map vi) an::.au bl (ls.map vi) an::.au br (rs.map vi) an::(P++L)):=by
 intro n
 induction n with
 |zero=>intro i p q out h c2 c3 h1;omega
 |succ n ih=>
  intro i p q out h c2 c3 h1 h2 hp hq ho hv z;rw[EA];unfold wb;by_cases hi:i<m
  .rw[By (by grind)];have J1:∀{h:aj} (x:Int),ls[p]?=some x->Z h0 h (.au b (out.map vi) an::.au bl (ls.map vi) an::.au br (rs.map vi) an::(P++L)) ->
     Wp (lu (bN.at n) n ⟨some ⟨b,0,none⟩,m,c0⟩ f ⟨some ⟨bl,p,none⟩,ls.length-p,c2⟩ ⟨some ⟨br,q,none⟩,rs.length-q,c3⟩ (i:Int) (m:Int) (i:Int)) h λ_ h'=>∃res:ε,res.Perm (ls.drop p++rs.drop q) /\
      Z h0 h' (.au b ((out.take i++res).map vi) an::.au bl (ls.map vi) an::.au br (rs.map vi) an::(P++L)):=by
    intro h x hx z;have hlt:=aN hx;unfold lu;refine ixO (by omega) (by omega) ?_;refine z.ld 1 ?_ rfl (by show (ls.map vi)[p+0*1]?=_;rw[ap3,amh,abt,hx];rfl) rfl;refine ixO (by omega) (by omega) ?_;rw[ah];refine rV (by decide) (by grind) (by grind) (by have l:LB h bl _ _:=z.get 1 rfl;simp[mM,l.get]) ?_;have e0:(0+(i:Int).toNat*1)=i:=(by omega);rw[e0];refine z.ajj 0 (xs:=out) (by omega) (λa ha=>?_) λh3 z=>?_
    .simp at ha;subst ha;exact z.nbO 0 1 rfl rfl (by omega)
    rw[pA h2 (by omega)];refine (ih (i+1) (p+1) q (out.set i x) h3 (c2-if c2=0 then 0 else (1:Int).toNat) c3 (by omega) (by omega) (by omega) hq (by grind) (by omega) z).mono λ_ h4 hy=>?_;obtain⟨res,hp2,z⟩:=hy;rw[Vn (by omega)] at z;exact⟨x::res,by rw[drop_cons hx,ad0];grind,z⟩
   have J0:∀{h:aj} (x:Int),rs[q]?=some x->Z h0 h (.au b (out.map vi) an::.au bl (ls.map vi) an::.au br (rs.map vi) an::(P++L)) ->
     Wp (lv (bN.at n) n ⟨some ⟨b,0,none⟩,m,c0⟩ f ⟨some ⟨bl,p,none⟩,ls.length-p,c2⟩ ⟨some ⟨br,q,none⟩,rs.length-q,c3⟩ (i:Int) (m:Int) (i:Int)) h λ_ h'=>∃res:ε,res.Perm (ls.drop p++rs.drop q) /\
      Z h0 h' (.au b ((out.take i++res).map vi) an::.au bl (ls.map vi) an::.au br (rs.map vi) an::(P++L)):=by
    intro h x hx z;have hlt:=aN hx;unfold lv;refine ixO (by omega) (by omega) ?_;refine z.ld 2 ?_ rfl (by show (rs.map vi)[q+0*1]?=_;rw[ap3,amh,abt,hx];rfl) rfl;refine ixO (by omega) (by omega) ?_;rw[ah];refine rV (by decide) (by grind) (by grind) (by have l:LB h br _ _:=z.get 2 rfl;simp[mM,l.get]) ?_;have e0:(0+(i:Int).toNat*1)=i:=(by omega);rw[e0];refine z.ajj 0 (xs:=out) (by omega) (λa ha=>?_) λh3 z=>?_
    .simp at ha;subst ha;exact z.nbO 0 2 rfl rfl (by omega)
    rw[pA h2 (by omega)];refine (ih (i+1) p (q+1) (out.set i x) h3 c2 (c3-if c3=0 then 0 else (1:Int).toNat) (by omega) (by omega) hp (by omega) (by grind) (by omega) z).mono λ_ h4 hy=>?_;obtain⟨res,hp2,z⟩:=hy;rw[Vn (by omega)] at z;exact⟨x::res,by rw[drop_cons hx];exact (hp2.cons x).trans List.perm_middle.symm,z⟩
   by_cases c1:q=rs.length
   .rw[By (by grind)];obtain⟨x,hx⟩:=cG (l:=ls) (i:=p) (by omega);exact J1 x hx z
   .rw[AT (by grind)];obtain⟨y,hy⟩:=cG (l:=rs) (i:=q) (by omega);by_cases c2':p<ls.length
    .rw[By (by grind)];obtain⟨x,hx⟩:=cG c2';refine ixO (by omega) (by omega) (ixO (by omega) (by omega) ?_);refine z.ld 2 ?_ rfl (by show (rs.map vi)[q+0*1]?=_;rw[ap3,amh,abt,hy];rfl) rfl;refine z.ld 1 ?_ rfl (by show (ls.map vi)[p+0*1]?=_;rw[ap3,amh,abt,hx];rfl) rfl;rw[ah];refine (hless (P:=_::_::_::P) (by omega) (hr y (BY hy)) (hl x (BY hx)) z).mono λb' h3 z=>?_;cases b' with
     |true=>
      rw[AT (by simp)];exact J0 y hy z
     |false=>
      rw[By (by rfl)];exact J1 x hx z
    .rw[AT (by grind)];exact J0 y hy z
  .rw[AT (by grind),ag];have:out.take i=out:=apx (by omega);refine⟨[],?_,by grind⟩;rw[aco (by omega),aco (by omega)]
   grind
def ac3 (hless:∀{n:Nat} {h:aj} {P:List bA} {x y:Int},K<=n->V x->V y->Z h0 h (P++L)->Wp (qw n f x y) h λb h'=>Z h0 h' (P++L)) :
  ∀k n xs b c0 h P ,xs.length<k->xs.length<1073741824->xs.length+K+k+2<n->(∀x∈xs,V x)->Z h0 h (.au b (xs.map vi) an::(P++L)) ->
   Wp (pE n ⟨some ⟨b,0,none⟩,xs.length,c0⟩ f) h λ_ h'=>∃r:ε,r.Perm xs/\Z h0 h' (.au b (r.map vi) an::(P++L)):=by
 intro k
 induction k with
 |zero=>intro n xs b c0 h P hk;omega
 |succ k ih=>
  intro n xs b c0 h P hk hB hn hv z;obtain⟨n,rfl⟩:∃m,n=m+1:=⟨n-1,by omega⟩;rw[HD];unfold Al;by_cases c1:xs.length<2
  .rw[By (by grind),ag];grind
  rw[AT (by grind)];have hmid:IntKind.i64.wrap (((xs.length:Nat):Int).tdiv 2)=((xs.length/2:Nat):Int):=by
   have:((xs.length:Nat):Int).tdiv 2=((xs.length/2:Nat):Int):=rfl;rw[this];exact IntWalk.i64_in _ ⟨by omega,by omega⟩
  simp only[hmid];have hck:∀{γ:Type} {g:Unit->M γ} {h:aj} {R:γ->aj->Prop},Wp (g ()) h R->Wp (sh (qT (decide ((2:Int)≠0))) g) h R:=λq=>by
   rw[ah];exact⟨(),_,rfl,q⟩
  refine z.new λb0 h1 z _=>hck ?_;rw[ah];refine rV (by decide) (by omega) (by grind) (by have l:LB h1 b _ _:=z.get 1 rfl;simp[mM,l.get]) ?_;refine z.EU 1 (o:=0) (n:=xs.length/2) rfl (by grind) ?_;refine z.amL 0 rfl (by grind) (by grind) (by grind [bJ]) λbl h2 z=>?_;refine z.new λb5 h3 z _=>hck ?_;rw[ah];refine rV (by omega) (by omega) (by grind) (by have l:LB h3 b _ _:=z.get 3 rfl;simp[mM,l.get]) ?_;have e5:(0+((xs.length/2:Nat):Int).toNat*1)=xs.length/2:=by omega
  refine z.EU 3 (o:=0+((xs.length/2:Nat):Int).toNat*1) (n:=xs.length-xs.length/2) rfl (by grind) ?_;refine z.amL 0 rfl (by grind) (by grind) (by grind [bJ]) λbr h4 z=>?_;rw[e5] at z;have ez1:((xs.map vi).drop 0).take (xs.length/2*1)=(xs.take (xs.length/2)).map vi:=by simp_all
  have ez2:((xs.map vi).drop (xs.length/2)).take ((xs.length-xs.length/2)*1)=(xs.drop (xs.length/2)).map vi:=by grind [List.map_drop,List.take_of_length_le]
  rw[ez2] at z;have z:Z h0 h4 (.au br ((xs.drop (xs.length/2)).map vi) an::.au b5 [] an::.au bl ((xs.take (xs.length/2)).map vi) an::.au b0 [] an::.au b (xs.map vi) an::(P++L)):=by
   grind
  have z:=Z.iH (pre:=[_,_,_,_,_]) z [2,0,4,1,3] (by grind);have l1:(xs.take (xs.length/2)).length=xs.length/2:=by rw[anH];omega
  have l2:(xs.drop (xs.length/2)).length=xs.length-xs.length/2:=by grind
  rw[ah];have i1:=ih n (xs.take (xs.length/2)) bl 0 h4 (_::_::_::_::P) (by omega) (by omega) (by omega) (λx hx=>hv x (arq hx)) z;rw[l1] at i1;refine i1.mono λ_ h5 hy=>?_;obtain⟨as',pa,z⟩:=hy;have z:=Z.iH (pre:=[_,_,_,_,_]) z [1,0,2,3,4] (by simp only[acg,agy];decide);rw[ah];have i2:=ih n (xs.drop (xs.length/2)) br 0 h5 (_::_::_::_::P) (by omega) (by omega) (by omega) (λx hx=>hv x (ars hx)) z;rw[l2] at i2;refine i2.mono λ_ h6 hy=>?_;obtain⟨bs,pb,z⟩:=hy;have hal:=pa.length_eq;have hbl:=pb.length_eq;rw[l1] at hal;rw[l2] at hbl;have z:=Z.iH (pre:=[_,_,_,_,_]) z [2,1,0,3,4] (by simp only[acg,agy];decide);rw[ah];have i3:=aoS hless (c0:=c0) hB (λx hx=>hv x (arq (pa.mem_iff.1 hx))) (λx hx=>hv x (ars (pb.mem_iff.1 hx))) (P:=_::_::P) n 0 0 0 xs h6 0 0 (by omega) (by omega) (by omega) (by omega) rfl (by omega) z;rw[hal,hbl,aqS,aqS] at i3;refine i3.mono λ_ h7 hy=>?_;obtain⟨res,pr,z⟩:=hy;rw[ag];have z:=Z.iH (pre:=[_,_,_,_,_]) z [3,4,1,2,0] (by simp only[acg,agy];decide);refine⟨res,?_,z.drop.drop.drop.drop⟩;rw[alZ,alZ] at pr;have:=pr.trans (pa.append pb)
  rwa [apB] at this
end
end Go.Sh
namespace Go.Sh
open Go Go.Ago Go.Proofs
variable {α β:Type}{h h' h0:aj}{L L2 R M:List bA}{N N2:List ao}{root:Int}{B:Nat}{Q:β->aj->Prop}
def aqj (fn:ξ->Option ξ):Prop:=∀v w,fn v=some w->∃c:Int,w=vi c
def MO:μ->List bA->Prop
 |none,M=>M=[]
 |some mm,M=>∃fn k,M=[.map mm yd fn k]/\aqj fn
def PQ (h0:aj)(t:Y4)(N:List ao)(t2:Y4)(N2:List ao)(mo:μ)(R L L2:List bA)(h':aj):Prop:=
 ∃M' L' L2',MO mo M'/\sK t N L'/\Ext L L'/\sK t2 N2 L2'/\Ext L2 L2'/\Z h0 h' (M'++(R++(L'++L2')))
theorem PQ.of {t t2}{mo}(hM:MO mo M)(T:sK t N L)(T2:sK t2 N2 L2)(z:Z h0 h (M++(R++(L++L2)))):PQ h0 t N t2 N2 mo R L L2 h:=⟨M,L,L2,hM,T,.refl,T2,.refl,z⟩
def PQ.up {t t2}{mo}{K K2}(e:Ext L K)(e2:Ext L2 K2)(p:PQ h0 t N t2 N2 mo R K K2 h):PQ h0 t N t2 N2 mo R L L2 h:=by
 obtain⟨M',L',L2',a,b,c,d,f,z⟩:=p;exact⟨M',L',L2',a,b,e.trans c,d,e2.trans f,z⟩
def CmQ (h0:aj)(t:Y4)(N:List ao)(t2:Y4)(N2:List ao)(mo:μ)(fc:Nat)(i j:Int):Prop:=
 ∀(n:Nat) (h:aj) (M R L L2:List bA),fc<=n->MO mo M->sK t N L->sK t2 N2 L2->Z h0 h (M++(R++(L++L2))) ->
  Wp ((cl n).iB (some (ak t.tb)) i (some (ak t2.tb)) j mo) h λ_ h'=>PQ h0 t N t2 N2 mo R L L2 h'
def CmQ.key {t t2}{mo}{fc}{i j}(c:CmQ h0 t N t2 N2 none fc i j){n}(hn:fc<=n)(hM:MO mo M)(T:sK t N L)(T2:sK t2 N2 L2)(z:Z h0 h (M++(R++(L++L2)))) :
  Wp ((cl n).iB (some (ak t.tb)) i (some (ak t2.tb)) j none) h λ_ h'=>PQ h0 t N t2 N2 mo R L L2 h':=by
 refine (c n h [] (M++R) L L2 hn rfl T T2 (by grind)).mono λ_ h' p=>?_;obtain⟨M',L',L2',rfl,b,c,d,f,z⟩:=p;exact⟨M,L',L2',hM,b,c,d,f,by grind⟩
section
variable {t t2:Y4}{mo:μ}{fc:Nat}{x y:ao}
def amM {a a'}{ks is ks' is'}(nd:Ji h0 a x ks is)(nd':Ji h0 a' y ks' is'){bp bq}{p q:ε}
  (hp:∀u∈p,0<=u/\u<x.items.length/\(x.kind=10->u<x.keys.length)) (hq:∀u∈q,0<=u/\u<y.items.length/\(x.kind=10->u<y.keys.length)) (hbig:p.length<1073741824)
  (hk:∀u∈x.keys,∀v∈y.keys,CmQ h0 t N t2 N2 none fc u v) (hc:∀u∈x.items,∀v∈y.items,CmQ h0 t N t2 N2 mo fc u v):∀n i h M R L L2 ,fc+(min p.length q.length-i)+1<=n->i<=min p.length q.length->bA.au bp (p.map vi) an∈L->bA.au bq (q.map vi) an∈L2->MO mo M->sK t N L->sK t2 N2 L2->Z h0 h (M++(R++(L++L2))) ->
  Wp ((cl n).jh (some (ak t.tb)) (some (ak t2.tb)) mo (some a) (some a') (arr bp p.length) (arr bq q.length) ((min p.length q.length:Nat):Int) (i:Int)) h λ_ h'=>PQ h0 t N t2 N2 mo R L L2 h':=by
 intro n
 induction n with
 |zero=>intro i h M R L L2 h1;omega
 |succ n ih=>
  intro i h M R L L2 h1 h2 mp mq hM T T2 z;show Wp (nJ (cl n) n (some (ak t.tb)) (some (ak t2.tb)) mo (some a) (some a') (arr bp p.length) (arr bq q.length) ((min p.length q.length:Nat):Int) (i:Int)) h _;unfold nJ;by_cases hi:i<min p.length q.length
  .rw[By (by grind)];obtain⟨u,hu⟩:=lQ (l:=p) (v:=(i:Int)) (by omega) (by omega);obtain⟨v,hv⟩:=lQ (l:=q) (v:=(i:Int)) (by omega) (by omega);obtain⟨u1,u2,u3⟩:=hp u (aE hu);obtain⟨v1,v2,v3⟩:=hq v (aE hv);obtain⟨iu,hiu⟩:=lQ u1 u2;obtain⟨iv,hiv⟩:=lQ v1 v2;have mL:∀{M R L L2:List bA} {o:bA},o∈L->o∈M++(R++(L++L2)):=λh=>adr _ (adr _ (aeo _ h));have mL2:∀{M R L L2:List bA} {o:bA},o∈L2->o∈M++(R++(L++L2)):=λh=>adr _ (adr _ (adr _ h));have J0:∀(h:aj) (M L L2:List bA),bA.au bp (p.map vi) an∈L->bA.au bq (q.map vi) an∈L2->MO mo M->sK t N L->sK t2 N2 L2->Z h0 h (M++(R++(L++L2))) ->
     Wp (fO (cl n) n (some (ak t.tb)) (some (ak t2.tb)) mo (some a) (some a') (arr bp p.length) (arr bq q.length) (i:Int) ((min p.length q.length:Nat):Int) (i:Int)) h λ_ h'=>PQ h0 t N t2 N2 mo R L L2 h':=by
    intro h M L L2 mp mq hM T T2 z;unfold fO;refine aP (ze (by omega) (by omega) (aP (ze (by omega) (by omega) ?_)));have ndz:=nd.fr z.fr;have ndz':=nd'.fr z.fr;refine ndz.Hh ?_;refine z.Lk (mL mp) (DP hu) rfl ?_;refine ndz.items.ix u1 (ax hiu).2 λ_ _ c1=>c1.mN (l:=li) rfl rfl ?_;refine ndz'.Hh ?_;refine z.Lk (mL2 mq) (DP hv) rfl ?_;refine ndz'.items.ix v1 (ax hiv).2 λ_ _ c1=>c1.mN (l:=li) rfl rfl ?_;rw[ah];refine (hc iu (aE hiu) iv (aE hiv) n h M R L L2 (by omega) hM T T2 z).mono λr h' hr=>?_;by_cases h0':r=0
    .rw[AT (by grind)];obtain⟨M',L',L2',hM',T',E',T2',E2',z'⟩:=hr;rw[pA (by omega) hbig];exact (ih (i+1) h' M' R L' L2' (by omega) (by omega) (E' _ _ mp) (E2' _ _ mq) hM' T' T2' z').mono λ_ h2 hr=>hr.up E' E2'
    .rw[By (by grind)];exact ag.2 hr
   refine aP ?_;refine (nd.fr z.fr).Sa ?_;by_cases hkk:x.kind=10
   .rw[By (by grind)];refine aP (ze (by omega) (by omega) (aP (ze (by omega) (by omega) ?_)));have ndz:=nd.fr z.fr;have ndz':=nd'.fr z.fr;obtain⟨ku,hku⟩:=lQ u1 (u3 hkk);obtain⟨kv,hkv⟩:=lQ v1 (v3 hkk);refine ndz.Fj ?_;refine z.Lk (mL mp) (DP hu) rfl ?_;refine ndz.keys.ix u1 (ax hku).2 λ_ _ c1=>c1.mN (l:=li) rfl rfl ?_;refine ndz'.Fj ?_;refine z.Lk (mL2 mq) (DP hv) rfl ?_;refine ndz'.keys.ix v1 (ax hkv).2 λ_ _ c1=>c1.mN (l:=li) rfl rfl ?_;rw[ah];refine ((hk ku (aE hku) kv (aE hkv)).key (by omega) hM T T2 z).mono λr h' hr=>?_;by_cases h0':r=0
    .rw[AT (by grind)];obtain⟨M',L',L2',hM',T',E',T2',E2',z'⟩:=hr;exact (J0 h' M' L' L2' (E' _ _ mp) (E2' _ _ mq) hM' T' T2' z').mono λ_ h2 hr=>hr.up E' E2'
    .rw[By (by grind)];exact ag.2 hr
   .rw[AT (by grind)];exact J0 h M L L2 mp mq hM T T2 z
  .rw[AT (by grind)];exact ag.2 (.of hM T T2 z)
def aqk {fe}{k}{m}(e:HU h0 t N fe k m){n}(hn:fe<=n)(T:sK t N L)(z:Z h0 h (M++(R++(L++L2)))) :
  Wp ((cl n).eW (some (ak t.tb)) k) h λr h'=>∃b L',r=arr b m/\bA.au b ((qR N k).map vi) an∈L'/\sK t N L'/\Ext L L'/\Z h0 h' (M++(R++(L'++L2))):=by
 have pm:∀X:List bA,(M++(R++(X++L2))).Perm ((M++(R++L2))++X):=λX=>by
  grind [List.append_assoc,List.Perm.append_left,List.perm_append_comm]
 refine (e n h (M++(R++L2)) L hn T (z.perm (pm L))).mono λr h' hr=>?_;obtain⟨b,L',a1,a2,a3,a4,z⟩:=hr;exact⟨b,L',a1,a2,a3,a4,z.perm (pm L').symm⟩
def aoT {fe}{k}{m}(e:HU h0 t2 N2 fe k m){n}(hn:fe<=n)(T:sK t2 N2 L2)(z:Z h0 h (M++(R++(L++L2)))) :
  Wp ((cl n).eW (some (ak t2.tb)) k) h λr h'=>∃b L',r=arr b m/\bA.au b ((qR N2 k).map vi) an∈L'/\sK t2 N2 L'/\Ext L2 L'/\Z h0 h' (M++(R++(L++L'))):=by
 have pm:∀X:List bA,(M++(R++(L++X)))=((M++(R++L))++X):=λX=>by simp
 rw[pm] at z;refine (e n h (M++(R++L)) L2 hn T z).mono λr h' hr=>?_
 grind
def amN (G:iK h0 t.s N)(G2:iK h0 t2.s N2)(hB:Bd N B)(hB2:Bd N2 B)(ht:∀x∈N,x.text.size<=65536)(ht2:∀x∈N2,x.text.size<=65536)(hm:∀x∈N,x.kind=10->x.keys.length=x.items.length)(hm2:∀x∈N2,x.kind=10->x.keys.length=x.items.length)
  {fe} {i j} (hx:gt N i=some x) (hy:gt N2 j=some y) (hfe:65600<=fe) (hfc:fc+B<=fe) (ei:HU h0 t N fe i x.items.length) (ej:HU h0 t2 N2 fe j y.items.length)
  (hk:∀u∈x.keys,∀v∈y.keys,CmQ h0 t N t2 N2 none fc u v) (hc:∀u∈x.items,∀v∈y.items,CmQ h0 t N t2 N2 mo fc u v):CmQ h0 t N t2 N2 mo (fe+10) i j:=by
 intro n h M R L L2 hn hM T T2 z;have hBB:=hB.2.1;obtain⟨n,rfl⟩:∃n',n=n'+2:=⟨n-2,by omega⟩;show Wp (qv (cl (n+1)) (n+1) (some (ak t.tb)) i (some (ak t2.tb)) j mo) h _;unfold qv;have main:∀{h:aj} {M:List bA},MO mo M->Z h0 h (M++(R++(L++L2)))->Wp (rM (cl n) n (some (ak t.tb)) i (some (ak t2.tb)) j mo) h λ_ h'=>PQ h0 t N t2 N2 mo R L L2 h':=by
  intro h M hM z;have fin:PQ h0 t N t2 N2 mo R L L2 h:=.of hM T T2 z;unfold rM;obtain⟨C,TC⟩:=id T;obtain⟨C2,TC2⟩:=id T2;refine aP (aP ?_);refine z.Lk (x:=t.s) (adr _ (adr _ (aeo _ TC.MW))) rfl rfl ?_;refine G.Wf z (ax hx).1 (ax hx).2 λa ks is nd=>?_;refine z.Lk (x:=t2.s) (adr _ (adr _ (adr _ TC2.MW))) rfl rfl ?_;refine G2.Wf z (ax hy).1 (ax hy).2 λa' ks' is' nd'=>?_;have ndz:=nd.fr z.fr;have ndz':=nd'.fr z.fr;refine aP (aP (ndz.Sa (ndz'.Sa ?_)));by_cases c1:x.kind<y.kind
  .rw[By (by grind)];exact ag.2 fin
  rw[AT (by grind)];refine aP (aP (ndz.Sa (ndz'.Sa ?_)));by_cases c2:y.kind<x.kind
  .rw[By (by grind)];exact ag.2 fin
  rw[AT (by grind)];have hkd:x.kind=y.kind:=by omega
  refine aP (aP (ndz.ldO (ndz'.ldO ?_)));by_cases c3:x.ord=y.ord
  .rw[AT (by grind)];refine aP (aP (aP (ndz.Sa (ndz.O0 (ndz'.O0 ?_)))));have hsx:=ht x (aE hx);have hsy:=ht2 y (aE hy);refine z.call (QR hsx hsy (by omega) z.wf) λr h1 hr f1 z1=>?_;by_cases c4:r=0
   .rw[AT (by grind)];rw[ah];refine (aqk ei (by omega) T z1).mono λr h2 hr=>?_;obtain⟨bp,L1,rfl,mp,T1,E1,z2⟩:=hr;rw[ah];refine (aoT ej (by omega) T2 z2).mono λr h3 hr=>?_;obtain⟨bq,L3,rfl,mq,T3,E3,z3⟩:=hr;have lp:=AM hx;have lq:=AM hy;have hbx:=(hB.2.2 x (aE hx)).2;have hby:=(hB2.2.2 y (aE hy)).2;have em:(if ((arr bq y.items.length).len:Int)<((arr bp x.items.length).len:Int) then ((arr bq y.items.length).len:Int) else ((arr bp x.items.length).len:Int))=((min (qR N i).length (qR N2 j).length:Nat):Int):=by
     rw[lp,lq];show (if (y.items.length:Int)<(x.items.length:Int) then (y.items.length:Int) else (x.items.length:Int))=_
     grind
    rw[em];rw[ah];have ox:qR N i=BR (tY N) x:=(by grind [qR]);have oy:qR N2 j=BR (tY N2) y:=(by grind [qR]);have key:=amM nd nd' (λu hu=>by
      rw[ox] at hu;have:=s6 hu
      grind [aE]) (λu hu=>by
      rw[oy] at hu;have:=s6 hu
      grind [aE]) (by omega) hk hc n 0 h3 M R L1 L3 (by omega) (by omega) mp mq hM T1 T3 z3
    rw[lp,lq] at key;rw[lp,lq];refine key.mono λr h4 hr=>?_;have hr:=hr.up E1 E3;cases r with
    |inr c=>exact ag.2 hr
    |inl _=>
     show Wp (if decide ((x.items.length:Int)<(y.items.length:Int))=true then Ago.AI (-1) else if decide ((y.items.length:Int)<(x.items.length:Int))=true then Ago.AI 1 else Ago.AI 0) h4 _;split
     .exact ag.2 hr
     .split<;>exact ag.2 hr
   .rw[By (by grind)];exact ag.2 (.of hM T T2 z1)
  .rw[By (by grind)];refine aP (ndz'.ldO ?_);cases y.ord<;>exact ag.2 fin
 cases mo with
 |none=>
  rw[ah];refine⟨((false,0):Bool×Int),h,rfl,?_⟩;show Wp (Ago.sh ((cl (n+1)).p9 (some (ak t.tb)) i (some (ak t2.tb)) j none) _) h _;rw[ah];exact (main hM z).mono λr h' hr=>ag.2 hr
 |some mm=>
  obtain⟨fn,k,rfl,hI⟩:=hM;refine z.kX 0 rfl (λv hv=>?_) λ_=>?_
  .obtain⟨c,rfl⟩:=hI _ _ hv;exact⟨c,rfl,ag.2 (.of ⟨fn,k,rfl,hI⟩ T T2 z)⟩
  .show Wp (Ago.sh ((cl (n+1)).p9 (some (ak t.tb)) i (some (ak t2.tb)) j (some mm)) _) h _;rw[ah];refine (main ⟨fn,k,rfl,hI⟩ z).mono λr h' hr=>?_;obtain⟨M',L',L2',⟨fn',k',rfl,hI'⟩,T',E',T2',E2',z'⟩:=hr;rw[By (by rfl)];refine z'.qH 0 rfl λh2 n2 z2=>ag.2 ⟨_,L',L2',⟨_,_,rfl,λv w hvw=>?_⟩,T',E',T2',E2',z2⟩;unfold Fc at hvw;split at hvw
   .grind
   .exact hI' _ _ hvw
end
def Ja (fe B f:Nat):Nat:=fe+f*(B+20)+20
def agO {t t2}(G:iK h0 t.s N)(G2:iK h0 t2.s N2)(hB:Bd N B)(hB2:Bd N2 B)(ht:∀x∈N,x.text.size<=65536)(ht2:∀x∈N2,x.text.size<=65536)(hm:∀x∈N,x.kind=10->x.keys.length=x.items.length)(hm2:∀x∈N2,x.kind=10->x.keys.length=x.items.length)
  (hI:qA N N.length) (hI2:qA N2 N2.length) {fe} (hfe:65600<=fe) (ei:∀i x,gt N i=some x->HU h0 t N fe i x.items.length) (ej:∀i x,gt N2 i=some x->HU h0 t2 N2 fe i x.items.length) {H:Int->Nat} (hH:∀u v,Edge N u v->H v<H u) :
  ∀f mo i j ,IR N.length i->IR N2.length j->H i<f->CmQ h0 t N t2 N2 mo (Ja fe B f) i j:=by
 intro f
 induction f with
 |zero=>grind
 |succ f ih=>
  intro mo i j hi hj hf;obtain⟨x,hx⟩:=mK rfl hi;obtain⟨y,hy⟩:=mK rfl hj;have h1:Ja fe B f+B<=Ja fe B f+B+10:=by omega
  have e:Ja fe B (f+1)=(Ja fe B f+B+10)+10:=by grind [Ja,Nat.add_mul]
  have hle:fe<=Ja fe B f+B+10:=by grind [Ja]
  rw[e];have mono:∀{t:Y4} {N:List ao} {k:Int} {m:Nat},HU h0 t N fe k m->HU h0 t N (Ja fe B f+B+10) k m:=λe n h R L hn=>e n h R L (by omega);refine amN G G2 hB hB2 ht ht2 hm hm2 hx hy (by omega) (by omega) (mono (ei i x hx)) (mono (ej j y hy)) (λu hu v hv=>?_) λu hu v hv=>?_
  .exact ih none u v ((hI x (aE hx)).1 u hu) ((hI2 y (aE hy)).1 v hv) (by have:=hH i u ⟨x,hx,.inl hu⟩;omega)
  .exact ih mo u v ((hI x (aE hx)).2 u hu) ((hI2 y (aE hy)).2 v hv) (by have:=hH i u ⟨x,hx,.inr hu⟩;omega)
end Go.Sh
namespace Go.Sh
open Go Go.Ago Go.Proofs
variable {α β:Type}{h h' h0:aj}{L R J:List bA}{N:List ao}{root:Int}{B:Nat}{Q:β->aj->Prop}
def ac4 (z:Z h0 h L){i b len cap sz g o}{e}{cs vs cs'}(hi:L[i]?=some (.sl ⟨some ⟨b,0,none⟩,len,cap⟩ sz e cs g))(hl:len≠0)(hc:aR cs o vs=cs')(ho:o+vs.length<=cs.length)(hs:vs.all fv=true) :
  Wp (sL ⟨b,o,none⟩ vs) h λ_ h'=>Z h0 h' (L.set i (.sl ⟨some ⟨b,0,none⟩,len,cap⟩ sz e cs' g)):=by
 have os:nv h ⟨some ⟨b,0,none⟩,len,cap⟩ sz e cs g:=z.get i hi;obtain⟨b2,base,e1,e2,hg⟩:=os.au hl;cases e1;rw[RY];refine⟨cs,g,base,e,e2,hg,ho,hs,?_⟩;have hlen:(aR cs o vs).length=cs.length:=by grind [aR]
 refine z.wE hi hg (Fr.wE z.wf hg e2) ?_ (.inl rfl);rw[<-hc];exact os.wE hlen hl rfl e2
structure KC where
 x2:Nat
 x0:Nat
 x3:Nat
abbrev KC.fn (c:KC):ξ:=Value.func (Fn.func wu) #[] #[Value.pointer (some (ak c.x2)),Value.pointer (some (ak c.x0)),Value.pointer (some (ak c.x3))]
def KQ (c:KC)(s:Sl)(root:Int)(o:Sl)(O:List bh)(g:Nat):List bA:=[.au c.x2 [aA o,vi 0] ai,.sl o 5 ar (O.flatMap bh.enc) g,.au c.x0 [aA s,vi root] ai,.au c.x3 [c.fn] zV]
structure NSz (r:bh):Prop where
 k:r.kl.length<=80
 i:r.il.length<=80
 t:r.text.size<=101
def KSt (h0:aj)(c:KC)(s:Sl)(root:Int)(h:aj)(m:Nat)(R J:List bA):Prop:=∃o O g,O.length=m/\(∀r∈O,RO r J/\NSz r)/\Z h0 h (KQ c s root o O g++(R++J))
section
variable {c:KC}{s:Sl}
def fuY (f:Nat):Nat:=f*200+100
def KyT (h0:aj)(c:KC)(s:Sl)(root:Int)(N:List ao)(H:Int->Nat)(f:Nat):Prop:=∀(n:Nat) (h:aj) (k:Int) (m:Nat) (R J:List bA),fuY f<=n->KN N k->H k<f->m+cR N k<=4000->KSt h0 c s root h m R J ->
 Wp (rn n k (ak c.x2) (ak c.x0) (ak c.x3)) h λr h'=>r=(m:Int)/\∃m' J',m<m'/\m'<=m+cR N k/\KSt h0 c s root h' m' R J'
def vd {K X J:List bA}{o}:(K++((o::X)++J)).Perm (o::(K++(X++J))):=apr
def QU {H}{f}(V:KyT h0 c s root N H f){n m}{v}{sl}{kl}{g}(hn:fuY f<=n)(kv:KN N v)(hH:H v<f)(hm:m+cR N v<=4000)(hkl:kl.length<=80)(st:KSt h0 c s root h m (.sl sl 1 an (kl.map vi) g::R) J){γ}{F:Sl->M γ}{Q}
  (q:∀h' m' J' sl' g',m<m'->m'<=m+cR N v->KSt h0 c s root h' m' (.sl sl' 1 an ((kl++[(m:Int)]).map vi) g'::R) J'->Wp (F sl') h' Q) :
  Wp (sh (dz .raw (ak c.x3)) λ(x2:ξ)=>sh (nC (bM.at n) n x2 v) λx3=>sh (Ago.app false sl 1 an 1 [vi x3]) F) h Q:=by
 obtain⟨o,O,g0,h1,h2,z⟩:=id st;refine z.ld 3 ?_;rw[ah];unfold nC;rw[By (by rfl),ah];refine lD (c:=((ak c.x2,ak c.x0,ak c.x3):Addr×Addr×Addr)) rfl ?_;refine (V n h v m _ J hn kv hH hm st).mono λr h' hr=>?_;obtain⟨rfl,m',J',hlt,hm',o',O',g',h1',h2',z'⟩:=hr;have z1:=z'.perm vd;have hlen:sl.len=kl.length:=by
  have o:nv h' sl 1 an (kl.map vi) g:=z1.get 0 rfl;have:=o.1;grind
 refine Z.GI z1 0 rfl (by decide) rfl (by grind [bJ]) λs' h2 g2 hs' z2 _=>?_;refine q h2 m' J' s' g2 hlt hm' ⟨o',O',g',h1',h2',?_⟩;rw[aiJ];exact Z.perm z2 vd.symm
def amO {H}{f}(V:KyT h0 c s root N H f){src}{l}(il:IL h0 src l)(hl:l.length<=80)(hv:∀v∈l,KN N v/\H v<f) a2 a3 a5 :
  ∀n i m sl (kl:ε) g h J ,fuY f+(l.length-i)+1<=n->i<=l.length->kl.length=i->m+((l.drop i).map (cR N)).sum<=4000->KSt h0 c s root h m (.sl sl 1 an (kl.map vi) g::R) J ->
   Wp (mj n (ak c.x2) (ak c.x3) a2 a3 sl a5 src (l.length:Int) (i:Int)) h λr h'=>∃(kl':ε) (g' m':Nat) (J':List bA),kl'.length=l.length/\m<=m'/\m'<=m+((l.drop i).map (cR N)).sum/\KSt h0 c s root h' m' (.sl r 1 an (kl'.map vi) g'::R) J':=by
 intro n
 induction n with
 |zero=>intro i m sl kl g h J h1;omega
 |succ n ih=>
  intro i m sl kl g h J h1 h2 h3 h4 st;rw[Ej];unfold vK;by_cases hi:i<l.length
  .rw[By (by grind)];obtain⟨v,hvv⟩:=cG hi;obtain⟨kv,hH⟩:=hv v (BY hvv);rw[drop_cons hvv,adZ,aqN] at h4⊢;have hfr:Fr (λ_=>False) h0 h:=by obtain⟨_,_,_,_,_,z⟩:=st;exact z.fr
   refine (il.fr hfr).ix (by omega) (by simpa using hvv) λ_ _ cl=>cl.mN (l:=li) rfl rfl ?_;refine QU V (by omega) kv hH (by omega) (by omega) st λh' m' J' sl' g' hlt hm' st'=>?_;rw[pA h2 (by omega)];refine (ih (i+1) m' sl' (kl++[(m:Int)]) g' h' J' (by omega) (by omega) (by simp;omega) (by omega) st').mono λr h2 hr=>?_;obtain⟨kl',g2,m2,J2,q1,q2,q3,q4⟩:=hr;exact⟨kl',g2,m2,J2,q1,by omega,by omega,q4⟩
  .rw[AT (by grind),ag]
   grind
def amP {H}{f}(V:KyT h0 c s root N H f){src}{l}(il:IL h0 src l)(hl:l.length<=80)(hv:∀v∈l,KN N v/\H v<f) a2 a3 :
  ∀n i m sl (kl:ε) g h J ,fuY f+(l.length-i)+1<=n->i<=l.length->kl.length=i->m+((l.drop i).map (cR N)).sum<=4000->KSt h0 c s root h m (.sl sl 1 an (kl.map vi) g::R) J ->
   Wp (mi n (ak c.x2) (ak c.x3) a2 a3 sl src (l.length:Int) (i:Int)) h λr h'=>∃(kl':ε) (g' m':Nat) (J':List bA),kl'.length=l.length/\m<=m'/\m'<=m+((l.drop i).map (cR N)).sum/\KSt h0 c s root h' m' (.sl r 1 an (kl'.map vi) g'::R) J':=by
 intro n
 induction n with
 |zero=>intro i m sl kl g h J h1;omega
 |succ n ih=>
  intro i m sl kl g h J h1 h2 h3 h4 st;rw[Ei];unfold vJ;by_cases hi:i<l.length
  .rw[By (by grind)];obtain⟨v,hvv⟩:=cG hi;obtain⟨kv,hH⟩:=hv v (BY hvv);rw[drop_cons hvv,adZ,aqN] at h4⊢;have hfr:Fr (λ_=>False) h0 h:=by obtain⟨_,_,_,_,_,z⟩:=st;exact z.fr
   refine (il.fr hfr).ix (by omega) (by simpa using hvv) λ_ _ cl=>cl.mN (l:=li) rfl rfl ?_;refine QU V (by omega) kv hH (by omega) (by omega) st λh' m' J' sl' g' hlt hm' st'=>?_;rw[pA h2 (by omega)];refine (ih (i+1) m' sl' (kl++[(m:Int)]) g' h' J' (by omega) (by omega) (by simp;omega) (by omega) st').mono λr h2 hr=>?_;obtain⟨kl',g2,m2,J2,q1,q2,q3,q4⟩:=hr;exact⟨kl',g2,m2,J2,q1,by omega,by omega,q4⟩
  .rw[AT (by grind),ag]
   grind
def aoU (d:Vd N root)(fw:mU N){r0}(G:iK h0 s N){H}(hH:∀u v,KN N u->Edge N u v->H v<H u) c:∀f,KyT h0 c s r0 N H f:=by
 intro f
 induction f with
 |zero=>intro n h k m R J _ _ hk;omega
 |succ f V=>
  intro n h k m R J hn kv hk hm st;have hfu:fuY (f+1)=fuY f+200:=by grind [fuY]
  rw[hfu] at hn;obtain⟨n,rfl⟩:∃n',n=n'+1:=⟨n-1,by omega⟩;obtain⟨x,hx⟩:=mK rfl (kv.ir d.ix);have hxm:=aE hx;obtain⟨hil,hkl⟩:=fw.map x hxm;have hc:=agN d hx kv;have hsum:(refs x).map (cR N)=x.keys.map (cR N)++x.items.map (cR N):=by unfold refs;grind
  rw[hsum,List.sum_append] at hc;have hv:∀v,v∈x.keys\/v∈x.items->KN N v/\H v<f:=λv hv=>by
   have e:Edge N k v:=⟨x,hx,hv⟩;have:=hH k v kv e;exact⟨.step kv e,by omega⟩
  obtain⟨o,O,g,h1,h2,z⟩:=st;rw[Hl];unfold zY;have ol:o.len=m:=by
   have os:nv h o 5 ar (O.flatMap bh.enc) g:=z.get 1 rfl;have:=os.1;rw[jg bh.pI] at this;omega
  refine z.ld 0 (x:=o) ?_;refine z.ld 2 (x:=s) ?_;refine G.at z (ax hx).1 (ax hx).2 λaa ks is nd ik ii=>nd.eZ ?_;refine z.node λx4 h1' z=>?_;refine z.ld 1 (x:=o) ?_;refine z.ld 0 ?_;refine z.ld 0 ?_;refine z.ld 0 ?_;refine z.GI 2 (new:=[vi x.kind,.string x.text,.bool x.ord,aI,aI]) rfl (by decide) rfl (by grind [bJ]) λo1 h2' g1 ho1 z _=>?_;refine z.st 1 (cs':=[aA o1,vi 0]) λh3 z=>?_;refine z.ld 0 (x:=ks) ?_;rw[ik.len,ol];have z:=z.add (Fr.refl z.wf) (o:=.sl oz 1 an [] 0) nv.nil (.inl rfl)
  let nr:bh:=⟨x.kind,x.text,x.ord,oz,[],0,oz,[],0⟩
  have st1:KSt h0 c s r0 h3 (m+1) (.sl oz 1 an (([]:ε).map vi) 0::.au x4 [vi x.kind,.string x.text,.bool x.ord,aA ks,aA is] ar::R) J:=by
   refine⟨o1,O++[nr],g1,by simp[h1],λr hr=>?_,?_⟩
   .rcases List.mem_append.1 hr with hr|hr
    .grind
    .rw[agv] at hr;subst hr;exact⟨⟨.inl ⟨rfl,rfl⟩,.inl ⟨rfl,rfl⟩⟩,⟨aea _,aea _,fw.txt x hxm⟩⟩
   .have e:(O++[nr]).flatMap bh.enc=O.flatMap bh.enc++[vi x.kind,.string x.text,.bool x.ord,aI,aI]:=(by rw[apU];rfl);unfold KQ;rw[e];exact Z.iH (pre:=[_,_,_,_,_,_]) z [2,3,4,5,0,1] (by simp only[acg,agy];decide)
  rw[ah];refine (amO V ik hkl (λv hv'=>hv v (.inl hv')) _ _ _ n 0 (m+1) oz [] 0 h3 J (by omega) (by omega) rfl (by grind) st1).mono λksl h4 hr=>?_;obtain⟨kl,gk,m1,J1,lk,m1l,m1u,B5⟩:=hr;rw[alZ] at m1u;obtain⟨o2,O2,g2,q1,q2,z⟩:=B5;have z1:=Z.perm z (vd.trans (List.Perm.cons _ vd));refine z1.ld 1 (x:=is) ?_;rw[ii.len];have z2:=z1.add (Fr.refl z1.wf) (o:=.sl oz 1 an [] 0) nv.nil (.inl rfl);have st3:KSt h0 c s r0 h4 m1 (.sl oz 1 an (([]:ε).map vi) 0::.sl ksl 1 an (kl.map vi) gk::.au x4 [vi x.kind,.string x.text,.bool x.ord,aA ks,aA is] ar::R) J1:=
   ⟨o2,O2,g2,q1,q2,Z.perm z2 (vd.trans (List.Perm.cons _ (vd.trans (List.Perm.cons _ vd)))).symm⟩
  rw[ah];refine (amP V ii hil (λv hv'=>hv v (.inr hv')) _ _ n 0 m1 oz [] 0 h4 J1 (by omega) (by omega) rfl (by grind) st3).mono λisl h5 hr=>?_;obtain⟨ilr,gi,m2,J2,l2,m2l,m2u,st4⟩:=hr;rw[alZ] at m2u;obtain⟨o3,O3,g3,p1,p2,z⟩:=st4;have z3:=Z.perm z (vd.trans (List.Perm.cons _ (vd.trans (List.Perm.cons _ vd))));have os:nv h5 o3 5 ar (O3.flatMap bh.enc) g3:=z3.get 4 rfl;have o3l:o3.len=m2:=by have:=os.1;rw[jg bh.pI] at this;omega
  obtain⟨b,base,e1,_,_⟩:=os.au (by omega);obtain⟨oa,ol3,oc⟩:=o3;cases e1;have o3l:ol3=m2:=o3l;subst o3l;obtain⟨y,hy⟩:=cG (l:=O3) (i:=m) (by omega);obtain⟨y1,y2⟩:=p2 y (BY hy);have hlen3:(O3.flatMap bh.enc).length=O3.length*5:=jg bh.pI O3
  let ya:bh:={ y with ks:=ksl,kl:=kl,kg:=gk }
  let yb:bh:={ ya with is:=isl,il:=ilr,ig:=gi }
  have s1:aR (O3.flatMap bh.enc) (m*5+3) [aA ksl]=(O3.set m ya).flatMap bh.enc:=zt bh.pI hy (by simp) (by unfold aR bh.enc;rfl);have hya:(O3.set m ya)[m]?=some ya:=ajo (by omega);have s2:aR ((O3.set m ya).flatMap bh.enc) (m*5+4) [aA isl]=(O3.set m yb).flatMap bh.enc:=by
   have:=zt bh.pI (x':=yb) hya (o:=4) (vs:=[aA isl]) (by simp) (by unfold aR bh.enc;rfl)
   simp_all
  refine z3.ld 3 (l:=.sl) (x:=⟨some ⟨b,0,none⟩,ol3,oc⟩) ?_;refine ze (by omega) (by omega) ?_;rw[IS];refine z3.ld 3 (l:=.sl) (x:=⟨some ⟨b,0,none⟩,ol3,oc⟩) ?_;refine rQ (P:=λ_ h'=>Z h0 h' (.sl isl 1 an (ilr.map vi) gi::.sl ksl 1 an (kl.map vi) gk::.au x4 [vi x.kind,.string x.text,.bool x.ord,aA ks,aA is] ar::(KQ c s r0 ⟨some ⟨b,0,none⟩,ol3,oc⟩ (O3.set m ya) g3++(R++J2)))) (λa ha=>?_) ((ac4 z3 (i:=4) rfl (by omega) s1 (by grind) rfl).mono λ_ h' z=>z) λ_ h6 z=>?_
  .simp at ha;subst ha;exact⟨_,_,z3.get 3 rfl,λ_ h' z=>z.get 3 rfl⟩
  refine ze (by omega) (by omega) ?_;rw[IS,ah];refine (ac4 z (i:=4) rfl (by omega) s2 (by rw[jg bh.pI,anA];grind) rfl).mono λ_ h7 z=>?_;rw[ag];refine⟨rfl,ol3,.sl isl 1 an (ilr.map vi) gi::.sl ksl 1 an (kl.map vi) gk::J2,by omega,by omega,⟨some ⟨b,0,none⟩,ol3,oc⟩,O3.set m yb,g3,by grind,λr hr=>?_,?_⟩
  .rcases aob hr with hr|rfl
   .obtain⟨a1,a2⟩:=p2 r hr;exact⟨a1.mono λo ho=>IN _ (IN _ ho),a2⟩
   .exact⟨⟨.inr (IN _ OF),.inr OF⟩,⟨by grind,by grind,y2.t⟩⟩
  .have z9:Z h0 h7 (.sl isl 1 an (ilr.map vi) gi::.sl ksl 1 an (kl.map vi) gk::.au x4 [vi x.kind,.string x.text,.bool x.ord,aA ks,aA is] ar::(KQ c s r0 ⟨some ⟨b,0,none⟩,ol3,oc⟩ (O3.set m yb) g3++(R++J2))):=z;have z9:=z9.sub (.cons₂ _ (.cons₂ _ (.cons _ (.refl _))));refine z9.perm ?_;have p1:=apk [bA.sl isl 1 an (ilr.map vi) gi,.sl ksl 1 an (kl.map vi) gk] (KQ c s r0 ⟨some ⟨b,0,none⟩,ol3,oc⟩ (O3.set m yb) g3) (R++J2);have p2:=apk [bA.sl isl 1 an (ilr.map vi) gi,.sl ksl 1 an (kl.map vi) gk] R J2;exact p1.trans (arb _ p2)
def amQ (d:Vd N root)(fw:mU N){r0}(z:Z h0 h L)(G:iK h0 s N){a}(ka:KN N a){n}(hn:9000<=n) :
  Wp (D4 n (s,r0) a) h λr h'=>r.2=0/\∃(O:List bh) (o:Sl) (g:Nat) (J:List bA),r.1=o/\O.length<=40/\(∀r∈O,RO r J/\NSz r)/\Z h0 h' (.sl o 5 ar (O.flatMap bh.enc) g::(J++L)):=by
 obtain⟨H,hH1,hH2⟩:=d.Yt;have hl:=fw.len;have hcR:=aiN (N:=N) a;unfold D4;refine z.new λx0 h1 z _=>z.new λx1 h2 z _=>z.new λx2 h3 z _=>z.new λx3 h4 z _=>z.st 0 λh5 z=>?_;refine z.ld 0 (x:=(⟨x2,x0,x3⟩:KC).fn) ?_;unfold Bq;rw[ah,By (by rfl),ah];refine lD (c:=(ak x2,ak x0,ak x3)) rfl ?_;have z:=z.add (Fr.refl z.wf) (o:=.sl oz 5 ar [] 0) nv.nil (.inl rfl);have st:KSt h0 ⟨x2,x0,x3⟩ s r0 h5 0 (.au x1 [aI,vi 0] ai::L) []:=⟨oz,[],0,rfl,(λr hr=>by cases hr),by
  rw[aiP];exact Z.iH (pre:=[_,_,_,_,_]) z [2,0,4,1,3] (by grind)⟩
 refine (aoU d fw G (λu v k e=>hH2 u v (.step k e) e) ⟨x2,x0,x3⟩ 41 n h5 a 0 _ [] (by grind [fuY]) ka (by grind) (by omega) st).mono λy h6 hy=>?_;obtain⟨rfl,m',J,_,hm',o,O,g,e1,e2,z⟩:=hy;refine z.eZ 0 (ls:=[.sl,li]) (x:=(o,0)) ?_;have z:=z.perm vd;refine z.st 0 (cs':=[aA o,vi 0]) λh7 z=>?_;refine z.eZ 0 (ls:=[.sl,li]) (x:=(o,0)) ?_;rw[ag];refine⟨rfl,O,o,g,J,rfl,by omega,e2,?_⟩;have z:Z h0 h7 (.au x1 [aA o,vi 0] ai::.au x2 [aA o,vi 0] ai::.sl o 5 ar (O.flatMap bh.enc) g::.au x0 [aA s,vi r0] ai::.au x3 [(⟨x2,x0,x3⟩:KC).fn] zV::(L++J)):=z;have z:=z.sub (.cons _ (.cons _ (.cons₂ _ (.cons _ (.cons _ (.refl _))))));exact z.perm (List.Perm.cons _ apo)
end
end Go.Sh
namespace Go.Ago
open Go
variable {α β:Type}{h h' h0:aj}{L:List bA}
def tT {γ:Type}{j k:Nat}(hn:j≠k)(a b:γ):cond (Nat.beq j k) a b=b:=by rw[bu,AT hn]
def Fr.CI {X}(hw:WF h0)(a:Fr X h0 h){k}(hk:h0.next<=k)(hk2:k<h.next){kt}:Fr X h0 (h.CI k kt):=by
 refine⟨⟨a.wf.get,λj hj=>?_,a.wf.jU,λj hj=>?_⟩,a.next,a.cells,a.sx,λj hj=>?_,a.none,λj x hj hx=>?_⟩
 .have hj:h.next<=j:=hj
  show cond (Nat.beq j k) true (h.used j)=false;rw[tT (by omega)];exact a.wf.used j hj
 .have hj:=cu hj;show cond (Nat.beq j k) _ (h.kX j)=Option.none;rw[tT hj.1];exact a.wf.maps j hj.2
 .show cond (Nat.beq j k) true (h.used j)=_;rw[tT (by omega)];exact a.used j hj
 .have:=hw.mlt hj;show cond (Nat.beq j k) _ (h.kX j)=_;rw[tT (by omega)];exact a.maps j x hj hx
def bA.amR {o:bA}{k}{kt}(hk:o.ok h)(hne:o.jU≠k+1):o.ok (h.CI k kt):=by
 cases o with
 |au b cs e=>exact⟨(show LB h b cs e from hk).get⟩
 |sl s sz e cs g=>exact hk
 |ps s sz e cs g=>exact hk
 |map m kt2 fn n=>
  obtain⟨c,es,h1,h2⟩:=MB.ex hk;refine⟨c,es,?_,h2⟩;show cond (Nat.beq m k) _ (h.kX m)=_;rw[tT (λe=>hne (by rw[e];rfl))];exact h1
 |free k2=>
  have hn:k2≠k:=λe=>hne (by rw[e];rfl);refine⟨?_,hk.2⟩;show cond (Nat.beq k2 k) true (h.used k2)=false;rw[tT hn];exact hk.1
 |fam F sz e g=>exact hk
def Z.amS (z:Z h0 h L) i {k}{kt}{f:Nat->M β}{Q}
  (q:∀h',Z h0 h' (L.set i (.map k kt (λ_=>none) 0))->Wp (f k) h' Q) (hi:L[i]?=some (.free k):=by rfl):Wp (sh (ue k kt) f) h Q:=by
 rw[ah];have hmem:=BY hi;have hf:Fe h k:=(z.own _ hmem).1;refine⟨k,h.CI k kt,by unfold ue;rw[By ⟨hf.1,hf.2.1,by rw[z.wf.maps k hf.1];rfl,by rw[hf.2.2];rfl⟩],q _ ?_⟩;have hg:h0.next<k+1:=(z.own _ hmem).2.resolve_left (by simp[bA.jU])
 have ho:∀j y,L[j]?=some y->j≠i->y.jU≠k+1:=λj y hj hne e=>by
  have:=CV pH z.xB hj hi hne e
  grind
 refine⟨z.OS,z.fr.CI z.OS (by omega) hf.2.1,λx hx=>?_,CU pH z.xB λj y hj hne e2=>absurd e2.symm (ho j y hj hne)⟩;obtain⟨j,hj⟩:=List.mem_iff_getElem?.1 hx;rw[aqa] at hj;split at hj
 .split at hj
  .cases hj;refine⟨⟨0,[],?_,trivial,λ_=>rfl,rfl⟩,.inr hg⟩;show cond (Nat.beq k k) _ (h.kX k)=_
   simp_all
  grind
 .rename_i hne;have hmy:=BY hj;exact⟨bA.amR (z.own x hmy).1 (ho j x hj λe2=>hne e2.symm),(z.own x hmy).2⟩
def aP {a}{f:Addr->M β}{Q}(q:Wp (f a) h Q):Wp (sh (nn (some a)) f) h Q:=by
 rw[ah];exact⟨a,h,rfl,q⟩
end Go.Ago
namespace Go.Sh
open Go Go.Ago Go.Proofs
variable {α β:Type}{h h' h0:aj}{L R J:List bA}{N N1 N2:List ao}{root:Int}{B:Nat}{Q:β->aj->Prop}
def YE:Nat:=Ja (fuE 80) 80 41+80000
def aoV {n}(h:YE<=n):Ja (fuE 80) 80 41<=n/\KF+4*80+65600<n/\65600<=fuE 80:=by
 have h1:YE=Ja (fuE 80) 80 41+80000:=rfl;have h3:KF=7000:=rfl;have h4:66000<=fuC 80 80:=aqU _ _;have h5:fuE 80=fuC 80 80+700+80:=rfl;omega
def QV {s1 s2}(z:Z h0 h L)(G1:iK h0 s1 N1)(G2:iK h0 s2 N2)(f1:mU N1)(f2:mU N2){n}(hn:YE<=n) :
  Wp (wC n (s1,0) (s2,0)) h λ_ h'=>Z h0 h' L:=by
 obtain⟨n1,n2,n3⟩:=aoV hn;have l1:=f1.len;have l2:=f2.len;have e1:s1.len=N1.length:=G1.len;have e2:s2.len=N2.length:=G2.len;unfold wC;refine z.new λx0 h1 z _=>z.new λx1 h2 z _=>?_;refine z.eZ 1 (ls:=[.sl,li]) (x:=(s1,0)) ?_;rw[ah];refine (wU z G1 f1.bd f1.ht (by omega) (f1.gc 0)).mono λy h3 hy=>?_;obtain⟨rfl,z⟩:=hy;by_cases c1:gc N1 0=0
 rotate_left
 .rw[By (by grind)];exact ag.2 z.drop.drop
 rw[AT (by grind)];refine z.eZ 0 (ls:=[.sl,li]) (x:=(s2,0)) ?_;rw[ah];refine (wU z G2 f2.bd f2.ht (by omega) (f2.gc 0)).mono λy h3 hy=>?_;obtain⟨rfl,z⟩:=hy;by_cases c2:gc N2 0=0
 rotate_left
 .rw[By (by grind)];exact ag.2 z.drop.drop
 rw[AT (by grind)];have d1:=f1.vdg c1;have d2:=f2.vdg c2;obtain⟨dd1,a1,p1,q1⟩:=f1.aoR c1;obtain⟨dd2,a2,p2,q2⟩:=f2.aoR c2;refine z.eZ 1 (ls:=[.sl,li]) (x:=(s1,0)) ?_;rw[ah];refine (ac2 z G1 f1.bd f1.ht (by omega) (f1.gc 0) (λ_=>p1)).mono λy h3 hy=>?_;obtain⟨hy1,z⟩:=hy;rw[AT (by grind)] at hy1;subst hy1;cases a1 with
 |false=>rw[By (by simp)];exact ag.2 z.drop.drop
 |true=>
 rw[AT (by simp)];refine z.eZ 0 (ls:=[.sl,li]) (x:=(s2,0)) ?_;rw[ah];refine (ac2 z G2 f2.bd f2.ht (by omega) (f2.gc 0) (λ_=>p2)).mono λy h3 hy=>?_;obtain⟨hy1,z⟩:=hy;rw[AT (by grind)] at hy1;subst hy1;cases a2 with
 |false=>rw[By (by simp)];exact ag.2 z.drop.drop
 |true=>
 rw[AT (by simp)];have acy:=q1.1 rfl;unfold wa;refine z.bX [8] (by decide) (by decide) λnb h4 z=>?_;refine z.eZ 2 (ls:=[.sl,li]) (x:=(s1,0)) ?_;refine z.ld 2 (x:=0) ?_;refine z.eZ 1 (ls:=[.sl,li]) (x:=(s2,0)) ?_;refine z.ld 1 (x:=0) ?_;refine z.amS 0 λh5 z=>?_;have hch:∀{c:List θ} {P:θ->aj->Prop} {h5:aj} {X:List bA},Z h0 h5 X->.au x0 [aA s1,vi 0] ai∈X->.au x1 [aA s2,vi 0] ai∈X->(∀a,some a∈c->a.block=x0\/a.block=x1) ->
   (∀r h',P r h'->∃X',Z h0 h' X'/\.au x0 [aA s1,vi 0] ai∈X'/\.au x1 [aA s2,vi 0] ai∈X')->∀a,some a∈c->∃cs e,LB h5 a.block cs e/\∀r h',P r h'->LB h' a.block cs e:=by
  intro c P h5 X z m0 m1 hc hP a ha;rcases hc a ha with e|e
  .refine⟨_,_,by rw[e];exact (z.own _ m0).1,λr h' hp=>?_⟩;obtain⟨X',z',q0,q1⟩:=hP r h' hp;rw[e];exact (z'.own _ q0).1
  .refine⟨_,_,by rw[e];exact (z.own _ m1).1,λr h' hp=>?_⟩;obtain⟨X',z',q0,q1⟩:=hP r h' hp;rw[e];exact (z'.own _ q1).1
 have hof1:=of_wp (root:=0) z (by rw[e1];grind [bJ]) (n:=n);refine rQ (hch z (by simp) (by simp) (by intro a ha;simp at ha;rcases ha with rfl|rfl|rfl<;>simp[Addr.plus]) λr h' hp=>?_) hof1 λr h6 hr=>?_
 .grind
 obtain⟨x5,b4,rfl,z⟩:=hr;have hof2:=of_wp (root:=0) z (by rw[e2];grind [bJ]) (n:=n);refine rQ (hch z (by simp) (by simp) (by intro a ha;simp at ha;rcases ha with rfl|rfl<;>simp[Addr.plus]) λr h' hp=>?_) hof2 λr h7 hr=>?_
 .obtain⟨x6,b6,_,z'⟩:=hp;exact⟨_,z',by simp,by simp⟩
 obtain⟨x6,b6,rfl,z⟩:=hr;rw[e1,e2] at z
 let t1:Y4:=⟨x5,b4,s1,0⟩
 let t2:Y4:=⟨x6,b6,s2,0⟩
 have hsm1:=f1.sm d1;have hsm2:=f2.sm d2;have T1:sK t1 N1 [.au x5 [aA s1,vi 0,aA (arr b4 N1.length)] jP,.au b4 (List.replicate N1.length aI) aT]:=Vm OF (IN _ OF);have T2:sK t2 N2 [.au x6 [aA s2,vi 0,aA (arr b6 N2.length)] jP,.au b6 (List.replicate N2.length aI) aT]:=Vm OF (IN _ OF);have main:=agO (t:=t1) (t2:=t2) G1 G2 f1.bd f2.bd f1.ht f2.ht (λx hx hk=>d1.map hx hk) (λx hx hk=>d2.map hx hk) d1.ix d2.ix n3 (λi x hx=>Ll G1 d1 f1.bd f1.ht hsm1 hx) (λi x hx=>Ll G2 d2 f2.bd f2.ht hsm2 hx) (λu v e=>ac0 d1.ix acy e) 41 (some (nb+8)) 0 0 d1.rt d2.rt (by grind [aiN]);rw[ah];have zz:Z h0 h7 ([.map (nb+8) yd (λ_=>none) 0]++(([.au x1 [aA s2,vi 0] ai,.au x0 [aA s1,vi 0] ai]++L)++([.au x5 [aA s1,vi 0,aA (arr b4 N1.length)] jP,.au b4 (List.replicate N1.length aI) aT]++[.au x6 [aA s2,vi 0,aA (arr b6 N2.length)] jP,.au b6 (List.replicate N2.length aI) aT]))):=by
  have z1:=Z.iH (pre:=[_,_,_,_,_,_,_]) z [4,5,6,2,3,0,1] (by simp only[acg,agy];decide);refine Z.perm z1 (List.Perm.cons _ (List.Perm.cons _ (List.Perm.cons _ ?_)));exact apo
 refine (main n h7 [.map (nb+8) yd (λ_=>none) 0] _ _ _ n1 ⟨_,_,rfl,λv w h=>by cases h⟩ T1 T2 zz).mono λr h8 hr=>ag.2 ?_;obtain⟨M',L1',L2',_,_,_,_,_,z⟩:=hr;exact z.sub ((((aiv _ L).trans (aiv _ _)).trans (aqV _ _)).trans (aiL _ _))
end Go.Sh
namespace Go.Sh
open Go Go.Ago Go.Proofs
variable {α β:Type}{h h' h0:aj}{L R J:List bA}{N:List ao}{root:Int}{B:Nat}{Q:β->aj->Prop}{s:Sl}
structure KY where
 o:Sl
 O:List bh
 g:Nat
 J:List bA
def KY.own (k:KY):List bA:=.sl k.o 5 ar (k.O.flatMap bh.enc) k.g::k.J
def KY.ok (k:KY):Prop:=k.O.length<=40/\∀r∈k.O,RO r k.J/\NSz r
def gc2:Option KY->δ
 |none=>[aI,vi 0]
 |some k=>[aA k.o,vi 0]
def GJ x:(gc2 x).length=2:=by cases x<;>rfl
def KY.few {k:KY}(hk:k.ok):mU (k.O.map bh.v):=by
 refine⟨by rw[aii];exact hk.1,λx hx=>?_,λx hx=>?_⟩
 .obtain⟨r,hr,rfl⟩:=List.mem_map.1 hx;have:=(hk.2 r hr).2;exact⟨this.i,this.k⟩
 .obtain⟨r,hr,rfl⟩:=List.mem_map.1 hx;exact (hk.2 r hr).2.t
def KY.rd {k:KY}(hk:k.ok){M}(z:Z h0 h M)(hm:∀o∈k.own,o∈M):iK h k.o (k.O.map bh.v):=by
 have os:nv h k.o 5 ar (k.O.flatMap bh.enc) k.g:=(z.own _ (hm _ OF)).1;have one:∀{s:Sl} {kl:ε} {g:Nat},(s.len=0/\kl=[])\/bA.sl s 1 an (kl.map vi) g∈k.J->IL h s kl:=λ{s kl g} hh=>by
  rcases hh with⟨e1,e2⟩|hj
  .subst e2;exact⟨0,wK.nil e1⟩
  .have o:nv h s 1 an (kl.map vi) g:=(z.own _ (hm _ (IN _ hj))).1;exact⟨g,o.BX⟩
 exact⟨k.O,k.g,rfl,os.BX,λr hr=>⟨one (hk.2 r hr).1.1,one (hk.2 r hr).1.2⟩⟩
def ac6 {K:List KY}(hok:∀k∈K,k.ok){c9 bk m}(hm:m=K.length){M}(m1:.au c9 [aA (arr bk m)] iI∈M)(m2:.au bk ((K.map some).flatMap gc2) ai∈M)(m3:∀k∈K,∀o∈k.own,o∈M)
  {n} {P} {x y} (hn:YE<=n) (hx:0<=x/\x<(m:Int)) (hy:0<=y/\y<(m:Int)) (z:Z h0 h (P++M)) :
  Wp (qw n (Value.func (Fn.func vI) #[] #[Value.pointer (some (ak c9))]) x y) h λ_ h'=>Z h0 h' (P++M):=by
 obtain⟨k1,a3⟩:=cG (l:=K) (i:=x.toNat) (by omega);obtain⟨k2,b3⟩:=cG (l:=K) (i:=y.toNat) (by omega);have l9:LB h c9 _ _:=(z.own _ (adr _ m1)).1;have lk:LB h bk _ _:=(z.own _ (adr _ m2)).1;have rk:wK h (arr bk m) 2 ((K.map some).flatMap gc2) (bk+1):=LB.BX lk (by rw[jg GJ,aii,hm]);unfold qw uY;rw[By (by rfl),ah];refine lD rfl ?_;unfold y5;refine (LB.cl l9).mN (x:=arr bk m) rfl rfl ?_;refine rk.ixN GJ hx.1 hx.2 (by rw[abt,a3];rfl) λp c1=>c1.eZ (ls:=[.sl,li]) (x:=(k1.o,0)) rfl ?_;refine (LB.cl l9).mN (x:=arr bk m) rfl rfl ?_;refine rk.ixN GJ hy.1 hy.2 (by rw[abt,b3];rfl) λp c2=>c2.eZ (ls:=[.sl,li]) (x:=(k2.o,0)) rfl ?_;have h1:=BY a3;have h2:=BY b3;have w:Z h h []:=Z.start z.wf;rw[ah];refine (QV w (KY.rd (hok k1 h1) z λo ho=>adr _ (m3 k1 h1 o ho)) (KY.rd (hok k2 h2) z λo ho=>adr _ (m3 k2 h2 o ho)) (KY.few (hok k1 h1)) (KY.few (hok k2 h2)) hn).mono λy h3 w=>?_;exact ag.2 (z.pure w.fr)
def YF {m b}(hm:m<1073741824) a0 a1 :
  ∀n i h L ,m-i<n->i<=m->Z h0 h (.au b (((iota m).take i++List.replicate (m-i) 0).map vi) an::L) ->
   Wp (qy n a0 a1 (arr b m) (m:Int) (i:Int)) h λ_ h'=>Z h0 h' (.au b ((iota m).map vi) an::L):=by
 intro n
 induction n with
 |zero=>intro i h L h1;omega
 |succ n ih=>
  intro i h L h1 h2 z;rw[DG];unfold u0;have hl:=gN m;by_cases hi:i<m
  .rw[By (by grind)];refine EP (by omega) (by omega) ?_;rw[IS];refine z.Cb 0 (xs:=(iota m).take i++List.replicate (m-i) 0) (by grind) (λh3 z=>?_);have hf:=fill (vc hi);rw[hl] at hf;rw[hf] at z;rw[pA h2 (by omega)];exact ih (i+1) h3 L (by omega) (by omega) z
  .rw[AT (by grind),ag]
   grind
def YH (d:Vd N root)(fw:mU N){r0}(G:iK h0 s N){ks}{l}(ik:IL h0 ks l)(hl:l.length<=80)(hv:∀v∈l,KN N v){c9 bk x0} a1 :
  ∀n i h (K:List KY) L ,l.length-i+9000<n->i<=l.length->K.length=i->(∀k∈K,k.ok)->Z h0 h (.au c9 [aA (arr bk l.length)] iI::.au bk ((K.map some++List.replicate (l.length-i) none).flatMap gc2) ai::.au x0 [aA s,vi r0] ai::(K.flatMap KY.own++L)) ->
   Wp (qx n (ak x0) a1 (ak c9) ks (l.length:Int) (i:Int)) h λ_ h'=>∃K:List KY,K.length=l.length/\(∀k∈K,k.ok)/\Z h0 h' (.au c9 [aA (arr bk l.length)] iI::.au bk ((K.map some).flatMap gc2) ai::.au x0 [aA s,vi r0] ai::(K.flatMap KY.own++L)):=by
 intro n
 induction n with
 |zero=>intro i h K L h1;omega
 |succ n ih=>
  intro i h K L h1 h2 hK hok z;rw[DE];unfold uZ;by_cases hi:i<l.length
  .rw[By (by grind)];obtain⟨v,hvv⟩:=cG hi;refine (ik.fr z.fr).ix (by omega) (by simpa using hvv) λa g cl=>cl.mN rfl rfl ?_;refine z.ld 0 (x:=arr bk l.length) ?_;refine z.eZ 2 (ls:=[.sl,li]) (x:=(s,r0)) ?_;refine rQ (λa' ha'=>?_) (amQ d fw z G (hv v (BY hvv)) (by omega)) λr h3 hr=>?_
   .simp at ha';subst ha';refine⟨_,_,z.get 0 rfl,λr1 h3 hr1=>?_⟩;obtain⟨_,O,o,g,J,_,_,_,z⟩:=hr1;exact (z.own _ (IN _ (adr _ OF))).1
   obtain⟨hr2,O,o,g,J,hr1,hO,hOk,z⟩:=hr;obtain⟨r1,r2⟩:=r;have hr1:r1=o:=hr1;have hr2:r2=0:=hr2;subst hr2;subst hr1
   let k:KY:=⟨r1,O,g,J⟩
   have z:Z h0 h3 (.au c9 [aA (arr bk l.length)] iI::.au bk ((K.map some++List.replicate (l.length-i) none).flatMap gc2) ai::.au x0 [aA s,vi r0] ai::(k.own++(K.flatMap KY.own++L))):=by
    refine z.perm ?_;exact apk (bA.sl r1 5 ar (O.flatMap bh.enc) g::J) [_,_,_] (K.flatMap KY.own++L)
   refine ze (by omega) (by omega) ?_;have hg:(K.map some++List.replicate (l.length-i) none)[i]?=some none:=by
    grind
   have hset:(K.map some++List.replicate (l.length-i) none).set i (some k)=(K++[k]).map some++List.replicate (l.length-(i+1)) none:=by
    have e:l.length-i=(l.length-(i+1))+1:=(by omega);rw[aoa _ _ (by grind),aii,hK,apq,e,anP,anK,aiJ];simp
   have hsp:=zt GJ hg (x':=some k) (o:=0) (vs:=[aA r1,vi 0]) (by simp) rfl;rw[hset,amh] at hsp;rw[IS];refine z.st 1 (λh4 z=>?_) rfl hsp (by rw[jg GJ,acm,aii,aeP];grind) rfl;rw[pA h2 (by omega)];refine ih (i+1) h4 (K++[k]) L (by omega) (by omega) (by grind) (λk' hk'=>?_) (z.perm (List.Perm.cons _ (List.Perm.cons _ (List.Perm.cons _ ?_))))
   .rcases List.mem_append.1 hk' with hk' | hk'
    .grind
    .rw[agv] at hk';subst hk';exact⟨hO,hOk⟩
   grind [List.append_assoc,List.flatMap_singleton,List.perm_append_comm_assoc]
  .rw[AT (by grind),ag];have e2:l.length-i=0:=by omega
   grind
def Vo:Nat:=YE+10000
def Lm (d:Vd N root)(fw:mU N){r0}(z:Z h0 h L)(G:iK h0 s N){a}{x}(hx:gt N a=some x){n}(hn:Vo<=n) :
  Wp (u5 n (s,r0) a) h λy h'=>∃(b:Nat) (r:ε),y=arr b x.items.length/\r.Perm (iota x.items.length)/\Z h0 h' (.au b (r.map vi) an::L):=by
 obtain⟨g1,g2⟩:=ax hx;have hxm:=aE hx;obtain⟨hil,hkl⟩:=fw.map x hxm;have hn1:YE+10000<=n:=hn;have hz:80000<=YE:=ap0 _ _;unfold u5;refine z.new λx0 h1 z _=>?_;refine z.ld 0 (x:=s) ?_;refine G.at z g1 g2 λaa ks is nd ik ii=>nd.eZ ?_;refine z.node λx4 h2 z=>?_;refine z.ld 0 (x:=is) ?_;rw[ii.len];refine z.Ig (ajm _) (by grind [bJ]) λb h3 z _=>?_;rw[IS] at z⊢;rw[lH] at z;rw[ah];refine (YF (m:=x.items.length) (by omega) (ak x0) (ak x4) n 0 h3 _ (by omega) (by omega) (by simpa using z)).mono λ_ h4 z=>?_;refine z.ld 1 ?_;have fin:∀{h4:aj},Z h0 h4 (.au b ((iota x.items.length).map vi) an::.au x4 [vi x.kind,.string x.text,.bool x.ord,aA ks,aA is] ar::.au x0 [aA s,vi r0] ai::L)->Wp (AI (arr b x.items.length)) h4 λy h'=>∃(b:Nat) (r:ε),y=arr b x.items.length/\r.Perm (iota x.items.length)/\Z h0 h' (.au b (r.map vi) an::L):=λz=>by
  rw[ag];exact⟨b,_,rfl,aqF _,z.sub (List.Sublist.cons₂ _ (List.Sublist.cons _ (aiv _ _)))⟩
 by_cases k1:x.kind=10
 rotate_left
 .rw[By (by grind)];exact fin z
 rw[AT (by grind)];refine z.ld 1 ?_;cases ho:x.ord with
 |true=>rw[By rfl];rw[ho] at fin z;exact fin z
 |false=>
 rw[AT (by simp)];have hki:=d.map hxm k1;unfold xf;refine z.ld 1 (x:=ks) ?_;rw[ik.len];refine z.Ig (ajm _) (by grind [bJ]) λbk h5 z _=>?_;rw[IS] at z⊢;refine z.new λc9 h6 z _=>z.st 0 λh7 z=>?_;refine z.ld 3 (x:=ks) ?_;have z:Z h0 h7 (.au c9 [aA (arr bk x.keys.length)] iI::.au bk (List.replicate x.keys.length [aI,vi 0]).flatten ai::.au x0 [aA s,vi r0] ai::.au b ((iota x.items.length).map vi) an::.au x4 [vi x.kind,.string x.text,.bool x.ord,aA ks,aA is] ar::L):=Z.iH (pre:=[_,_,_,_,_]) z [0,1,4,2,3] (by grind);have erep:(List.replicate x.keys.length [aI,vi 0]).flatten=(([]:List KY).map some++List.replicate (x.keys.length-0) none).flatMap gc2:=by
  rw[List.map_nil,aiO,aqS,List.flatMap,apv];rfl
 rw[erep] at z;rw[ik.len,ah];refine (YH d fw G ik hkl (λv hv=>.key hxm hv) (arr b x.items.length) n 0 h7 [] _ (by omega) (by omega) rfl (λk hk=>by cases hk) z).mono λ_ h8 hy=>?_;obtain⟨K,hK,hok,z⟩:=hy;rw[ah];have hmid:Z h0 h8 (.au b ((iota x.items.length).map vi) an::([]++(.au c9 [aA (arr bk x.keys.length)] iI::.au bk ((K.map some).flatMap gc2) ai::.au x0 [aA s,vi r0] ai::(K.flatMap KY.own++(.au x4 [vi x.kind,.string x.text,.bool x.ord,aA ks,aA is] ar::L))))):=by
  refine z.perm ?_;have p1:(.au c9 [aA (arr bk x.keys.length)] iI::.au bk ((K.map some).flatMap gc2) ai::.au x0 [aA s,vi r0] ai::(K.flatMap KY.own++(.au b ((iota x.items.length).map vi) an::.au x4 [vi x.kind,.string x.text,.bool x.ord,aA ks,aA is] ar::L))).Perm (([.au c9 [aA (arr bk x.keys.length)] iI,.au bk ((K.map some).flatMap gc2) ai,.au x0 [aA s,vi r0] ai]++K.flatMap KY.own)++(.au b ((iota x.items.length).map vi) an::.au x4 [vi x.kind,.string x.text,.bool x.ord,aA ks,aA is] ar::L)):=by simp
  grind [List.perm_middle]
 have il:=gN x.items.length;have mg:=ac3
  (λ{n h P u v} hn hu hv z=>ac6 hok hK.symm OF (IN _ OF) (λk hk o ho=>IN _ (IN _ (IN _ (aeo _ (List.mem_flatMap.2 ⟨k,hk,ho⟩))))) hn hu hv z)
  (x.items.length+1) n (iota x.items.length) b (x.items.length+1) h8 [] (by omega) (by omega) (by omega) (λv hv=>by have:=(ye x.items.length).2 v hv;omega) hmid
 rw[il] at mg;refine mg.mono λ_ h9 hy=>?_;obtain⟨r,hr,z⟩:=hy;rw[ag];refine⟨b,r,rfl,hr,z.sub (List.Sublist.cons₂ _ ?_)⟩;exact ((((aiv _ L).trans (aiL _ _)).trans (aiv _ _)).trans (aiv _ _)).trans (aiv _ _)
end Go.Sh
namespace Go.Sh
open Go Go.Ago Go.Proofs
variable {N N':List ao}{root:Int}{F:ε}
def IE (N:List ao)(u v:Int):Prop:=∃x,gt N u=some x/\v∈x.items
inductive qS (N:List ao) (u:Int):Int->Prop
 |refl:qS N u u
 |step {v w:Int}:qS N u v->IE N v w->qS N u w
theorem qS.trans {u v w}(h:qS N u v)(h':qS N v w):qS N u w:=by
 induction h' with
 |refl=>exact h
 |step _ e ih=>exact ih.step e
def Vp (N:List ao)(root:Int):Prop:=∃H:Int->Nat,∀u,qS N root u->∀v,IE N u v->H v<H u
def Vp.no (h:Vp N root){u w}(hu:qS N root u)(r:qS N u w)(e:IE N w u):False:=by
 obtain⟨H,hH⟩:=h;have h1:∀{w:Int},qS N u w->qS N root w/\H w<=H u:=λr=>by
  induction r with
  |refl=>grind
  |step _ e ih=>exact⟨ih.1.step e,by grind⟩
 grind
def YI (N:List ao)(F:ε):Prop:=∀(i:Nat) (u v:Int),F[i]?=some u->IE N u v->∃j,j<i/\F[j]?=some v
theorem YI.add (h:YI N F){a}(ha:∀v,IE N a v->v∈F):YI N (F++[a]):=λi u v hu e=>by
 by_cases hi:i<F.length
 .rw[ajc hi] at hu;obtain⟨j,j1,j2⟩:=h i u v hu e;exact⟨j,j1,by grind⟩
 .rw[anT (by omega)] at hu;have hi2:=(List.getElem?_eq_some_iff.1 hu).1;rw[ad4] at hi2;have hz:i-F.length=0:=by omega
  rw[hz] at hu;cases hu;obtain⟨j,hj⟩:=List.mem_iff_getElem?.1 (ha v e);have:=aN hj;exact⟨j,by omega,by grind⟩
def ac7:∀{F:ε} {j} {v},F[j]?=some v->F.idxOf v<=j
 |[],j,v,h=>by simp at h
 |a::F,0,v,h=>by grind
 |a::F,j+1,v,h=>by
  have:=ac7 (by simpa using h)
  grind
def YI.cya (h:YI N F)(hr:root∈F):Vp N root:=by
 have up:∀{u},u∈F->∀v,IE N u v->v∈F/\F.idxOf v<F.idxOf u:=λ{u} hu v e=>by
  have h1:F[F.idxOf u]?=some u:=by
   grind
  obtain⟨j,j1,j2⟩:=h _ u v h1 e;have:=ac7 j2
  grind
 have all:∀{u},qS N root u->u∈F:=λ{u} r=>by
  induction r with
  |refl=>exact hr
  |step _ e ih=>grind
 exact⟨λu=>F.idxOf u,λu hu v e=>(up (all hu) v e).2⟩
structure YG (N:List ao) (root:Int) (ms os F:ε):Prop where
 l1:ms.length=N.length
 p:os.length+ms.count 0<=N.length
 v:∀j w,gt ms j=some w->w=0\/w=1\/w=2
 op:∀j,gt ms j=some 1↔j∈os
 fi:∀j,gt ms j=some 2↔j∈F
 ok:YI N F
 ch:∀(i:Nat) u w,os[i]?=some u->os[i+1]?=some w->IE N u w
 r:∀u∈os,qS N root u
def YG.way {ms os}(g:YG N root ms os F):∀(k i:Nat) u w ,os[i]?=some u->os[i+k]?=some w->qS N u w
 |0,i,u,w,hu,hw=>by rw[amh,hu] at hw;cases hw;exact .refl
 |k+1,i,u,w,hu,hw=>by
  have hlt:=aN hw;obtain⟨m,hm⟩:=cG (l:=os) (i:=i+k) (by omega);exact (g.way k i u m hu hm).step (g.ch (i+k) m w hm hw)
def DQ {ms:ε}{i}{v w}(h:ms[i]?=some w)(hv:v≠0):(ms.set i v).count 0+(if w=0 then 1 else 0)=ms.count 0:=by
 grind
theorem wD {α}{ms:List α}{i j}{v}(hi:0<=i)(hl:i.toNat<ms.length):gt (ms.set i.toNat v) j=if j=i then some v else gt ms j:=by
 grind [gt]
def YG.push {ms os}(g:YG N root ms os F){a}(ha:gt ms a=some 0)(hr:qS N root a)(hl:∀u,os.getLast?=some u->IE N u a):YG N root (ms.set a.toNat 1) (os++[a]) F:=by
 obtain⟨a1,a2⟩:=ax ha;have a3:=aN a2;have hc:=DQ (v:=1) a2 (by decide);rw[By rfl] at hc;have hp:=g.p;refine⟨by simp[g.l1],by grind,λj w hj=>?_,λj=>?_,λj=>?_,g.ok,λi u w hu hw=>?_,λu hu=>?_⟩
 .rw[wD a1 a3] at hj;split at hj
  .grind
  .exact g.v j w hj
 .rw[wD a1 a3,amp,agv,<-g.op]
  grind
 .rw[wD a1 a3,<-g.fi]
  grind
 .have hlt:=aN hw;rw[acm,ad4] at hlt;rw[ajc (by omega)] at hu;by_cases h2:i+1<os.length
  .rw[ajc h2] at hw;exact g.ch i u w hu hw
  grind
 .rcases List.mem_append.1 hu with hu|hu
  .exact g.r u hu
  grind
def YG.pop {ms os}{a}(g:YG N root ms (os++[a]) F)(ha:a∉os)(hd:∀v,IE N a v->v∈F):YG N root (ms.set a.toNat 2) os (F++[a]):=by
 have h1:gt ms a=some 1:=(g.op a).2 (adr _ OF);obtain⟨a1,a2⟩:=ax h1;have a3:=aN a2;have hc:=DQ (v:=2) a2 (by decide);rw[AT (by decide)] at hc;have hp:=g.p;rw[acm,ad4] at hp;refine⟨by simp[g.l1],by omega,λj w hj=>?_,λj=>?_,λj=>?_,g.ok.add hd,λi u w hu hw=>?_,λu hu=>g.r u (aeo _ hu)⟩
 .rw[wD a1 a3] at hj;split at hj
  .grind
  .exact g.v j w hj
 .rw[wD a1 a3];split
  .grind
  .rename_i e;rw[g.op,amp,agv];simp[e]
 .rw[wD a1 a3,amp,agv,<-g.fi]
  grind
 .have h2:=aN hu;have h3:=aN hw;exact g.ch i u w (by grind) (by grind)
def YG.cyc {ms os}{a q}(g:YG N root ms (os++[a]) F)(hq:gt ms q=some 1)(e:IE N a q):¬Vp N root:=λhc=>by
 obtain⟨i,hi⟩:=List.mem_iff_getElem?.1 ((g.op q).1 hq);have hlt:=aN hi;rw[acm,ad4] at hlt;refine hc.no (g.r q ((g.op q).1 hq)) (g.way (os.length-i) i q a hi ?_) e
 grind
end Go.Sh
namespace Go.Sh
open Go Go.Ago Go.Proofs
variable {α β:Type}{h h' h0:aj}{L:List bA}{Q:β->aj->Prop}{s:Sl}{root:Int}{N:List ao}
def rR {m}{x}(hx:x∈iota m):0<=x/\x<(m:Int):=by have:=(ye m).2 x hx;omega
theorem tO {l:List α}{i:Nat}:gt l (i:Int)=l[i]?:=by unfold gt;grind
structure OC where
 x7:Nat
 bm:Nat
 x9:Nat
 x0:Nat
 x3:Nat
 be:Nat
 cH:Nat
def OC.fn (c:OC):ξ:=Value.func (Fn.func td) #[] #[pv c.x7,pv c.x9,pv c.x0,pv c.x3,pv c.cH]
def OC.own (c:OC)(N:List ao)(s:Sl)(root:Int)(ms:List Bool)(os:ε)(es:List Sl)(so:Sl)(g:Nat):List bA:=
 [.au c.x7 [aA (arr c.bm N.length)] mW,.au c.bm (ms.map .bool) e9,.au c.x9 [aA so] aT,.sl so 1 an (os.map vi) g,.au c.x0 [aA s,vi root] ai,.au c.x3 [aA (arr c.be N.length)] Ij,.au c.be (es.map aA) aT,.au c.cH [c.fn] vH]
structure OI (N:List ao) (c:Nat) (ms:List Bool) (os:ε) (es:List Sl) (so:Sl):Prop where
 l1:ms.length=N.length
 l2:es.length=N.length
 l3:so.len=os.length
 rng:∀x∈os,0<=x/\x<(N.length:Int)
 wV:os.length+ms.count false<=N.length
 c:ms.count false<=c
 mem:∀j,gt ms j=some true->j∈os
structure OD (N:List ao) (ms ms':List Bool):Prop where
 mo:∀j,gt ms j=some true->gt ms' j=some true
 cl:∀u,gt ms' u=some true->gt ms u=some true\/∀v,IE N u v->gt ms' v=some true
def OD.aoW {ms}:OD N ms ms:=⟨λ_ h=>h,λ_ h=>.inl h⟩
theorem OD.trans {a b c}(h:OD N a b)(h':OD N b c):OD N a c:=
 ⟨λj x=>h'.mo j (h.mo j x),λu x=>(h'.cl u x).elim (λy=>(h.cl u y).elim .inl λz=>.inr λv e=>h'.mo v (z v e)) .inr⟩
def ac8 (C:OC)(N:List ao)(s:Sl)(root:Int)(c:Nat)(ms0:List Bool)(T:List Bool->Prop)(h0:aj)(L:List bA)(h':aj):Prop:=
 ∃ms os es so g,OI N c ms os es so/\OD N ms0 ms/\T ms/\Z h0 h' (C.own N s root ms os es so g++L)
def OI.mono {c c'}{ms}{os}{es}{so}(I:OI N c ms os es so)(hc:c<=c'):OI N c' ms os es so:=⟨I.l1,I.l2,I.l3,I.rng,I.wV,ad5 I.c hc,I.mem⟩
def count_set {ms:List Bool}{i}(h:ms[i]?=some false):(ms.set i true).count false+1=ms.count false:=by
 grind
def Ou (z:Z h0 h L)(G:iK h0 s N){x0 i:Nat}(hi:L[i]?=some (.au x0 [aA s,vi root] ai)){a p q}{x}(hx:gt N a=some x)(hp:gt x.items p=some q){f:Int->M β}(hq:Wp (f q) h Q) :
  Wp (sh (dz .sl ((ak x0).plus 0)) λ(y:Sl)=>sh (ni y a 5) λb=>sh (dz .sl (b.plus 4)) λ(y:Sl)=>sh (ni y p 1) λb=>sh (dz li b) f) h Q:=by
 obtain⟨g1,g2⟩:=ax hx;obtain⟨p1,p2⟩:=ax hp;refine z.ld i (x:=s) ?_ hi;refine G.at z g1 g2 λaa ks is nd ik ii=>nd.Hh ?_;exact (ii.fr z.fr).ix p1 p2 λa1 g c=>c.mN rfl rfl hq
def PO (C:OC)(N:List ao)(s:Sl)(root:Int)(c:Nat)(h0:aj):Prop:=
 ∀(n:Nat) (a:Int) (ms:List Bool) (os:ε) (es:List Sl) (so:Sl) (g:Nat) (h:aj) (L:List bA),c*200+Vo+200<=n->gt ms a=some false->OI N c ms os es so->Z h0 h (C.own N s root ms os es so g++L) ->
  Wp (ov n a (ak C.x7) (ak C.x9) (ak C.x0) (ak C.x3) (ak C.cH)) h λ_ h'=>ac8 C N s root c ms (λms'=>gt ms' a=some true) h0 L h'
def QO (C:OC)(N:List ao)(s:Sl)(root:Int)(c:Nat)(h0:aj):Prop:=
 ∀(n i:Nat) (a:Int) (x:ao) (b:Nat) (r:ε) (ms:List Bool) (os:ε) (es:List Sl) (so:Sl) (g:Nat) (h:aj) (L:List bA),c*200+Vo+200+(r.length-i)+1<=n->i<=r.length->r.length<=80->(∀p∈r,0<=p/\p<(x.items.length:Int))->gt N a=some x->OI N c ms os es so ->
  Z h0 h (C.own N s root ms os es so g++.au b (r.map vi) an::L) ->
  Wp (gf n a (ak C.x7) (ak C.x0) (ak C.cH) (arr b r.length) (r.length:Int) (i:Int)) h λ_ h'=>ac8 C N s root c ms (λms'=>∀(j:Nat) (p q:Int),i<=j->r[j]?=some p->gt x.items p=some q->gt ms' q=some true) h0 (.au b (r.map vi) an::L) h'
def ac9 (G:iK h0 s N)(hI:qA N N.length){C}{c}(hP:PO C N s root c h0):QO C N s root c h0:=by
 intro n
 induction n with
 |zero=>intro i a x b r ms os es so g h L h1;omega
 |succ n ih=>
  intro i a x b r ms os es so g h L hn hi hr hp hx I z;rw[Cw];unfold tN;by_cases hlt:i<r.length
  .rw[By (by grind)];obtain⟨p,hpi⟩:=cG hlt;have hpr:=hp p (BY hpi);obtain⟨q,hq⟩:=cG (l:=x.items) (i:=p.toNat) (by omega);have hgq:gt x.items p=some q:=by unfold gt;grind
   obtain⟨y1,y3⟩:=(hI x (aE hx)).2 q (BY hq);obtain⟨mb,hmb⟩:=cG (l:=ms) (i:=q.toNat) (by have:=I.l1;omega);have hgm:gt ms q=some mb:=by unfold gt;grind
   have next:∀{h2:aj} {ms':List Bool} {os':ε} {es':List Sl} {so':Sl} {g':Nat},OD N ms ms'->gt ms' q=some true->OI N c ms' os' es' so'->Z h0 h2 (C.own N s root ms' os' es' so' g'++.au b (r.map vi) an::L) ->
     Wp (gf n a (ak C.x7) (ak C.x0) (ak C.cH) (arr b r.length) (r.length:Int) ((i+1:Nat):Int)) h2 λ_ h'=>ac8 C N s root c ms (λms'=>∀(j:Nat) (p q:Int),i<=j->r[j]?=some p->gt x.items p=some q->gt ms' q=some true) h0 (.au b (r.map vi) an::L) h':=λhd hq2 I' z=>by
    refine (ih (i+1) a x b r _ _ _ _ _ _ L (by omega) (by omega) hr hp hx I' z).mono λ_ h3 hy=>?_;obtain⟨ms2,os2,es2,so2,g2,I2,hd2,hT,z⟩:=hy;refine⟨ms2,os2,es2,so2,g2,I2,hd.trans hd2,λj p' q' hj hjr hgx=>?_,z⟩;by_cases e:j=i
    .subst e;rw[hpi] at hjr;cases hjr;rw[hgq] at hgx;cases hgx;exact hd2.mo q hq2
    .exact hT j p' q' (by omega) hjr hgx
   refine EP (by omega) (by omega) ?_;refine z.ld 8 ?_ rfl (by rw[IS,abt,hpi];rfl) rfl;refine z.ld 0 (x:=arr C.bm N.length) ?_;refine Ou z G (i:=4) rfl hx hgq ?_;refine EP y1 (by omega) ?_;refine z.ld 1 ?_ rfl (by rw[abt,hmb];rfl) rfl;rw[pA hi (by omega)];cases mb with
   |true=>
    rw[AT (by simp)];exact next .aoW hgm I z
   |false=>
    rw[By (by rfl)];refine z.ld 7 ?_;refine Ou z G (i:=4) rfl hx hgq ?_;unfold sJ;rw[By (by rfl),ah,ah];refine lD (c:=(ak C.x7,ak C.x9,ak C.x0,ak C.x3,ak C.cH)) rfl ?_;refine (hP n q ms os es so g h _ (by omega) hgm I z).mono λ_ h2 hy=>?_;obtain⟨ms',os',es',so',g',I',hd,hq2,z⟩:=hy;exact next hd hq2 I' z
  .rw[AT (by grind),ag];exact⟨ms,os,es,so,g,I,.aoW,λj p q hj hjr _=>by grind,z⟩
def YJ (G:iK h0 s N)(d:Vd N root)(fw:mU N){C}{c}(hQ:QO C N s root c h0):PO C N s root (c+1) h0:=by
 have hN:=fw.len;intro n a ms os es so g h L hn ha I z;obtain⟨a1,a2⟩:=ax ha;have a3:=aN a2;have hl1:=I.l1;have hl2:=I.l2;have hl3:=I.l3;have hc1:=I.wV;have hc2:=I.c;have hcs:=count_set a2;obtain⟨x,hx⟩:=cG (l:=N) (i:=a.toNat) (by omega);have hgx:gt N a=some x:=by unfold gt;grind
 have hbd:=fw.map x (BY hx);obtain⟨n,rfl⟩:∃m,n=m+1:=⟨n-1,by omega⟩;rw[FF];unfold xg;refine z.ld 0 (x:=arr C.bm N.length) ?_;refine EP a1 (by omega) ?_;refine z.Cb 1 (by omega) λh2 z=>?_;refine z.ld 2 (x:=so) ?_;refine z.GI 3 (new:=[vi a]) rfl (by decide) rfl (by grind [bJ]) λso' h3 g' hs' z _=>?_;refine z.st 2 λh4 z=>?_;refine z.ld 5 (x:=arr C.be N.length) ?_;refine z.eZ 4 (ls:=[.sl,li]) (x:=(s,root)) ?_;have z:Z h0 h4 (C.own N s root (ms.set a.toNat true) (os++[a]) es so' g'++L):=by rw[OC.own,aiJ];exact z
 refine rQ ?_ (Lm d fw z G hgx (by omega)) λy h5 hy=>?_
 .intro a' ha';simp at ha';subst ha';refine⟨_,_,z.get 5 rfl,λr1 h3 hr1=>?_⟩;obtain⟨b,r,_,_,z⟩:=hr1;exact z.get 6 rfl
 obtain⟨b,r,rfl,hr,z⟩:=hy;have hrl:r.length=x.items.length:=by rw[hr.length_eq,gN]
 refine EP a1 (by omega) ?_;refine z.Cb 7 (xs:=es) (by omega) λh6 z=>?_;refine z.ld 6 (x:=arr C.be N.length) ?_;refine EP a1 (by omega) ?_;refine z.ld 7 (x:=arr b x.items.length) ?_ rfl (by rw[abt,ajo (by omega)];rfl) rfl;have z:Z h0 h6 (C.own N s root (ms.set a.toNat true) (os++[a]) (es.set a.toNat (arr b x.items.length)) so' g'++.au b (r.map vi) an::L):=Z.perm (L:=.au b (r.map vi) an::(C.own N s root (ms.set a.toNat true) (os++[a]) (es.set a.toNat (arr b x.items.length)) so' g'++L)) z List.perm_middle.symm;rw[ah,<-hrl];rw[<-hrl] at z;refine (hQ n 0 a x b r _ _ _ so' g' h6 L (by omega) (by omega) (by omega) (λp hp=>rR (hr.mem_iff.1 hp)) hgx ⟨by grind,by grind,by grind,λq hq=>?_,?_,by omega,λj hj=>?_⟩ z).mono λ_ h7 hy=>?_
 .rcases List.mem_append.1 hq with hq|hq
  .exact I.rng q hq
  grind
 .grind
 .rw[wD a1 a3] at hj;split at hj
  .grind
  .exact aeo _ (I.mem j hj)
 .obtain⟨ms',os',es',so2,g2,I',hd,hT,z⟩:=hy;rw[ag];have ha2:gt ms' a=some true:=hd.mo a (by rw[wD a1 a3,By rfl]);refine⟨ms',os',es',so2,g2,I'.mono (by omega),⟨λj hj=>hd.mo j ?_,λu hu=>?_⟩,ha2,z.sub (aqY (aiv _ _) _)⟩
  .grind [wD]
  .rcases hd.cl u hu with h8|h8
   .rw[wD a1 a3] at h8;split at h8
    .rename_i e;refine .inr λv hv=>?_;obtain⟨x',hx',hvm⟩:=hv;rw[e,hgx] at hx';cases hx';obtain⟨j,hj⟩:=List.mem_iff_getElem?.1 hvm;have hjl:=aN hj;have hji:(j:Int)∈r:=hr.mem_iff.2 (BY (vc hjl));obtain⟨k,hk⟩:=List.mem_iff_getElem?.1 hji;exact hT k (j:Int) v (aea _) hk (by grind [tO])
    grind
   grind
def agP (G:iK h0 s N)(d:Vd N root)(fw:mU N) C:∀c,PO C N s root c h0:=by
 intro c
 induction c with
 |zero=>
  intro n a ms os es so g h L hn ha I z;have:=count_set (ax ha).2;have:=I.c;omega
 |succ c ih=>exact YJ G d fw (ac9 G d.ix ih)
def amT (fw:mU N)(z:Z h0 h L)(G:iK h0 s N)(hg:gc N root=0){n}(hn:Vo+9000<=n) :
  Wp (zJ n (s,root)) h λy h'=>∃(os:ε) (g:Nat),(∀x∈os,0<=x/\x<(N.length:Int))/\os.length<=N.length/\(∀v,qS N root v->v∈os)/\y.1.len=os.length/\Z h0 h' (.sl y.1 1 an (os.map vi) g::L):=by
 have d:=fw.vdg hg;have hN:=fw.len;unfold zJ;refine z.new λx0 h1 z _=>?_;refine z.ld 0 ?_;rw[G.len];refine z.Ig (ajm _) (by grind [bJ]) λbe h2 z f2=>?_;rw[IS] at z⊢;rw[show (List.replicate N.length [aI]).flatten=(List.replicate N.length oz).map aA from lH (enc:=aA) (x:=oz) _] at z;refine z.new λx3 h3 z _=>z.st 0 λh4 z=>?_;refine z.ld 2 (x:=s) ?_;rw[G.len];refine z.Ig (ajm _) (by grind [bJ]) λbm h5 z f2=>?_;rw[IS] at z⊢;rw[lH] at z;refine z.new λx7 h6 z _=>z.st 0 λh7 z=>?_;refine z.new λx9 h8 z _=>?_;refine z.new λcH h9 z _=>z.st 0 λh10 z=>?_;refine z.ld 0 (x:=(⟨x7,bm,x9,x0,x3,be,cH⟩:OC).fn) ?_;refine z.ld 6 (x:=root) ?_;have z:=z.add (Fr.refl z.wf) (o:=.sl ⟨none,0,0⟩ 1 an [] 0) nv.nil (.inl rfl);have z:Z h0 h10 ((⟨x7,bm,x9,x0,x3,be,cH⟩:OC).own N s root (List.replicate N.length false) [] (List.replicate N.length oz) oz 0++L):=Z.iH (pre:=[_,_,_,_,_,_,_,_]) z [3,4,2,0,7,5,6,1] (by simp only[acg,agy];decide);obtain⟨g1,g2⟩:=d.rt;rw[ah];unfold xh;rw[By (by rfl),ah];refine lD (c:=(ak x7,ak x9,ak x0,ak x3,ak cH)) rfl ?_;have grep:∀{j:Int},gt (List.replicate N.length false) j≠some true:=λ{j} hj=>by
  obtain⟨j1,j2⟩:=ax hj
  grind
 refine (agP G d fw _ N.length n root (List.replicate N.length false) [] (List.replicate N.length oz) oz 0 h10 L (by omega) (by grind [gt]) ⟨aeP,aeP,rfl,(λx hx=>by cases hx),by simp,by simp,λj hj=>(grep hj).elim⟩ z).mono λ_ h11 hy=>?_;obtain⟨ms,os,es,so,g,I,hd,hrt,z⟩:=hy;refine z.ld 2 (x:=so) ?_;refine z.ld 5 (x:=arr be N.length) ?_;rw[ag];have:=I.wV;refine⟨os,g,I.rng,by omega,λv hv=>I.mem v ?_,I.l3,z.drop.drop.drop.sub (List.Sublist.cons₂ _ (List.Sublist.cons _ (List.Sublist.cons _ (List.Sublist.cons _ (aiv _ _)))))⟩
 induction hv with
 |refl=>exact hrt
 |step _ e ih=>exact (hd.cl _ ih).elim (λx=>(grep x).elim) λx=>x _ e
end Go.Sh
namespace Go.Ago
open Go
variable {α β:Type}{h h' h0:aj}{L:List bA}{Q:β->aj->Prop}
def Z.aoX (z:Z h0 h L)(i:Nat){s}{e}{cs}{g}(hi:L[i]?=some (.ps s 1 e cs g)){k}(hk:k<cs.length){f}
  (q:∀s',s'.len=cs.length-k->Ago.EU s' 1 h=some (cs.drop k,h)->Wp (f s') h Q):Wp (sh (jH s (k:Int) (s.len:Int) e 1) f) h Q:=by
 have o:Aw h s 1 e cs g:=z.get i hi;obtain⟨h1,h2⟩:=o;rcases h2 with⟨rfl,_⟩|⟨g1,g2,c0,b,base,c,ha,hg,ht⟩
 .simp at h1;subst h1;simp at hk
 have hle:cs.length<=c.length:=by grind
 rw[ah];refine rV (by omega) (by omega) (by omega) (by unfold mM;simp_all) (q _ (by grind) ?_);have e1:(k:Int).toNat*1=k:=by omega
 have e2:((s.len:Int).toNat-(k:Int).toNat)*1=cs.length-k:=by omega
 obtain⟨m,hm⟩:∃m,(s.len:Int).toNat-(k:Int).toNat=m+1:=⟨cs.length-k-1,by omega⟩;unfold Ago.EU aX;simp only[ha,apm,Addr.plus,hg,e1,hm,ad6];rw[By (by omega)]
 grind [List.drop_take]
end Go.Ago
namespace Go.Sh
open Go Go.Ago Go.Proofs
variable {α β:Type}{h h' h0:aj}{L:List bA}{Q:β->aj->Prop}{s:Sl}{root:Int}{N:List ao}
structure CY where
 x5:Nat
 bm:Nat
 x7:Nat
 x0:Nat
 x8:Nat
 x9:Nat
def CY.fn (c:CY):ξ:=Value.func (Fn.func rX) #[] #[pv c.x5,pv c.x7,pv c.x0,pv c.x8,pv c.x9]
def CY.own (c:CY)(N:List ao)(s:Sl)(root:Int)(ms os:ε)(so:Sl)(g:Nat):List bA:=
 [.au c.x5 [aA (arr c.bm N.length)] aT,.au c.bm (ms.map vi) an,.au c.x7 [aA so] aT,.ps so 1 an (os.map vi) g,.au c.x0 [aA s,vi root] ai,.au c.x9 [c.fn] CW,.au c.x8 [aA oz] aT]
def YR {γ:Type}(C:CY)(N:List ao)(s:Sl)(root:Int)(ms os F:ε)(T:ε->Prop)(h0:aj)(L:List bA)(t f:γ)(y:γ)(h':aj):Prop:=
 (y=t/\¬Vp N root/\∃v8,Z h0 h' (.au C.x8 [aA v8] aT::L)) \/
 (y=f/\∃ms' so g F',YG N root ms' os F'/\(∀u∈F,u∈F')/\ms'.count 0<=ms.count 0/\T F'/\Z h0 h' (C.own N s root ms' os so g++L))
def PY (C:CY)(N:List ao)(s:Sl)(root:Int)(c:Nat)(h0:aj):Prop:=
 ∀(n:Nat) (a:Int) (ms os F:ε) (so:Sl) (g:Nat) (h:aj) (L:List bA),c*200+Vo+200<=n->gt ms a=some 0->ms.count 0<=c->YG N root ms os F->qS N root a->(∀u,os.getLast?=some u->IE N u a)->Z h0 h (C.own N s root ms os so g++L) ->
  Wp (mE n a (ak C.x5) (ak C.x7) (ak C.x0) (ak C.x8) (ak C.x9)) h λy h'=>YR C N s root ms os F (λF'=>a∈F') h0 L true false y h'
def QY (C:CY)(N:List ao)(s:Sl)(root:Int)(c:Nat)(h0:aj):Prop:=
 ∀(n i:Nat) (a:Int) (x:ao) (b:Nat) (r ms os F:ε) (so:Sl) (g:Nat) (h:aj) (L:List bA),c*200+Vo+200+(r.length-i)+1<=n->i<=r.length->r.length<=80->(∀p∈r,0<=p/\p<(x.items.length:Int))->gt N a=some x->qS N root a->ms.count 0<=c->YG N root ms (os++[a]) F ->
  Z h0 h (C.own N s root ms (os++[a]) so g++.au b (r.map vi) an::L) ->
  Wp (fE n a (ak C.x5) (ak C.x7) (ak C.x0) (ak C.x8) (ak C.x9) (arr b r.length) (r.length:Int) (i:Int)) h λy h'=>YR C N s root ms (os++[a]) F (λF'=>∀(j:Nat) (p q:Int),i<=j->r[j]?=some p->gt x.items p=some q->q∈F') h0 (.au b (r.map vi) an::L) (.inr true) (.inl ()) y h'
def amU {C:CY}{ms os}{so}{g}{q}(z:Z h0 h (C.own N s root ms os so g++L))(hb:os.length<1073741824) a1 :
  ∀n i ,i+1<=n->i<os.length->(∃j,j<=i/\os[j]?=some q)->Wp (jc n (ak C.x7) a1 q (i:Int)) h λk h'=>h'=h/\∃k':Nat,k=(k':Int)/\k'<=i:=by
 intro n
 induction n with
 |zero=>intro i h1;omega
 |succ n ih=>
  intro i h1 hi hj;rw[BG];unfold sH;obtain⟨w,hw⟩:=cG hi;have hps:Aw h so 1 an (os.map vi) g:=z.get 3 rfl;refine z.ld 2 (x:=so) ?_;refine hps.BX.Jf (by omega) (by simpa using hw) λa cl=>cl.mN rfl rfl ?_;by_cases c:w=q
  .rw[AT (by grind),ag]
   grind
  .rw[By (by grind)];obtain⟨j,j1,j2⟩:=hj;have hne:j≠i:=λe=>by grind
   have e1:IntKind.i64.wrap ((i:Int)-1)=((i-1:Nat):Int):=by
    rw[IntWalk.i64_in _ ⟨by omega,by omega⟩];omega
   rw[e1];refine (ih (i-1) (by omega) (by omega) ⟨j,by omega,j2⟩).mono λk h' hy=>?_
   grind
def ada (G:iK h0 s N)(hI:qA N N.length)(hN:N.length<=40){C}{c}(hP:PY C N s root c h0):QY C N s root c h0:=by
 intro n
 induction n with
 |zero=>intro i a x b r ms os F so g h L h1;omega
 |succ n ih=>
  intro i a x b r ms os F so g h L hn hi hr hp hx hra hc I z;rw[BH];unfold sI;by_cases hlt:i<r.length
  .rw[By (by grind)];obtain⟨p,hpi⟩:=cG hlt;have hpr:=hp p (BY hpi);obtain⟨q,hq⟩:=cG (l:=x.items) (i:=p.toNat) (by omega);have hqm:=BY hq;have hgq:gt x.items p=some q:=by grind [gt]
   obtain⟨y1,y3⟩:=(hI x (aE hx)).2 q hqm;have hie:IE N a q:=⟨x,hx,hqm⟩;have hl1:=I.l1;have hpp:=I.p;obtain⟨mb,hmb⟩:=cG (l:=ms) (i:=q.toNat) (by omega);have hgm:gt ms q=some mb:=by unfold gt;grind
   refine EP (by omega) (by omega) ?_;refine z.ld 7 ?_ rfl (by rw[IS,abt,hpi];rfl) rfl;refine Ou z G (i:=4) rfl hx hgq ?_;refine z.ld 0 (x:=arr C.bm N.length) ?_;refine EP y1 (by omega) ?_;refine z.ld 1 ?_ rfl (by rw[abt,hmb];rfl) rfl;have hps:Aw h so 1 an ((os++[a]).map vi) g:=z.get 3 rfl;have hsl:so.len=os.length+1:=by rw[hps.BX.Hg,acm];rfl
   rw[acm,ad4] at hpp;have next:∀{h2:aj} {ms' F':ε} {so':Sl} {g':Nat},ms'.count 0<=ms.count 0->(∀u∈F,u∈F')->q∈F'->YG N root ms' (os++[a]) F'->Z h0 h2 (C.own N s root ms' (os++[a]) so' g'++.au b (r.map vi) an::L) ->
     Wp (fE n a (ak C.x5) (ak C.x7) (ak C.x0) (ak C.x8) (ak C.x9) (arr b r.length) (r.length:Int) ((i+1:Nat):Int)) h2 λy h'=>YR C N s root ms (os++[a]) F (λF'=>∀(j:Nat) (p q:Int),i<=j->r[j]?=some p->gt x.items p=some q->q∈F') h0 (.au b (r.map vi) an::L) (.inr true) (.inl ()) y h':=λhc' hF hqF I' z'=>by
    refine (ih (i+1) a x b r _ os _ _ _ _ L (by omega) (by omega) hr hp hx hra (by omega) I' z').mono λy h3 hy=>?_;rcases hy with hy|⟨rfl,ms2,so2,g2,F2,I2,hF2,hc2,hT,z⟩
    .exact .inl hy
    .refine .inr ⟨rfl,ms2,so2,g2,F2,I2,λu hu=>hF2 u (hF u hu),by omega,λj p' q' hj hjr hgx=>?_,z⟩
     grind
   rcases I.v q mb hgm with rfl|rfl|rfl
   ·-- fresh
    rw[AT (by simp)];refine z.ld 0 (x:=arr C.bm N.length) ?_;refine EP y1 (by omega) ?_;refine z.ld 1 (x:=0) ?_ rfl (by rw[abt,hmb];rfl) rfl;rw[pA hi (by omega)];rw[By (by rfl)];refine z.ld 5 ?_;unfold rP;rw[By (by rfl),ah,ah];refine lD (c:=(ak C.x5,ak C.x7,ak C.x0,ak C.x8,ak C.x9)) rfl ?_;refine (hP n q ms (os++[a]) F so g h _ (by omega) hgm hc I (hra.step hie) (λu hu=>?_) z).mono λy h2 hy=>?_
    .grind
    rcases hy with⟨rfl,hcy,v8,z⟩|⟨rfl,ms',so',g',F',I',hF',hc',hqF,z⟩
    .rw[By rfl,ag];exact .inl ⟨rfl,hcy,v8,z⟩
    .rw[AT (by simp)];exact next hc' hF' hqF I' z
   ·-- on the way: a cycle
    rw[By (by rfl)];refine z.ld 2 (x:=so) ?_;have e1:IntKind.i64.wrap ((so.len:Int)-1)=((os.length:Nat):Int):=by
     rw[hsl,IntWalk.i64_in _ ⟨by omega,by omega⟩];omega
    rw[e1,ah];obtain⟨j,hj⟩:=List.mem_iff_getElem?.1 ((I.op q).1 hgm);have hjl:=aN hj;rw[acm,ad4] at hjl;have hlen:(os++[a]).length=os.length+1:=(by simp);refine (amU z (by omega) (ak C.x8) n os.length (by omega) (by omega) ⟨j,by omega,hj⟩).mono λk h2 hy=>?_;obtain⟨rfl,k,rfl,hk⟩:=hy;refine z.new λx12 h3 z _=>?_;refine z.ld 3 (x:=so) ?_;refine z.aoX 4 rfl (by rw[aii];omega) λs' hs' hrd=>?_;rw[ah];refine⟨_,_,hrd,?_⟩;rw[aii] at hs';refine z.amL 0 rfl (by omega) (by rw[apP,aii];omega) (by unfold bJ;omega) λb' h4 z=>?_;refine z.st 8 λh5 z=>?_;rw[ag];exact .inl ⟨rfl,I.cyc hgm hie,_,z.drop.drop.drop.drop.drop.drop.drop.drop⟩
   ·-- done
    rw[AT (by simp)];refine z.ld 0 (x:=arr C.bm N.length) ?_;refine EP y1 (by omega) ?_;refine z.ld 1 (x:=2) ?_ rfl (by rw[abt,hmb];rfl) rfl;rw[pA hi (by omega)];rw[AT (by simp)];exact next (acX _) (λ_ hu=>hu) ((I.fi q).1 hgm) I z
  .rw[AT (by grind),ag];exact .inr ⟨rfl,ms,so,g,F,I,λ_ hu=>hu,acX _,λj p q hj hjr _=>by grind,z⟩
def YK (G:iK h0 s N)(d:Vd N root)(fw:mU N){C}{c}(hQ:QY C N s root c h0):PY C N s root (c+1) h0:=by
 have hN:=fw.len;intro n a ms os F so g h L hn ha hc I hra hla z;obtain⟨a1,a2⟩:=ax ha;have a3:=aN a2;have hl1:=I.l1;have hc2:=I.p;have hcs:=DQ (v:=1) a2 (by decide);rw[By rfl] at hcs;obtain⟨x,hx⟩:=cG (l:=N) (i:=a.toNat) (by omega);have hgx:gt N a=some x:=by unfold gt;grind
 have hbd:=fw.map x (BY hx);have hao:a∉os:=λhm=>by have:=(I.op a).2 hm;grind
 obtain⟨n,rfl⟩:∃m,n=m+1:=⟨n-1,by omega⟩;rw[EC];unfold wc;refine z.ld 0 (x:=arr C.bm N.length) ?_;refine EP a1 (by omega) ?_;refine z.Cb 1 (by omega) λh2 z=>?_;refine z.ld 2 (x:=so) ?_;have hso:so.len=os.length:=(Aw.BX (z.get 3 rfl)).Hg;refine z.Wc 3 (new:=[vi a]) rfl (by decide) rfl (by grind [bJ]) λso' h3 g' hs' z _=>?_;refine z.st 2 λh4 z=>?_;refine z.eZ 4 (ls:=[.sl,li]) (x:=(s,root)) ?_;have z:Z h0 h4 (C.own N s root (ms.set a.toNat 1) (os++[a]) so' g'++L):=by rw[CY.own,aiJ];exact z
 rw[ah];refine (Lm d fw z G hgx (by omega)).mono λy h5 hy=>?_;obtain⟨b,r,rfl,hr,z⟩:=hy;have hrl:r.length=x.items.length:=by rw[hr.length_eq,gN]
 have z:Z h0 h5 (C.own N s root (ms.set a.toNat 1) (os++[a]) so' g'++.au b (r.map vi) an::L):=z.perm List.perm_middle.symm;rw[ah,<-hrl];refine (hQ n 0 a x b r _ os F so' g' h5 L (by omega) (by omega) (by omega) (λp hp=>rR (hr.mem_iff.1 hp)) hgx hra (by omega) (I.push ha hra hla) z).mono λy h6 hy=>?_;rcases hy with⟨rfl,hcy,v8,z⟩|⟨rfl,ms',so2,g2,F',I',hF',hc',hT,z⟩
 .show Wp (AI true) _ _;rw[ag];exact .inl ⟨rfl,hcy,v8,z.sub (List.Sublist.cons₂ _ (aiv _ _))⟩
 have hl':=I'.l1;have hpp:=I'.p;rw[acm,ad4] at hpp;have hps:Aw h6 so2 1 an ((os++[a]).map vi) g2:=z.get 3 rfl;have hsl:so2.len=os.length+1:=by rw[hps.BX.Hg,acm];rfl
 have e1:IntKind.i64.wrap ((so2.len:Int)-1)=((so2.len:Nat):Int)-1:=IntWalk.i64_in _ ⟨by omega,by omega⟩;obtain⟨w,hw⟩:=cG (l:=ms') (i:=a.toNat) (by omega);have hcw:=DQ (v:=2) hw (by decide);show Wp (sh (dz .sl (ak C.x5)) _) _ _;refine z.ld 0 (x:=arr C.bm N.length) ?_;refine EP a1 (by omega) ?_;refine z.Cb 1 (xs:=ms') (by omega) λh7 z=>?_;refine z.ld 2 (x:=so2) ?_;refine z.ld 2 (x:=so2) ?_;rw[e1];refine z.aoc 3 (by show some (bA.ps so2 1 an ((os++[a]).map vi) g2)=_;rw[aiJ];rfl) λso3 hs3 z=>?_;refine z.st 2 λh8 z=>?_;rw[ag];refine .inr ⟨rfl,ms'.set a.toNat 2,so3,g2,F'++[a],I'.pop hao λv hv=>?_,λu hu=>aeo _ (hF' u hu),by grind,by simp,?_⟩
 .obtain⟨x',hx',hvm⟩:=hv;rw[hgx] at hx';cases hx';obtain⟨j,hj⟩:=List.mem_iff_getElem?.1 hvm;have hjl:=aN hj;have hji:(j:Int)∈r:=hr.mem_iff.2 (BY (vc hjl));obtain⟨k,hk⟩:=List.mem_iff_getElem?.1 hji;exact hT k (j:Int) v (aea _) hk (by grind [tO])
 .exact z.sub (aqY (aiv _ _) _)
def agQ (G:iK h0 s N)(d:Vd N root)(fw:mU N) C:∀c,PY C N s root c h0:=by
 intro c
 induction c with
 |zero=>
  intro n a ms os F so g h L hn ha hc I hra hla z;have h7:=DQ (v:=1) (ax ha).2 (by decide);rw[By rfl] at h7;omega
 |succ c ih=>exact YK G d fw (ada G d.ix fw.len ih)
def aqm (fw:mU N)(z:Z h0 h L)(G:iK h0 s N)(hg:gc N root=0){n}(hn:Vo+9000<=n) :
  Wp (xS n (s,root)) h λy h'=>(y.2=true↔¬Vp N root)/\Z h0 h' L:=by
 have d:=fw.vdg hg;have hN:=fw.len;have hz:80000<=YE:=ap0 _ _;have hD:Vo=YE+10000:=rfl;have hK:KF=7000:=rfl;unfold xS;refine z.new λx0 h1 z _=>?_;refine z.eZ 0 (ls:=[.sl,li]) (x:=(s,root)) ?_;rw[ah];refine (wU z G fw.bd fw.ht (by omega) (fw.gc root)).mono λy h2 hy=>?_;obtain⟨rfl,z⟩:=hy;rw[AT (by grind)];refine z.ld 0 (x:=s) ?_;rw[G.len];refine z.Ig (ajm _) (by grind [bJ]) λbm h3 z _=>?_;rw[IS] at z⊢;rw[lH] at z;refine z.new λx5 h4 z _=>z.st 0 λh5 z=>?_;refine z.new λx7 h6 z _=>?_;refine z.new λx8 h7 z _=>?_;refine z.new λx9 h8 z _=>z.st 0 λh9 z=>?_;refine z.ld 0 (x:=(⟨x5,bm,x7,x0,x8,x9⟩:CY).fn) ?_;refine z.ld 5 (x:=root) ?_;have z:=z.add (Fr.refl z.wf) (o:=.ps ⟨none,0,0⟩ 1 an [] 0) Aw.nil (.inl rfl);have z:Z h0 h9 ((⟨x5,bm,x7,x0,x8,x9⟩:CY).own N s root (List.replicate N.length 0) [] oz 0++L):=Z.iH (pre:=[_,_,_,_,_,_,_]) z [4,5,3,0,6,1,2] (by simp only[acg,agy];decide);obtain⟨g1,g2⟩:=d.rt;rw[ah];unfold we;rw[By (by rfl),ah];refine lD (c:=(ak x5,ak x7,ak x0,ak x8,ak x9)) rfl ?_;have grep:∀{j w:Int},gt (List.replicate N.length (0:Int)) j=some w->w=0:=λ{j w} hj=>by
  obtain⟨j1,j2⟩:=ax hj
  grind
 have I0:YG N root (List.replicate N.length 0) [] []:=by
  refine⟨aeP,by simp,λj w hj=>.inl (grep hj),λj=>⟨λhj=>?_,λhj=>?_⟩,λj=>⟨λhj=>?_,λhj=>?_⟩,λi u v hu=>?_,λi u w hu=>?_,λu hu=>?_⟩
  .grind
  .cases hj
  .grind
  .cases hj
  .cases hu
  .cases hu
  grind
 refine (agQ G d fw _ N.length n root (List.replicate N.length 0) [] [] oz 0 h9 _ (by omega) (by grind [gt]) (by simp) I0 .refl (λu hu=>(by cases hu)) z).mono λy h10 hy=>?_;rcases hy with⟨rfl,hcy,v8,z⟩|⟨rfl,ms',so',g',F',I',_,_,hrF,z⟩
 .refine z.ld 0 (x:=v8) ?_;rw[ag];exact⟨⟨λ_=>hcy,λ_=>rfl⟩,z.drop⟩
 .refine z.ld 6 (x:=oz) ?_;rw[ag];exact⟨⟨λe=>(by cases e),λhn=>(hn (I'.ok.cya hrF)).elim⟩,z.drop.drop.drop.drop.drop.drop.drop⟩
end Go.Sh
