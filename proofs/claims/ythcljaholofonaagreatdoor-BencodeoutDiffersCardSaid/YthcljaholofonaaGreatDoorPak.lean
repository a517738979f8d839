
import Derived.Test.YthcljaholofonaaGreatDoorPaj
set_option linter.all false
namespace Go.Sh
open Go Go.Ago Go.Proofs
section
variable {α β:Type}{h h' h0 h1:aj}{L:List bA}{Q:β->aj->Prop}{N:List ao}{s:Sl}{root:Int}{x:ao}
def RT (h:aj)(N:List ao)(rs:Sl):Prop:=∃P:List (Nat×List Bool),P.length=N.length/\(∃g,wK h rs 1 (P.map λp=>aA (arr p.1 N.length)) g)/\∀(i:Nat) p,P[i]?=some p->RM N (i:Int) p.2/\∃g,wK h (arr p.1 N.length) 1 (p.2.map Value.bool) g
def RT.rd {rs}(R:RT h0 N rs)(f0:Fr (λ_=>False) h0 h){u v}(hu:IR N.length u)(hv:IR N.length v){f:Bool->M β}(q:∀b:Bool,(b=true↔ow N u v)->Wp (f b) h Q) :
  Wp (sh (ni rs u 1) λx2=>sh (dz .sl x2) λ(x3:Sl)=>sh (ni x3 v 1) λx4=>sh (dz .bool x4) f) h Q:=by
 obtain⟨P,hl,⟨g,r⟩,hp⟩:=R;have hu2:=hu;have hv2:=hv;unfold IR at hu2 hv2;obtain⟨p,ep⟩:=cG (l:=P) (i:=u.toNat) (by omega);obtain⟨rm,g2,r2⟩:=hp _ p ep;rw[show ((u.toNat:Nat):Int)=u by omega] at rm;obtain⟨b,eb⟩:=cG (i:=v.toNat) (by rw[rm.1];omega);refine (r.fr f0 λhx=>hx.elim).Jf hu2.1 ep λa c=>c.mN (x:=arr p.1 N.length) rfl rfl ?_;refine (r2.fr f0 λhx=>hx.elim).Jf hv2.1 eb λa c=>c.mN rfl rfl ?_;refine q b ?_;rw[<-rm.2]
 grind [gt]
def RB (N:List ao)(P:List (Nat×List Bool)):List bA:=P.reverse.map λp=>.au p.1 (p.2.map Value.bool) e9
def anm (G:iK h0 s N)(hI:qA N N.length)(hB:Bd N 80){x0} :
  ∀n i a1 g P h ,N.length-i+300<n->P.length=i->i<=N.length->(∀(j:Nat) p,P[j]?=some p->RM N (j:Int) p.2) ->
   Z h0 h (.sl a1 1 mW (P.map λp=>aA (arr p.1 N.length)) g::.au x0 [aA s,vi root] ai::(RB N P++L)) ->
   Wp (jA n (ak x0) a1 (i:Int)) h λy h'=>RT h' N y/\Z h0 h' (.au x0 [aA s,vi root] ai::L):=by
 have hNB:=hB.1;intro n
 induction n with
 |zero=>intro i a1 g P h h1;omega
 |succ n ih=>
  intro i a1 g P h h1 hP h2 hp z;rw[yN];unfold o9;refine z.ld 1 (x:=s) ?_;rw[G.len];by_cases hi:i<N.length
  .rw[By (by grind)];refine z.eZ 1 (ls:=[.sl,li]) (x:=(s,root)) ?_;rw[ah];refine (Lz z G hI hB ⟨by omega,by omega⟩ (by omega)).mono λr h3 hr=>?_;obtain⟨b,ms,rfl,rm,z⟩:=hr;have o:nv h3 a1 1 mW (P.map λp=>aA (arr p.1 N.length)) g:=z.get 1 rfl;have hs:a1.len=P.length:=by have:=o.1;grind
   refine z.GI 1 (new:=[aA (arr b N.length)]) rfl (by decide) rfl (by grind [bJ]) λs' h5 g' hs' z _=>?_;rw[pA h2 (by omega)];have z:=Z.iH (pre:=[.au b (ms.map Value.bool) e9,.sl s' 1 mW ((P.map λp=>aA (arr p.1 N.length))++[aA (arr b N.length)]) g',.au x0 [aA s,vi root] ai]) z [1,2,0] (by simp only[acg,agy];decide);refine ih (i+1) s' g' (P++[(b,ms)]) h5 (by omega) (by grind) (by omega) (λj p hj=>?_) ?_
   .by_cases hlt:j<P.length
    .grind
    .have hj2:=aN hj;rw[acm,ad4] at hj2;obtain rfl:j=P.length:=by omega
     grind
   .rw[aiJ];unfold RB;rw[List.reverse_append];exact z
  .rw[AT (by grind),ag];obtain rfl:i=N.length:=by omega
   have o:nv h a1 1 mW (P.map λp=>aA (arr p.1 N.length)) g:=z.get 0 rfl;refine⟨⟨P,hP,⟨g,o.BX⟩,λj p hj=>⟨hp j p hj,?_⟩⟩,z.sub (.cons _ (.cons₂ _ (aiL _ _)))⟩;have hm:bA.au p.1 (p.2.map Value.bool) e9∈RB N P:=List.mem_map.2 ⟨p,List.mem_reverse.2 (BY hj),rfl⟩;have l:LB h p.1 (p.2.map Value.bool) e9:=(z.own _ (IN _ (IN _ (aeo _ hm)))).1;exact⟨_,l.BX (by rw[aii,(hp j p hj).1,adY])⟩
def ann (G:iK h s N)(hI:qA N N.length){rs}(R:RT h N rs){x0}(hw:WF h)(c:Cl h (ak x0) [aA s,vi root] (x0+1)){i:Nat}(hx:N[i]?=some x)(hl:x.items.length<=80) :
  ∀n k t ,x.items.length-k<n->k<=x.items.length->Wp (jy n (ak x0) rs t (i:Int) (k:Int)) h λ_ h'=>h'=h:=by
 have z:=Z.start hw;intro n
 induction n with
 |zero=>intro k t h1;omega
 |succ n ih=>
  intro k t h1 h2;rw[yL];unfold o7;refine c.ld (x:=s) rfl rfl ?_;refine G.at z (by omega) (by simpa using hx) λa ks is nd ik ii=>nd.Hh ?_;rw[ii.len];by_cases hk:k<x.items.length
  .rw[By (by grind),pA h2 (by omega)];by_cases ht:t=true
   .rw[By ht];obtain⟨y,hy⟩:=cG hk;refine c.ld (x:=s) rfl rfl ?_;refine G.at z (by omega) (by simpa using hx) λa ks is nd ik ii=>nd.Hh ?_;refine ii.ix (by omega) (by simpa using hy) λa g cl=>cl.mN rfl rfl ?_;refine R.rd (Fr.refl hw) ((hI x (BY hx)).2 y (BY hy)) ⟨by omega,by grind⟩ λb _=>?_;exact ih (k+1) _ (by omega) (by omega)
   .rw[AT ht];exact ih (k+1) _ (by omega) (by omega)
  .rw[AT (by grind),ag]
def ano (G:iK h s N)(hI:qA N N.length)(hB:Bd N 80){rs}(R:RT h N rs){x0}(hw:WF h)(c:Cl h (ak x0) [aA s,vi root] (x0+1)) :
  ∀n i t ,N.length-i+90<n->i<=N.length->Wp (jz n (ak x0) rs t (i:Int)) h λ_ h'=>h'=h:=by
 have hNB:=hB.1;intro n
 induction n with
 |zero=>intro i t h1;omega
 |succ n ih=>
  intro i t h1 h2;rw[yM];unfold o8;refine c.ld (x:=s) rfl rfl ?_;rw[G.len];by_cases hi:i<N.length
  .rw[By (by grind)];obtain⟨x,hx⟩:=cG hi;have hbx:=(hB.2.2 x (BY hx)).2;rw[ah];refine (ann G hI R hw c hx hbx n 0 t (by omega) (aea _)).mono λy h3 hy=>?_;subst hy;rw[pA h2 (by omega)];exact ih (i+1) y (by omega) (by omega)
  .rw[AT (by grind),ag]
def DN (N:List ao)(f:Int->Int)(dn:ε):Prop:=dn.length=N.length/\∀u v,gt dn u=some v->0<=v/\v<=f u
def LgT (h0:aj)(N:List ao)(s rs:Sl)(root:Int)(f:Int->Int)(c:Nat):Prop:=∀(n:Nat) (at':Int) (dn:ε) (h:aj) (L:List bA) (b cap:Nat),c*300+300<n->IR N.length at'->f at'<=(c:Int)->DN N f dn->Z h0 h (.au b (dn.map vi) an::L) ->
 Wp (ia n (s,root) rs ⟨some ⟨b,0,none⟩,N.length,cap⟩ at') h λy h'=>1<=y/\y<=f at'/\∃dn',DN N f dn'/\Z h0 h' (.au b (dn'.map vi) an::L)
def apb (t:TG N root){f}(D:DF N f){rs}(R:RT h0 N rs){c}(LG:LgT h0 N s rs root f c){at'}(ha:IR N.length at')(hfa:f at'<=(c:Int)+1){xs:ε}(hxs:∀y∈xs,Edge N at' y/\IR N.length y)(hl:xs.length<=160){a7}{ga}(h7:a7.len=xs.length){x0 b cap} a4 a6 :
  ∀n k best dn h L ,xs.length-k+c*300+301<n->k<=xs.length->0<=best->best<=f at' - 1->DN N f dn->Z h0 h (.au b (dn.map vi) an::.au x0 [aA s,vi root] ai::.sl a7 1 an (xs.map vi) ga::L) ->
   Wp ((aD.at n).eg rs ⟨some ⟨b,0,none⟩,N.length,cap⟩ at' (ak x0) a4 best a6 a7 (k:Int)) h λy h'=>0<=y/\y<=f at' - 1/\∃dn',DN N f dn'/\Z h0 h' (.au b (dn'.map vi) an::.au x0 [aA s,vi root] ai::.sl a7 1 an (xs.map vi) ga::L):=by
 intro n
 induction n with
 |zero=>intro k best dn h L h1;omega
 |succ n ih=>
  intro k best dn h L h1 h2 hb0 hb1 hd z;show Wp (mO (aD.at n) n _ _ _ _ _ _ _ _ _) h _;unfold mO;rw[h7];by_cases hk:k<xs.length
  .rw[By (by grind)];obtain⟨y,hy⟩:=cG hk;obtain⟨ey,iy⟩:=hxs y (BY hy);have hfy:=t.step D ey;have os:nv h a7 1 an (xs.map vi) ga:=z.get 2 rfl;refine (nv.BX os).Jf (by omega) (by simpa using hy) λaa cl=>cl.mN rfl rfl ?_;refine R.rd z.fr iy ha λbb hbb=>?_;have hbf:bb=false:=by
    cases bb with
    |false=>rfl
    |true=>exact absurd (hbb.1 rfl) (t.nc _ _ ey)
   subst hbf;rw[By (by rfl)];refine (nv.BX os).Jf (by omega) (by simpa using hy) λaa cl=>?_;refine z.eZ 1 (ls:=[.sl,li]) (x:=(s,root)) ?_;refine cl.mN rfl rfl ?_;rw[ah];refine (LG n y dn h _ b cap (by omega) iy (by omega) hd z).mono λr h3 hr=>?_;obtain⟨r1,r2,dn',hd',z⟩:=hr;rw[pA h2 (by omega)];refine ih (k+1) _ dn' h3 L (by omega) (by omega) ?_ ?_ hd' z
   .grind
   grind
  .rw[AT (by grind),ag]
   grind
def apc (G:iK h0 s N)(t:TG N root)(hB:Bd N 80){f}(D:DF N f){rs}(R:RT h0 N rs){c}(LG:LgT h0 N s rs root f c){at'}(ha:IR N.length at')(hfa:f at'<=(c:Int)+1){x0 b cap} :
  ∀n i w best dn h L ,N.length-i+c*300+500<n->i<=N.length->((i:Int)<=at'->w=0/\best=0)->(at'<(i:Int)->w=1/\0<=best/\best<=f at' - 1)->DN N f dn->Z h0 h (.au b (dn.map vi) an::.au x0 [aA s,vi root] ai::L) ->
   Wp ((aD.at n).bZ rs ⟨some ⟨b,0,none⟩,N.length,cap⟩ at' (ak x0) w best (i:Int)) h λy h'=>y.1=1/\0<=y.2/\y.2<=f at' - 1/\∃dn',DN N f dn'/\Z h0 h' (.au b (dn'.map vi) an::.au x0 [aA s,vi root] ai::L):=by
 have hNB:=hB.1;have hir:=ha;unfold IR at hir;intro n
 induction n with
 |zero=>intro i w best dn h L h1;omega
 |succ n ih=>
  intro i w best dn h L h1 h2 w1 w2 hd z;show Wp (mP (aD.at n) n _ _ _ _ _ _ _) h _;unfold mP;refine z.ld 1 (x:=s) ?_;rw[G.len];by_cases hi:i<N.length
  .rw[By (by grind)];have ii:IR N.length (i:Int):=⟨by omega,by omega⟩;have skip:(i:Int)≠at'->Wp ((aD.at n).bZ rs ⟨some ⟨b,0,none⟩,N.length,cap⟩ at' (ak x0) w best (IntKind.i64.wrap ((i:Int)+1))) h λy h'=>y.1=1/\0<=y.2/\y.2<=f at' - 1/\∃dn',DN N f dn'/\Z h0 h' (.au b (dn'.map vi) an::.au x0 [aA s,vi root] ai::L):=λhne=>by
    rw[pA h2 (by omega)];exact ih (i+1) w best dn h L (by omega) (by omega) (λe=>w1 (by omega)) (λe=>w2 (by omega)) hd z
   refine R.rd z.fr ha ii λb1 hb1=>?_;cases b1 with
   |false=>
    rw[By (by rfl)];refine skip λe=>?_;rw[<-e] at hb1;have:=hb1.2 .refl
    grind
   |true=>
    rw[AT (by simp)];refine R.rd z.fr ii ha λb2 hb2=>?_;cases b2 with
    |false=>
     rw[By (by rfl)];refine skip λe=>?_
     grind
    |true=>
     rw[AT (by simp)];have e:=t.aqs (hb1.1 rfl) (hb2.1 rfl);obtain⟨w0,b0⟩:=w1 (by omega);subst w0;subst b0;obtain⟨x,hx⟩:=cG hi;have hm:=BY hx;have hbx:=hB.2.2 x hm;have hgx:gt N at'=some x:=(by grind [tO]);unfold kK;refine z.ld 1 (x:=s) ?_;refine G.at z (by omega) (by simpa using hx) λa1 ks is nd ik ii2=>nd.eZ ?_;refine z.new λx3 h4 z _=>?_;refine z.st 0 (cs':=[vi x.kind,.string x.text,.bool x.ord,aA ks,aA is]) λh5 z=>?_;refine z.bX [0] (by decide) (by decide) λnb2 h6 z=>?_;refine z.ld 1 (x:=ks) ?_;refine z.ld 1 (x:=is) ?_;refine VH z ik ii2 (by grind [bJ]) 0 λs' h7 g' hs' z=>?_;have rl:(refs x).length=x.keys.length+x.items.length:=(by rw[refs,acm]);rw[ah];have z:=Z.iH (pre:=[.sl s' 1 an ((refs x).map vi) g',.au x3 [vi x.kind,.string x.text,.bool x.ord,aA ks,aA is] ar,.au b (dn.map vi) an,.au x0 [aA s,vi root] ai]) z [2,3,0,1] (by simp only[acg,agy];decide);have hp:=D.pos ha;refine (apb t D R LG ha hfa (xs:=refs x) (λy hy=>⟨⟨x,hgx,List.mem_append.1 hy⟩,?_⟩) (by omega) hs' _ _ n 0 0 dn h7 _ (by omega) (aea _) (ajl _) (by omega) hd z).mono λy h8 hy=>?_
     .exact (List.mem_append.1 hy).elim ((t.g.ix x hm).1 y) ((t.g.ix x hm).2 y)
     obtain⟨y1,y2,dn',hd',z⟩:=hy;rw[pA h2 (by omega)];exact ih (i+1) _ y dn' h8 L (by omega) (by omega) (λe2=>by omega) (λ_=>⟨by decide,y1,y2⟩) hd' (z.sub (.cons₂ _ (.cons₂ _ (.cons _ (.cons _ (.refl _))))))
  .rw[AT (by grind),ag]
   grind
def TW (G:iK h0 s N)(t:TG N root)(hB:Bd N 80){f}(D:DF N f){rs}(R:RT h0 N rs):∀c:Nat,c<10000->LgT h0 N s rs root f c:=by
 intro c
 induction c with
 |zero=>
  intro _ n at' dn h L b cap hn ha hf hd z;have:=D.pos ha;omega
 |succ c ihc=>
  intro hc n at' dn h L b cap hn ha hf hd z;have LG:=ihc (by omega);have hNB:=hB.1;have hir:=ha;unfold IR at hir;have hdl:=hd.1;obtain⟨n,rfl⟩:∃n',n=n'+1:=⟨n-1,by omega⟩;show Wp (pO (aD.at n) n _ _ _ _) h _;unfold pO;refine z.new λx0 h2 z _=>?_;obtain⟨v,hv⟩:=lQ (l:=dn) hir.1 (by omega);have hv2:=(ax hv).2;have hvb:=hd.2 _ _ hv;have z:=z.perm (List.Perm.swap _ _ _);refine ze hir.1 hir.2 ?_;rw[adY];refine z.ld 0 ?_ rfl (by rw[abt,hv2];rfl) rfl;by_cases hpos:0<v
  .rw[By (by grind)];refine ze hir.1 hir.2 ?_;rw[adY];refine z.ld 0 ?_ rfl (by rw[abt,hv2];rfl) rfl;rw[ag];exact⟨by omega,hvb.2,dn,hd,z.sub (.cons₂ _ (.cons _ (.refl _)))⟩
  .rw[AT (by grind),ah];have hp:=D.pos ha;refine (apc G t hB D R LG ha (by omega) n 0 0 0 dn h2 L (by omega) (aea _) (λ_=>⟨rfl,rfl⟩) (λe=>by omega) hd z).mono λy h3 hy=>?_;obtain⟨y1,y2,y3,dn',hd',z⟩:=hy;have hdl':=hd'.1;have hlt:at'.toNat<dn'.length:=by omega
   have ew:IntKind.i64.wrap (y.1+y.2)=1+y.2:=by grind [vw]
   rw[ew];refine ze hir.1 hir.2 ?_;rw[adY];refine z.Cb 0 hlt λh4 z=>?_;refine ze hir.1 hir.2 ?_;rw[adY];refine z.ld 0 (l:=li) (x:=1+y.2) ?_ rfl (by rw[abt,ajo hlt];rfl) rfl;rw[ag];refine⟨by omega,by omega,dn'.set at'.toNat (1+y.2),⟨by grind,λu w hw=>?_⟩,z.sub (.cons₂ _ (.cons _ (.refl _)))⟩;rw[fG ⟨hir.1,by omega⟩] at hw;by_cases e:u=at'
   .grind
   .rw[AT e] at hw;exact hd'.2 u w hw
def YY (z:Z h0 h L)(G:iK h0 s N)(t:TG N root)(hB:Bd N 80){n}(hn:12000<n) :
  Wp (pV n (s,root)) h λy h'=>y.1<=32/\Z h0 h' L:=by
 have hNB:=hB.1;obtain⟨f,D,hf⟩:=t.g.dp;unfold pV;refine z.new λx0 h2 z _=>?_;have z1:=z.add (Fr.refl z.wf) (o:=.sl oz 1 mW [] 0) nv.nil (.inl rfl);rw[ah];refine (anm G t.g.ix hB n 0 oz 0 [] h2 (by omega) rfl (aea _) (λj p hj=>by grind) z1).mono λrs h3 hy=>?_;obtain⟨R,z⟩:=hy;have c:Cl h3 (ak x0) [aA s,vi root] (x0+1):=z.cl 0 rfl;have G3:=G.fr z.fr;rw[ah];refine (ano G3 t.g.ix hB R z.wf c n 0 true (by omega) (aea _)).mono λy h4 hy=>?_;subst hy;have zz:=Z.start z.wf;refine zz.bX [5] (by decide) (by decide) λnb h5 zz=>?_;refine (c.fr zz.fr λhx=>hx.elim).eZ (ls:=[.sl,li]) (x:=(s,root)) rfl ?_;refine (c.fr zz.fr λhx=>hx.elim).ld (x:=s) rfl rfl ?_;refine (c.fr zz.fr λhx=>hx.elim).ld rfl rfl ?_;rw[G.len];refine zz.Z0 0 (by omega) (by grind [bJ]) λh6 zz=>?_;rw[IS] at zz⊢;rw[lH] at zz;rw[ah];have hrt:=D.pos t.g.rt;refine (TW G3 t hB D R 33 (by omega) n root _ h6 _ _ _ (by omega) t.g.rt hf ⟨aeP,λu v hv=>?_⟩ zz).mono λr h7 hr=>?_
 .have e:=anL (aE hv);have hu:=kF hv;rw[aeP] at hu;have:=D.pos hu;omega
 obtain⟨r1,r2,dn',hd',zz⟩:=hr;rw[ag];have ew:IntKind.i64.wrap (r-1)=r-1:=vw (by omega) (by omega);refine⟨by grind,(z.pure zz.fr).drop⟩
def M7 (z:Z h0 h L)(G:iK h0 s N)(fw:mU N){bs}{v}(p:Rn N root bs v){n}(hn:66100<n) :
  Wp (mz n (s,root)) h λy h'=>y=0/\Z h0 h' L:=by
 have hl:=fw.len;unfold mz;refine z.new λx0 h2 z _=>?_;refine z.ld 0 (x:=s) ?_;rw[G.len,AT (by grind)];refine z.eZ 0 (ls:=[.sl,li]) (x:=(s,root)) ?_;rw[ah];refine (Mk z G fw.bd p.t.g p.kinds fw.ht (by omega)).mono λy h3 hy=>?_;obtain⟨rfl,z⟩:=hy;rw[AT (by simp)];refine z.eZ 0 (ls:=[.sl,li]) (x:=(s,root)) ?_;rw[ah];refine (YX z G p.t.g.fm fw.ht fw.bd (λx hx=>(p.keys hx).2) (by omega)).mono λy h4 hy=>?_;obtain⟨rfl,z⟩:=hy;rw[AT (by simp)];refine z.eZ 0 (ls:=[.sl,li]) (x:=(s,root)) ?_;rw[ah];refine (YY z G p.t fw.bd (by omega)).mono λy h5 hy=>?_;obtain⟨hy,z⟩:=hy;rw[AT (by grind),ag];exact⟨rfl,z.drop⟩
end
section
variable {α β:Type}{h h' h0 h1:aj}{L:List bA}{Q:β->aj->Prop}{N:List ao}{s:Sl}{root:Int}{x:ao}
def anp (z:Z h0 h L)(G:iK h0 s N){k}{y}(hy:gt N k=some y)(h0k:y.keys=[]){n}(hn:2<=n) :
  Wp ((aq.at n).dD (s,root) k) h λr h'=>r=oz/\Z h0 h' L:=by
 obtain⟨n,rfl⟩:∃n',n=n'+2:=⟨n-2,by omega⟩;show Wp (iZ (aq.at (n+1)) (n+1) (s,root) k) h _;unfold iZ;refine z.new λx0 h1 z _=>?_;refine z.ld 0 (x:=s) ?_;refine G.at z (ax hy).1 (ax hy).2 λa ks is nd ik ii=>nd.eZ ?_;refine z.new λx4 h2 z _=>z.st 0 (cs':=[vi y.kind,.string y.text,.bool y.ord,aA ks,aA is]) λh3 z=>?_;rw[ah];show Wp (gm (aq.at n) n (ak x0) oz (ak x4) 0) h3 _;unfold gm;refine z.ld 0 (x:=ks) ?_;rw[ik.len,h0k,AT (by simp),ag,ag];exact⟨rfl,z.drop.drop⟩
def adM {a b}{n}:Wp (pQ n a b) h λr h'=>(r<0↔LC a b=true)/\h'=h:=by
 unfold pQ;by_cases h1:LC a b=true
 .rw[By h1,ag];grind
 .rw[AT h1];split
  .rw[ag];grind
  .rw[ag];grind
def aha (z:Z h0 h L)(G:iK h0 s N){i j}{x y}(hx:gt N i=some x)(hy:gt N j=some y)(kx:x.kind=5)(ky:y.kind=5)(fx:ji x=some true)(fy:ji y=some true){n}(hn:6<=n) :
  Wp ((aq.at n).cz (s,root) i (s,root) j) h λr h'=>(r<0↔Lib.compareBytes x.text.data.toList y.text.data.toList<0)/\Z h0 h' L:=by
 obtain⟨p1,p2,p3⟩:=GL fx (by omega) (by omega) (by omega);obtain⟨q1,q2,q3⟩:=GL fy (by omega) (by omega) (by omega);obtain⟨n,rfl⟩:∃n',n=n'+2:=⟨n-2,by omega⟩;show Wp (lO (aq.at (n+1)) (n+1) (s,root) i (s,root) j) h _;unfold lO;refine z.new λx0 h1 z _=>z.new λx1 h2 z _=>?_;refine z.bX [10,11] (by decide) (by decide) λnb h3 z=>?_;refine z.ld 3 (x:=s) ?_;refine G.Wf z (ax hx).1 (ax hx).2 λa1 k1 j1 n1=>(n1.fr z.fr).eZ ?_;refine z.ld 2 (x:=s) ?_;refine G.Wf z (ax hy).1 (ax hy).2 λa2 k2 j2 n2=>(n2.fr z.fr).eZ ?_;refine z.newAt 0 λh4 z=>z.newAt 1 λh5 z=>?_;refine z.stC 0 ?_ λh6 z=>z.st 1 λh7 z=>?_
 .intro a' ha';simp at ha';rcases ha' with rfl|rfl
  .exact z.nbO 0 2 rfl rfl (by decide)
  .obtain⟨g,c⟩:=n2.cl;exact z.nb0 0 c rfl
 refine z.ld 0 (x:=x.kind) ?_;refine z.ld 1 (x:=y.kind) ?_;rw[AT (by grind)];refine z.ld 0 (x:=x.kind) ?_;rw[AT (by simp[kx])];unfold fZ;refine z.ld 0 (x:=x.kind) ?_;refine z.ld 0 (x:=x.text) ?_;refine z.ld 1 (x:=y.text) ?_;rw[ah];have hs:Wp (oE (n+1) x.kind x.text y.text) h7 λr h'=>(r<0↔LC x.text y.text=true)/\h'=h7:=by
  unfold oE;rw[kx,AT (by decide),AT (by decide),AT (by decide),ah];exact adM.mono λr h' hr=>ag.2 hr
 refine hs.mono λr h8 hr=>?_;obtain⟨hr,rfl⟩:=hr;rw[VC] at hr;by_cases r0:r=0
 .subst r0;rw[AT (by simp)];refine z.eZ 3 (ls:=[.sl,li]) (x:=(s,root)) ?_;refine z.eZ 2 (ls:=[.sl,li]) (x:=(s,root)) ?_;have lbx:LB h8 x1 [aA s,vi root] ai:=z.get 2 rfl;refine rQ (λa ha=>⟨[aA s,vi root],ai,?_,λr h' hp=>?_⟩) (anp z G hx p2 (by omega)) λr h9 hr9=>?_
  .grind
  .simp at ha;subst ha;exact hp.2.get 2 rfl
  obtain⟨rfl,z⟩:=hr9;rw[ah];refine (anp z G hy q2 (by omega)).mono λr h10 hr9=>?_;obtain⟨rfl,z⟩:=hr9;rw[ah];show Wp (jK (aq.at n) n (ak x0) (ak x1) (ak (nb+10)) (ak (nb+11)) oz oz 0) h10 _;unfold jK;refine z.ld 0 (x:=j1) ?_;rw[n1.items.len,p3,AT (by simp),ag];simp only[aK];refine z.ld 0 (x:=j1) ?_;refine z.ld 1 (x:=j2) ?_;rw[n1.items.len,n2.items.len,q3,AT (by simp)];refine z.ld 0 (x:=j1) ?_;refine z.ld 1 (x:=j2) ?_;rw[n1.items.len,n2.items.len,p3,AT (by simp),ag];exact⟨hr,z.drop.drop.drop.drop⟩
 .rw[By (by grind),ag];exact⟨hr,z.drop.drop.drop.drop⟩
def anq (G:iK h0 s N)(hf:∀x∈N,ji x=some true)(hx:x∈N)(h10:x.kind=10)(ho:x.ord=false)(hk:∀k∈x.keys,YL N k)(hm:x.keys.length=x.items.length)(hl:x.keys.length<=80){r0}(e:EO N x r0){ks is}(ik:IL h0 ks x.keys){i}(hi:i<x.keys.length){a1}{g x0 x4} :
  ∀n A B h ,A.length+8<n->ON N x i A B->Z h0 h (.sl a1 1 an ((A++(i:Int)::B).map vi) g::.au x4 [vi x.kind,.string x.text,.bool x.ord,aA ks,aA is] ar::.au x0 [aA s,vi root] ai::L) ->
   Wp ((aq.at n).fH (ak x0) a1 (ak x4) (i:Int) (A.length:Int)) h λ_ h'=>∃l:ε,l.Perm (iota (i+1))/\l.Pairwise (YN N x)/\Z h0 h' (.sl a1 1 an (l.map vi) g::.au x4 [vi x.kind,.string x.text,.bool x.ord,aA ks,aA is] ar::.au x0 [aA s,vi root] ai::L):=by
 intro n
 induction n with
 |zero=>intro A B h h1;omega
 |succ n ih=>
  intro A B h h1 I z;have hlen:=I.pm.length_eq;rw[acm,acg,gN] at hlen;show Wp (mQ (aq.at n) n (ak x0) a1 (ak x4) (i:Int) (A.length:Int)) h _;unfold mQ;refine z.ld 1 ?_;rw[ho] at z⊢;rw[By (by rfl)];rcases arc A with rfl|⟨A,a,rfl⟩
  .rw[AT (by simp),ag];exact⟨_,I.pm,I.fin e (by omega) (λa ha=>by cases ha),z⟩
  .rw[ard] at *
   have hal:(A++[a]).length=A.length+1:=by simp
   rw[hal] at hlen h1⊢;rw[By (by simp)];have e1:IntKind.i64.wrap (((A.length+1:Nat):Int)-1)=(A.length:Int):=by grind [vw]
   rw[e1];have ea:a∈iota (i+1):=I.pm.mem_iff.1 (by simp);have ha:=rR ea;have g1:(((A++[a])++(i:Int)::B).map vi)[A.length+1]?=some (vi i):=by
    simp_all
   have g0:(((A++[a])++(i:Int)::B).map vi)[A.length]?=some (vi a):=by
    simp_all
   have hcl:(((A++[a])++(i:Int)::B).map vi).length=i+1:=by simp;omega
   obtain⟨ki,hki⟩:=cG hi;obtain⟨ka,hka⟩:=cG (l:=x.keys) (i:=a.toNat) (by omega);obtain⟨yi,gyi,k5i⟩:=hk ki (BY hki);obtain⟨ya,gya,k5a⟩:=hk ka (BY hka);refine z.ixS 0 rfl (by omega) (by grind) λb1 hb1 rd1=>?_;refine z.ixS 0 rfl (by omega) (by grind) λb2 hb2 rd2=>?_;rw[IS] at rd1 rd2;refine z.eZ 2 (ls:=[.sl,li]) (x:=(s,root)) ?_;refine z.ld 1 (x:=ks) ?_;refine rd1 g1 rfl ?_;refine (ik.fr z.fr).ix (by omega) (by simpa using hki) λad ga cl=>cl.mN rfl rfl ?_;refine z.eZ 2 (ls:=[.sl,li]) (x:=(s,root)) ?_;refine z.ld 1 (x:=ks) ?_;refine rd2 g0 rfl ?_;refine (ik.fr z.fr).ix ha.1 hka λad ga cl=>cl.mN rfl rfl ?_;rw[ah];refine (aha z G gyi gya k5i k5a (hf yi (aE gyi)) (hf ya (aE gya)) (by omega)).mono λr h3 hr=>?_;obtain⟨hr,z⟩:=hr;have lte:YN N x i a↔r<0:=by
    rw[hr];unfold YN;have n1:nth x.keys (i:Int)=ki:=xW hki;have n2:nth x.keys a=ka:=by
     have:=xW hka
     rwa [show ((a.toNat:Nat):Int)=a by omega] at this
    rw[n1,n2,BT gyi,BT gya]
   by_cases hc:r<0
   .rw[By (by grind)];have I2:=I.step (lte.2 hc);unfold kO;refine z.ixS 0 rfl (by omega) (by grind) λb3 hb3 rd3=>?_;rw[e1];refine z.ixS 0 rfl (by omega) (by rw[hcl];omega) λb4 hb4 rd4=>?_;rw[IS] at rd3 rd4;refine rd3 g1 rfl ?_;refine rd4 g0 rfl ?_;refine z.ixS 0 rfl (by omega) (by rw[hcl];omega) λb5 hb5 _=>?_;rw[IS];refine z.stS 0 rfl hb5 (by rw[hcl];omega) rfl λh4 z=>?_;have z:Z h0 h4 (.sl a1 1 an ((((A++[a])++(i:Int)::B).map vi).set A.length (vi i)) g::.au x4 [vi x.kind,.string x.text,.bool false,aA ks,aA is] ar::.au x0 [aA s,vi root] ai::L):=z;refine z.ixS 0 rfl (by omega) (by rw[anA,hcl];omega) λb6 hb6 _=>?_;rw[IS];refine z.stS 0 rfl hb6 (by rw[anA,hcl];omega) rfl λh5 z=>?_;have es:((((A++[a])++(i:Int)::B).map vi).set A.length (vi i)).set (A.length+1) (vi a)=(A++(i:Int)::a::B).map vi:=by
     simp[List.set_append]
    have z:Z h0 h5 (.sl a1 1 an (((((A++[a])++(i:Int)::B).map vi).set A.length (vi i)).set (A.length+1) (vi a)) g::.au x4 [vi x.kind,.string x.text,.bool false,aA ks,aA is] ar::.au x0 [aA s,vi root] ai::L):=z;rw[es] at z;have:=ih A (a::B) h5 (by omega) I2 (by rw[ho];exact z);rw[ho] at this;exact this
   .rw[AT (by grind),ag];exact⟨_,I.pm,I.fin e (by omega) (λa' ha'=>by
     rw[List.getLast?_concat] at ha'
     grind),z⟩
def anr (G:iK h0 s N)(hf:∀x∈N,ji x=some true)(hx:x∈N)(h10:x.kind=10)(ho:x.ord=false)(hk:∀k∈x.keys,YL N k)(hm:x.keys.length=x.items.length)(hl:x.keys.length<=80){r0}(e:EO N x r0){ks is}(ik:IL h0 ks x.keys){x0 x4} :
  ∀n i a1 g (l:ε) h ,x.keys.length-i+100<n->i<=x.keys.length->l.Perm (iota i)->l.Pairwise (YN N x)->Z h0 h (.sl a1 1 an (l.map vi) g::.au x4 [vi x.kind,.string x.text,.bool x.ord,aA ks,aA is] ar::.au x0 [aA s,vi root] ai::L) ->
   Wp ((aq.at n).fI (ak x0) a1 (ak x4) (i:Int)) h λy h'=>∃r g,EO N x r/\Z h0 h' (.sl y 1 an (r.map vi) g::L):=by
 intro n
 induction n with
 |zero=>intro i a1 g l h h1;omega
 |succ n ih=>
  intro i a1 g l h h1 h2 pm pw z;show Wp (gm (aq.at n) n (ak x0) a1 (ak x4) (i:Int)) h _;unfold gm;refine z.ld 1 (x:=ks) ?_;rw[ik.len];by_cases hi:i<x.keys.length
  .rw[By (by grind)];have hll:=pm.length_eq;rw[gN] at hll;have o:nv h a1 1 an (l.map vi) g:=z.get 0 rfl;have hs:a1.len=l.length:=by have:=o.1;grind
   refine z.GI 0 (new:=[vi i]) rfl (by decide) rfl (by grind [bJ]) λs' h5 g' hs' z _=>?_;have z:Z h0 h5 (.sl s' 1 an ((l++(i:Int)::[]).map vi) g'::.au x4 [vi x.kind,.string x.text,.bool x.ord,aA ks,aA is] ar::.au x0 [aA s,vi root] ai::L):=by grind
   have I:=ON.start pm pw;rw[ah];have:=anq G hf hx h10 ho hk hm hl e ik hi n l [] h5 (by omega) I z;rw[hll] at this;refine this.mono λ_ h6 hy=>?_;obtain⟨l2,pm2,pw2,z⟩:=hy;rw[pA h2 (by omega)];exact ih (i+1) s' g' l2 h6 (by omega) (by omega) pm2 pw2 z
  .rw[AT (by grind),ag];obtain rfl:i=x.keys.length:=by omega
   rw[hm] at pm;exact⟨l,g,⟨pm,pw⟩,z.sub (.cons₂ _ (.cons _ (.cons _ (.refl _))))⟩
def VM (z:Z h0 h L)(G:iK h0 s N)(hB:Bd N 80)(t:TG N root)(hk:∀x∈N,PK N x){u}(hx:gt N u=some x){n}(hn:300<=n) :
  Wp (dD n (s,root) u) h λy h'=>∃r g,((x.kind=10/\EO N x r)\/(x.kind≠10/\x.keys=[]/\r=[]))/\Z h0 h' (.sl y 1 an (r.map vi) g::L):=by
 have hm:=aE hx;have hf:=t.g.fm;have hbx:=hB.2.2 x hm;by_cases h10:x.kind=10
 .obtain⟨ho,r,e,k5⟩:x.ord=false/\∃r,EO N x r/\∀k∈x.keys,YL N k:=by
   rcases hk x hm with q|q|q|q|q
   iterate 4 · omega
   exact q.2
  obtain⟨n,rfl⟩:∃n',n=n'+1:=⟨n-1,by omega⟩;show Wp (iZ (aq.at n) n (s,root) u) h _;unfold iZ;refine z.new λx0 h1 z _=>?_;refine z.ld 0 (x:=s) ?_;refine G.at z (ax hx).1 (ax hx).2 λa ks is nd ik ii=>nd.eZ ?_;refine z.new λx4 h2 z _=>z.st 0 (cs':=[vi x.kind,.string x.text,.bool x.ord,aA ks,aA is]) λh3 z=>?_;have z1:=z.add (Fr.refl z.wf) (o:=.sl oz 1 an [] 0) nv.nil (.inl rfl);rw[ah];refine (anr G hf hm h10 ho k5 (t.g.Lj hm h10) hbx.1 e ik n 0 oz 0 [] h3 (by omega) (aea _) (by grind [iota]) List.Pairwise.nil z1).mono λy h4 hy=>?_;obtain⟨r2,g,e2,z⟩:=hy;rw[ag]
  grind
 .have h0k:x.keys=[]:=by
   by_cases h9:x.kind=9
   .exact (MZ (hf x hm) h9).2.2
   .exact (GL (hf x hm) h9 h10 (by rcases hk x hm with h|h|h|h|⟨h,_⟩<;>omega)).2.1
  refine (anp z G hx h0k (by omega)).mono λy h' hy=>?_;obtain⟨rfl,z⟩:=hy;exact⟨[],0,.inr ⟨h10,h0k,rfl⟩,z.add (Fr.refl z.wf) nv.nil (.inl rfl)⟩
end
section
variable {α β:Type}{h h' h0 h1:aj}{L:List bA}{Q:β->aj->Prop}{N:List ao}{s:Sl}{root:Int}{x:ao}{b cap:Nat}
def VT (h0:aj)(N:List ao)(s:Sl)(root:Int)(b cap:Nat)(u:Int)(P:ε)(m:Nat):Prop:=∀(n wV:Nat) (at':ε) (h:aj) (L:List bA),200*m+400<=n->wV+P.length<=4096->at'.length=N.length->P.Nodup->(∀w∈P,gt at' w=some (-1))->Z h0 h (.au b (at'.map vi) an::L) ->
 Wp ((aQ.at n).eP (s,root) ⟨some ⟨b,0,none⟩,N.length,cap⟩ (wV:Int) u) h λy h'=>y=((wV+P.length:Nat):Int)/\Z h0 h' (.au b ((xl at' P wV).map vi) an::L)
def VLo (N:List ao)(s:Sl)(root:Int)(b:Nat)(x:ao)(ks is:Sl)(r:ε)(a4:Sl)(g x0 x8:Nat)(at':ε)(L:List bA):List bA:=
 .sl a4 1 an (r.map vi) g::.au x8 [vi x.kind,.string x.text,.bool x.ord,aA ks,aA is] ar::.au x0 [aA s,vi root] ai::.au b (at'.map vi) an::L
def VL (h0:aj)(N:List ao)(s:Sl)(root:Int)(b cap:Nat)(x:ao)(ks is:Sl)(r:ε)(i:Nat)(P:ε)(m:Nat):Prop:=∀(n wV:Nat) (at':ε) (h:aj) (L:List bA) (a4:Sl) (g x0 x8:Nat),200*m+401<=n->wV+P.length<=4096->at'.length=N.length->P.Nodup->(∀w∈P,gt at' w=some (-1))->Z h0 h (VLo N s root b x ks is r a4 g x0 x8 at' L) ->
 Wp ((aQ.at n).fq ⟨some ⟨b,0,none⟩,N.length,cap⟩ (wV:Int) (ak x0) (ak x8) a4 (i:Int)) h λy h'=>y=((wV+P.length:Nat):Int)/\Z h0 h' (VLo N s root b x ks is r a4 g x0 x8 (xl at' P wV) L)
def HZ {P Q at'}{n}(hn:(P++Q).Nodup)(h:∀w∈P++Q,gt at' w=some (-1)):∀w∈Q,gt (xl at' P n) w=some (-1):=λw hw=>by
 rw[OM P at' n (λhp=>(List.nodup_append.1 hn).2.2 w hp w hw rfl) λv hv=>(ax (h v (aeo _ hv))).1]
 grind
theorem TX {ks is}{r}{i m}(ii:IL h0 is x.items)(hi:x.items.length<=i):VL h0 N s root b cap x ks is r i [] m:=by
 intro n wV at' h L a4 g x0 x8 hn hc hl nd hg z;obtain⟨n,rfl⟩:∃n',n=n'+1:=⟨n-1,by omega⟩;show Wp (eh (aQ.at n) n _ _ _ _ _ _) h _;unfold eh;have z':=z;unfold VLo at z';refine z'.ld 1 (x:=is) ?_;rw[ii.len,AT (by grind),ag];exact⟨rfl,z⟩
def OP {ks is}{r}{u}{P}{m}(V:VT h0 N s root b cap u P m){n wV}{at'}{h}{L}{a4}{g x0 x8}(hn:200*m+400<=n)(hc:wV+P.length<=4096)(hl:at'.length=N.length)(nd:P.Nodup)(hg:∀w∈P,gt at' w=some (-1))(z:Z h0 h (VLo N s root b x ks is r a4 g x0 x8 at' L))
  {f:Int->M Int} {Q} (q:∀h',Z h0 h' (VLo N s root b x ks is r a4 g x0 x8 (xl at' P wV) L)->Wp (f ((wV+P.length:Nat):Int)) h' Q) :
  Wp (sh ((aQ.at n).eP (s,root) ⟨some ⟨b,0,none⟩,N.length,cap⟩ (wV:Int) u) f) h Q:=by
 unfold VLo at z;have z:=Z.iH (pre:=[_,_,_,_]) z [3,0,1,2] (by grind);rw[ah];refine (V n wV at' h _ hn hc hl nd hg z).mono λy h' hy=>?_;obtain⟨rfl,z⟩:=hy;have z:=Z.iH (pre:=[.au b ((xl at' P wV).map vi) an,.sl a4 1 an (r.map vi) g,.au x8 [vi x.kind,.string x.text,.bool x.ord,aA ks,aA is] ar,.au x0 [aA s,vi root] ai]) z [1,2,3,0] (by simp only[acg,agy];decide);exact q h' z
def ahb {ks is}{r}{i}{a}{P1 P2}{m1 m2}(ii:IL h0 is x.items)(h10:x.kind≠10)(hlen:x.items.length<=80)(ha:x.items[i]?=some a)(h1:1<=m1)(V:VT h0 N s root b cap a P1 m1)(W:VL h0 N s root b cap x ks is r (i+1) P2 m2):VL h0 N s root b cap x ks is r i (P1++P2) (m1+m2):=by
 intro n wV at' h L a4 g x0 x8 hn hc hl nd hg z;have hlt:=aN ha;obtain⟨n,rfl⟩:∃n',n=n'+1:=⟨n-1,by omega⟩;show Wp (eh (aQ.at n) n _ _ _ _ _ _) h _;unfold eh;rw[acm] at hc;have z':=z;unfold VLo at z';refine z'.ld 1 (x:=is) ?_;rw[ii.len,By (by grind)];refine z'.ld 1 ?_;rw[AT (by grind)];refine z'.eZ 2 (ls:=[.sl,li]) (x:=(s,root)) ?_;refine z'.ld 1 (x:=is) ?_;refine (ii.fr z'.fr).ix (by omega) (by simpa using ha) λad ga cl=>cl.mN rfl rfl ?_;have nd2:=List.nodup_append.1 nd;refine OP V (by omega) (by omega) hl nd2.1 (λw hw=>hg w (aeo _ hw)) z λh' z=>?_;rw[pA (anR hlt) (by omega)];refine (W n (wV+P1.length) (xl at' P1 wV) h' L a4 g x0 x8 (by omega) (by omega) (by rw[DU,hl]) nd2.2.1 (HZ nd hg) z).mono λy h2 hy=>?_
 grind [Lw,List.length_append,Nat.add_assoc]
def ans {ks is}{r}{i}{p k a}{P1 P2}{m1 m2}(ik:IL h0 ks x.keys)(ii:IL h0 is x.items)(h10:x.kind=10)(hlen:x.items.length<=80)(hr:r.length=x.items.length)(hp:r[i]?=some p)(hk:gt x.keys p=some k)(ha:gt x.items p=some a)(h1:1<=m1)
  (K:VT h0 N s root b cap k [k] 1) (V:VT h0 N s root b cap a P1 m1) (W:VL h0 N s root b cap x ks is r (i+1) P2 m2):VL h0 N s root b cap x ks is r i (k::(P1++P2)) (1+(m1+m2)):=by
 intro n wV at' h L a4 g x0 x8 hn hc hl nd hg z;have hlt:=aN hp;obtain⟨n,rfl⟩:∃n',n=n'+1:=⟨n-1,by omega⟩;show Wp (eh (aQ.at n) n _ _ _ _ _ _) h _;unfold eh;rw[acg,acm] at hc;have z':=z;unfold VLo at z';refine z'.ld 1 (x:=is) ?_;rw[ii.len,By (by grind)];refine z'.ld 1 ?_;rw[By (by grind)];have os:nv h a4 1 an (r.map vi) g:=z'.get 0 rfl;refine (nv.BX os).Jf (by omega) (by simpa using hp) λad c=>?_;refine z'.eZ 2 (ls:=[.sl,li]) (x:=(s,root)) ?_;refine z'.ld 1 (x:=ks) ?_;refine c.mN rfl rfl ?_;refine (ik.fr z'.fr).ix (ax hk).1 (ax hk).2 λad ga cl=>cl.mN rfl rfl ?_;have nd1:=List.nodup_cons.1 nd;have nd2:=List.nodup_append.1 nd1.2;refine OP K (by omega) (by grind) hl (List.nodup_cons.2 ⟨by simp,aoO⟩) (λw hw=>hg w (by grind)) z λh' z=>?_;have hg1:∀w∈P1++P2,gt (xl at' [k] wV) w=some (-1):=HZ nd hg;have hl1:(xl at' [k] wV).length=N.length:=by rw[DU,hl]
 have z':=z;unfold VLo at z';have os:nv h' a4 1 an (r.map vi) g:=z'.get 0 rfl;refine (nv.BX os).Jf (by omega) (by simpa using hp) λad c=>?_;refine z'.eZ 2 (ls:=[.sl,li]) (x:=(s,root)) ?_;refine z'.ld 1 (x:=is) ?_;refine c.mN rfl rfl ?_;refine (ii.fr z'.fr).ix (ax ha).1 (ax ha).2 λad ga cl=>cl.mN rfl rfl ?_;refine OP V (by omega) (by grind) hl1 nd2.1 (λw hw=>hg1 w (aeo _ hw)) z λh2 z=>?_;rw[pA (B:=80) (by omega) (by omega)];refine (W n (wV+[k].length+P1.length) _ h2 L a4 g x0 x8 (by omega) (by grind) (by rw[DU,hl1]) nd2.2.1 (HZ nd1.2 hg1) z).mono λy h3 hy=>?_
 grind [List.length_singleton,xl,xl,xl,Lw]
def OQ (G:iK h0 s N)(hB:Bd N 80)(t:TG N root)(hk:∀x∈N,PK N x){u}(hx:gt N u=some x){P}{m}
  (q:∀ks is r,IL h0 ks x.keys->IL h0 is x.items->((x.kind=10/\EO N x r)\/(x.kind≠10/\x.keys=[]/\r=[]))->VL h0 N s root b cap x ks is r 0 P m):VT h0 N s root b cap u (u::P) (1+m):=by
 intro n wV at' h L hn hc hl nd hg z;have hu:=kF hx;have hur:=hu;unfold IR at hur;have gu:=hg u OF;have gu2:=(ax gu).2;have hlt:u.toNat<at'.length:=aN gu2;rw[acg] at hc;obtain⟨n,rfl⟩:∃n',n=n'+1:=⟨n-1,by omega⟩;show Wp (rL (aQ.at n) n (s,root) _ _ _) h _;unfold rL;refine z.new λx0 h2 z _=>?_;refine ze hur.1 hur.2 ?_;rw[adY];refine z.ld 1 (x:=-1) ?_ rfl (by rw[abt,gu2];rfl) rfl;rw[AT (by decide)];refine ze hur.1 hur.2 ?_;rw[adY];refine z.Cb 1 hlt λh3 z=>?_;refine z.ld 0 (x:=s) ?_;refine G.at z hur.1 (ax hx).2 λa ks is ndr ik ii=>ndr.eZ ?_;refine z.new λx8 h4 z _=>z.st 0 (cs':=[vi x.kind,.string x.text,.bool x.ord,aA ks,aA is]) λh5 z=>?_;refine z.eZ 1 (ls:=[.sl,li]) (x:=(s,root)) ?_;rw[ah];refine (VM z G hB t hk hx (by omega)).mono λy h6 hy=>?_;obtain⟨r,g,hr,z⟩:=hy;rw[ah,pA (B:=4096) (by omega) (by omega)];have hir:IR at'.length u:=⟨hur.1,by omega⟩;have nd1:=List.nodup_cons.1 nd;refine (q ks is r ik ii hr n (wV+1) (at'.set u.toNat (wV:Int)) h6 L y g x0 x8 (by omega) (by omega) (by grind) nd1.2 (λw hw=>?_) z).mono λy2 h7 hy=>?_
 .rw[fG hir,AT (λe=>nd1.1 (by grind))]
  grind
 obtain⟨rfl,z⟩:=hy;rw[ag];refine⟨by grind,?_⟩;unfold VLo at z;exact z.sub (.cons _ (.cons _ (.cons _ (.refl _))))
theorem OR (G:iK h0 s N)(hB:Bd N 80)(t:TG N root)(hk:∀x∈N,PK N x){u}(hx:gt N u=some x)(h1:x.kind≠9)(h2:x.kind≠10)(h3:x.kind≠11):VT h0 N s root b cap u [u] 1:=
 OQ G hB t hk hx (m:=0) λks is r ik ii hr=>TX ii (by rw[(GL (t.g.fm x (aE hx)) h1 h2 h3).2.2];grind)
mutual
def adN (G:iK h0 s N)(hB:Bd N 80)(t:TG N root)(hk:∀x∈N,PK N x):∀(v:DT) (u:Int) (P:ε),TO N u P v->VT h0 N s root b cap u P (ER v)
 |.int _,u,P,⟨e,x,hx,k2,_⟩=>by grind [ER,OR]
 |.str _,u,P,⟨e,x,hx,k5,_⟩=>by
  obtain⟨h9,h10,h11⟩:=Ls k5
  grind [ER,OR]
 |.list l,u,P,⟨x,Q,e,hx,k9,h⟩=>by
  rw[e,ER];exact OQ G hB t hk hx λks is r ik ii hr=>adO G hB t hk l x.items Q h (by omega) (hB.2.2 x (aE hx)).2 ii 0 rfl
 |.map l,u,P,⟨x,Q,r,e,hx,k10,_,eo,_,h⟩=>by
  rw[e,ER];refine OQ G hB t hk hx λks is r2 ik ii hr=>?_;obtain rfl:r2=r:=by
   rcases hr with hr|hr
   .exact hr.2.uniq eo
   grind
  exact adP G hB t hk l _ _ Q h k10 (hB.2.2 x (aE hx)).2 (t.g.Lj (aE hx) k10) eo ik ii 0 rfl rfl
def adO (G:iK h0 s N)(hB:Bd N 80)(t:TG N root)(hk:∀x∈N,PK N x){x:ao}{ks is:Sl}{r:ε}:∀(l:MY) (cs P:ε),Y7 N cs P l->x.kind≠10->x.items.length<=80->IL h0 is x.items->∀i,x.items.drop i=cs->VL h0 N s root b cap x ks is r i P (EE l)
 |.nil,cs,P,⟨e1,e2⟩,h10,hl,ii,i,hd=>by
  grind [EE,TX,List.drop_eq_nil_iff]
 |.cons v l,cs,P,⟨a,q,P1,P2,e1,e2,h1,h2⟩,h10,hl,ii,i,hd=>by
  rw[e2,EE];rw[e1] at hd;have hlt:i<x.items.length:=by
   have:=an1 List.length hd
   grind
  obtain⟨a',ha⟩:=cG hlt;rw[drop_cons ha] at hd
  injection hd with hd1 hd2
  subst hd1;exact ahb ii h10 hl ha (OB v) (adN G hB t hk v _ P1 h1) (adO G hB t hk l q P2 h2 h10 hl ii (i+1) hd2)
def adP (G:iK h0 s N)(hB:Bd N 80)(t:TG N root)(hk:∀x∈N,PK N x){x:ao}{ks is:Sl}{r:ε}:∀(l:Js) (kk ii2 P:ε),Vt N kk ii2 P l->x.kind=10->x.items.length<=80->x.keys.length=x.items.length->EO N x r->IL h0 ks x.keys->IL h0 is x.items->∀i,(r.drop i).map (nth x.keys)=kk->(r.drop i).map (nth x.items)=ii2->VL h0 N s root b cap x ks is r i P (CG l)
 |.nil,kk,ii2,P,⟨e1,e2,e3⟩,h10,hl,hm,eo,ik,ii,i,hd1,hd2=>by
  rw[e3,CG];rw[e1] at hd1;have hrl:=eo.1.length_eq
  grind [gN,TX,List.drop_eq_nil_iff,List.map_eq_nil_iff]
 |.cons tk v l,kk,ii2,P,⟨k,kr,a,ir,P1,P2,e1,e2,e3,⟨y,hy,k5,_⟩,h1,h2⟩,h10,hl,hm,eo,ik,ii,i,hd1,hd2=>by
  rw[e3,CG];rw[e1] at hd1;rw[e2] at hd2;have hrl:=eo.1.length_eq;rw[gN] at hrl;have hlt:i<r.length:=by
   have:=an1 List.length hd1
   grind
  obtain⟨p,hp⟩:=cG hlt;have hpi:=rR (eo.1.mem_iff.1 (BY hp));rw[drop_cons hp,adZ] at hd1 hd2
  injection hd1 with d1 d2
  injection hd2 with d3 d4
  obtain⟨k',hk'⟩:=lQ (l:=x.keys) hpi.1 (by omega);obtain⟨a',ha'⟩:=lQ (l:=x.items) hpi.1 (by omega);have n1:nth x.keys p=k':=by grind [nth]
  have n2:nth x.items p=a':=by grind [nth]
  rw[n1] at d1;rw[n2] at d3;subst d1;subst d3;exact ans ik ii h10 hl hrl hp hk' ha' (OB v) (OR G hB t hk hy (by omega) (by omega) (by omega)) (adN G hB t hk v _ P1 h1) (adP G hB t hk l kr ir P2 h2 h10 hl hm eo ik ii (i+1) d2 d4)
end
end
section
variable {α β:Type}{h h' h0 h1:aj}{L R J:List bA}{Q:β->aj->Prop}{N:List ao}{s:Sl}{root:Int}{x:ao}
def ant {m b cap}(hm:m<1073741824) a0 a1 :
  ∀n i h ,m-i<n->i<=m->Z h0 h (.au b ((List.replicate i (-1)++List.replicate (m-i) 0).map vi) an::L)->Wp (jb n a0 a1 ⟨some ⟨b,0,none⟩,m,cap⟩ (i:Int)) h λ_ h'=>Z h0 h' (.au b ((List.replicate m (-1:Int)).map vi) an::L):=by
 intro n
 induction n with
 |zero=>intro i h h1;omega
 |succ n ih=>
  intro i h h1 h2 z;rw[xP];unfold oo;by_cases hi:i<m
  .rw[By (by grind)];refine ze (by omega) (by omega) ?_;rw[IS,adY];refine z.Cb 0 (xs:=List.replicate i (-1)++List.replicate (m-i) 0) (by grind) λh3 z=>?_;have hf:(List.replicate i (-1:Int)++List.replicate (m-i) 0).set i (-1)=List.replicate (i+1) (-1)++List.replicate (m-(i+1)) 0:=by
    rw[aoa _ _ (by simp),aeP,apq,show m-i=(m-(i+1))+1 by omega,anP,anK,aqv,ad3];rfl
   rw[hf] at z;rw[pA h2 (by omega)];exact ih (i+1) h3 (by omega) (by omega) z
  .rw[AT (by grind),ag];obtain rfl:i=m:=by omega
   grind
def NL (x:ao)(ks is:Sl)(r:ε)(a7:Sl)(g x4 y9 ab:Nat)(at':ε)(kl il:ε)(ksl isl:Sl)(gk gi:Nat)(R:List bA):List bA:=
 .au y9 [vi x.kind,.string x.text,.bool x.ord,aA ksl,aA isl] ar::.sl ksl 1 an (kl.map vi) gk::.sl isl 1 an (il.map vi) gi::.sl a7 1 an (r.map vi) g::.au x4 [vi x.kind,.string x.text,.bool x.ord,aA ks,aA is] ar::.au ab (at'.map vi) an::R
def TY {at'}{w}(hl:at'.length=N.length)(hw:IR N.length w):gt at' w=some (nth at' w):=by
 obtain⟨v,hv⟩:=lQ hw.1 (by rw[hl];exact hw.2)
 grind [nth]
def adQ {ks is}{r}{a7}{g x4 y9 ab cap}{at'}(ii:IL h0 is x.items)(h10:x.kind≠10)(hI:∀v∈x.items,IR N.length v)(hl:at'.length=N.length)(hlen:x.items.length<=80) a0 a1 a3 a4 :
  ∀n k kl il ksl isl gk gi h ,x.items.length-k<n->k<=x.items.length->il.length<=k->Z h0 h (NL x ks is r a7 g x4 y9 ab at' kl il ksl isl gk gi R) ->
   Wp (eQ n a0 a1 ⟨some ⟨ab,0,none⟩,N.length,cap⟩ a3 a4 (ak x4) (ak y9) a7 (k:Int)) h λ_ h'=>∃isl gi,Z h0 h' (NL x ks is r a7 g x4 y9 ab at' kl (il++(x.items.drop k).map (nth at')) ksl isl gk gi R):=by
 intro n
 induction n with
 |zero=>intro k kl il ksl isl gk gi h h1;omega
 |succ n ih=>
  intro k kl il ksl isl gk gi h h1 h2 hil z;rw[ra];unfold jT;unfold NL at z;refine z.ld 4 (x:=is) ?_;rw[ii.len];by_cases hk:k<x.items.length
  .rw[By (by grind)];obtain⟨w,hw⟩:=cG hk;have iw:=hI w (BY hw);have hat:=TY hl iw;refine z.ld 4 ?_;rw[AT (by grind)];refine z.ld 0 (x:=isl) ?_;refine z.ld 4 (x:=is) ?_;refine (ii.fr z.fr).ix (by omega) (by simpa using hw) λad ga cl=>cl.mN rfl rfl ?_;refine ze iw.1 iw.2 ?_;refine z.ld 5 ?_ rfl (by rw[adY,abt,(ax hat).2];rfl) rfl;have o:nv h isl 1 an (il.map vi) gi:=z.get 2 rfl;have hs:isl.len=il.length:=by have:=o.1;grind
   refine z.GI 2 (new:=[vi (nth at' w)]) rfl (by decide) rfl (by grind [bJ]) λs' h5 g' hs' z _=>?_;refine z.st 0 (cs':=[vi x.kind,.string x.text,.bool x.ord,aA ksl,aA s']) λh6 z=>?_;rw[pA h2 (by omega)];have z:Z h0 h6 (NL x ks is r a7 g x4 y9 ab at' kl (il++[nth at' w]) ksl s' gk g' R):=by
    grind [NL]
   refine (ih (k+1) kl (il++[nth at' w]) ksl s' gk g' h6 (by omega) (by omega) (by grind) z).mono λ_ h7 hy=>?_;rw[drop_cons hw,adZ]
   grind
  .rw[AT (by grind),ag];rw[aco (by omega),List.map_nil,aiP];exact⟨isl,gi,z⟩
def ahc {ks is}{r}{a7}{g x4 y9 ab cap}{at'}(ik:IL h0 ks x.keys)(ii:IL h0 is x.items)(h10:x.kind=10)(hI:(∀v∈x.keys,IR N.length v)/\∀v∈x.items,IR N.length v)(hl:at'.length=N.length)(hlen:x.items.length<=80)(hm:x.keys.length=x.items.length)(eo:EO N x r) a0 a1 a3 a4 :
  ∀n k kl il ksl isl gk gi h ,x.items.length-k<n->k<=x.items.length->il.length<=k->kl.length<=k->Z h0 h (NL x ks is r a7 g x4 y9 ab at' kl il ksl isl gk gi R) ->
   Wp (eQ n a0 a1 ⟨some ⟨ab,0,none⟩,N.length,cap⟩ a3 a4 (ak x4) (ak y9) a7 (k:Int)) h λ_ h'=>∃ksl isl gk gi,Z h0 h' (NL x ks is r a7 g x4 y9 ab at' (kl++((r.drop k).map (nth x.keys)).map (nth at')) (il++((r.drop k).map (nth x.items)).map (nth at')) ksl isl gk gi R):=by
 have hrl:=eo.1.length_eq;rw[gN] at hrl;intro n
 induction n with
 |zero=>intro k kl il ksl isl gk gi h h1;omega
 |succ n ih=>
  intro k kl il ksl isl gk gi h h1 h2 hil hkl z;rw[ra];unfold jT;unfold NL at z;refine z.ld 4 (x:=is) ?_;rw[ii.len];by_cases hk:k<x.items.length
  .rw[By (by grind)];obtain⟨p,hp⟩:=cG (l:=r) (i:=k) (by omega);have hpi:=rR (eo.1.mem_iff.1 (BY hp));obtain⟨w,hw⟩:=lQ (l:=x.keys) hpi.1 (by omega);obtain⟨u,hu⟩:=lQ (l:=x.items) hpi.1 (by omega);have nw:nth x.keys p=w:=by grind [nth]
   have nu:nth x.items p=u:=by grind [nth]
   have iw:=hI.1 w (aE hw);have iu:=hI.2 u (aE hu);have hat:=TY hl iw;have hat2:=TY hl iu;refine z.ld 4 ?_;rw[By (by grind)];have os:nv h a7 1 an (r.map vi) g:=z.get 3 rfl;refine (nv.BX os).Jf (by omega) (by simpa using hp) λad c=>?_;refine z.ld 0 (x:=ksl) ?_;refine z.ld 4 (x:=ks) ?_;refine c.mN rfl rfl ?_;refine (ik.fr z.fr).ix hpi.1 (ax hw).2 λad ga cl=>cl.mN rfl rfl ?_;refine ze iw.1 iw.2 ?_;refine z.ld 5 ?_ rfl (by rw[adY,abt,(ax hat).2];rfl) rfl;have o:nv h ksl 1 an (kl.map vi) gk:=z.get 1 rfl;have hs:ksl.len=kl.length:=by have:=o.1;grind
   refine z.GI 1 (new:=[vi (nth at' w)]) rfl (by decide) rfl (by grind [bJ]) λs' h5 g' hs' z _=>?_;refine z.st 0 (cs':=[vi x.kind,.string x.text,.bool x.ord,aA s',aA isl]) λh6 z=>?_;have os:nv h6 a7 1 an (r.map vi) g:=z.get 3 rfl;refine (nv.BX os).Jf (by omega) (by simpa using hp) λad c=>?_;refine z.ld 0 (x:=isl) ?_;refine z.ld 4 (x:=is) ?_;refine c.mN rfl rfl ?_;refine (ii.fr z.fr).ix hpi.1 (ax hu).2 λad ga cl=>cl.mN rfl rfl ?_;refine ze iu.1 iu.2 ?_;refine z.ld 5 ?_ rfl (by rw[adY,abt,(ax hat2).2];rfl) rfl;have o:nv h6 isl 1 an (il.map vi) gi:=z.get 2 rfl;have hs:isl.len=il.length:=by have:=o.1;grind
   refine z.GI 2 (new:=[vi (nth at' u)]) rfl (by decide) rfl (by grind [bJ]) λs2 h7 g2 hs2 z _=>?_;refine z.st 0 (cs':=[vi x.kind,.string x.text,.bool x.ord,aA s',aA s2]) λh8 z=>?_;rw[pA h2 (by omega)];have z:Z h0 h8 (NL x ks is r a7 g x4 y9 ab at' (kl++[nth at' w]) (il++[nth at' u]) s' s2 g' g2 R):=by
    grind [NL]
   refine (ih (k+1) (kl++[nth at' w]) (il++[nth at' u]) s' s2 g' g2 h8 (by omega) (by omega) (by grind) (by grind) z).mono λ_ h9 hy=>?_;rw[drop_cons hp,adZ,adZ,adZ,adZ,nw,nu]
   grind
  .rw[AT (by grind),ag];rw[aco (by omega)];simp;exact⟨ksl,isl,gk,gi,z⟩
def NO (s:Sl)(root:Int)(m cH nb ab x0:Nat)(at':ε)(O:List bh)(J R:List bA):List bA:=
 .au cH [aA (arr nb m),vi 0] ai::.au nb (O.flatMap bh.enc) ar::.au ab (at'.map vi) an::.au x0 [aA s,vi root] ai::(J++R)
def anu (G:iK h0 s N)(hB:Bd N 80)(t:TG N root)(hk:∀x∈N,PK N x){at'}(hl:at'.length=N.length)(hpos:∀w,IR N.length w->∃j:Nat,j<N.length/\gt at' w=some (j:Int))(hinj:∀w w' v,gt at' w=some v->gt at' w'=some v->w=w'){cH nb ab cap x0} a1 :
  ∀n i O J h ,N.length-i+500<n->i<=N.length->O.length=N.length->(∀r∈O,RO r J)->(∀w:Int,0<=w->w<(i:Int)->∃(j:Nat) (y:ao),gt at' w=some (j:Int)/\(O.map bh.v)[j]?=some y/\MN N (nth at') w y) ->
   Z h0 h (NO s root N.length cH nb ab x0 at' O J R) ->
   Wp (ja n (ak x0) a1 ⟨some ⟨ab,0,none⟩,N.length,cap⟩ (ak cH) (i:Int)) h λ_ h'=>∃O J,O.length=N.length/\(∀r∈O,RO r J)/\(∀w:Int,IR N.length w->∃(j:Nat) (y:ao),gt at' w=some (j:Int)/\(O.map bh.v)[j]?=some y/\MN N (nth at') w y)/\Z h0 h' (NO s root N.length cH nb ab x0 at' O J R):=by
 have hNB:=hB.1;intro n
 induction n with
 |zero=>intro i O J h h1;omega
 |succ n ih=>
  intro i O J h h1 h2 hO hRO hdone z;rw[xO];unfold om;have z':=z;unfold NO at z';refine z'.ld 3 (x:=s) ?_;rw[G.len];by_cases hi:i<N.length
  .rw[By (by grind)];obtain⟨x,hx⟩:=cG hi;have hm:=BY hx;have hbx:=hB.2.2 x hm;have hgx:gt N (i:Int)=some x:=by grind [tO]
   have z:=z';refine z.ld 3 (x:=s) ?_;refine G.at z (by omega) (by simpa using hx) λad ks is nd ik ii=>nd.eZ ?_;refine z.new λx4 h3 z _=>z.st 0 (cs':=[vi x.kind,.string x.text,.bool x.ord,aA ks,aA is]) λh4 z=>?_;refine z.ld 0 ?_;refine z.ld 0 ?_;refine z.ld 0 ?_;refine z.new λy9 h5 z _=>z.st 0 (cs':=[vi x.kind,.string x.text,.bool x.ord,aI,aI]) λh6 z=>?_;refine z.eZ 5 (ls:=[.sl,li]) (x:=(s,root)) ?_;rw[ah];refine (VM z G hB t hk hgx (by omega)).mono λa7 h7 hy=>?_;obtain⟨r,g,hr,z⟩:=hy;have q1:=Z.add z (Fr.refl z.wf) (o:=.sl oz 1 an [] 0) nv.nil (.inl rfl);have q2:=Z.add q1 (Fr.refl z.wf) (o:=.sl oz 1 an [] 0) nv.nil (.inl rfl);have q3:Z h0 h7 ([.sl oz 1 an [] 0,.sl oz 1 an [] 0,.sl a7 1 an (r.map vi) g,.au y9 [vi x.kind,.string x.text,.bool x.ord,aI,aI] ar,.au x4 [vi x.kind,.string x.text,.bool x.ord,aA ks,aA is] ar,.au cH [aA (arr nb N.length),vi 0] ai,.au nb (O.flatMap bh.enc) ar,.au ab (at'.map vi) an,.au x0 [aA s,vi root] ai]++(J++R)):=q2;have q4:=Z.iH q3 [3,0,1,2,4,7,5,6,8] (by simp only[acg,agy];decide);have q5:Z h0 h7 (NL x ks is r a7 g x4 y9 ab at' [] [] oz oz 0 0 (.au cH [aA (arr nb N.length),vi 0] ai::.au nb (O.flatMap bh.enc) ar::.au x0 [aA s,vi root] ai::(J++R))):=q4;have hloop:Wp (eQ n (ak x0) a1 ⟨some ⟨ab,0,none⟩,N.length,cap⟩ (ak cH) (i:Int) (ak x4) (ak y9) a7 0) h7 λ_ h'=>∃kl il ksl isl gk gi,MN N (nth at') (i:Int) ⟨x.kind,x.text,x.ord,kl,il⟩ /\
     Z h0 h' (NL x ks is r a7 g x4 y9 ab at' kl il ksl isl gk gi (.au cH [aA (arr nb N.length),vi 0] ai::.au nb (O.flatMap bh.enc) ar::.au x0 [aA s,vi root] ai::(J++R))):=by
    rcases hr with⟨h10,eo⟩|⟨h10,k0,r0⟩
    .refine (ahc ik ii h10 (t.g.ix x hm) hl hbx.2 (t.g.Lj hm h10) eo _ _ _ _ n 0 [] [] oz oz 0 0 h7 (by omega) (aea _) (acX _) (acX _) q5).mono λ_ h8 hy=>?_;obtain⟨ksl,isl,gk,gi,z⟩:=hy;rw[alZ,aiO,aiO] at z;exact⟨(r.map (nth x.keys)).map (nth at'),(r.map (nth x.items)).map (nth at'),ksl,isl,gk,gi,⟨x,hgx,rfl,rfl,rfl,.inr ⟨h10,r,eo,rfl,rfl⟩⟩,z⟩
    .refine (adQ ii h10 (t.g.ix x hm).2 hl hbx.2 _ _ _ _ n 0 [] [] oz oz 0 0 h7 (by omega) (aea _) (acX _) q5).mono λ_ h8 hy=>?_;obtain⟨isl,gi,z⟩:=hy;rw[alZ,aiO] at z;exact⟨[],x.items.map (nth at'),oz,isl,0,gi,⟨x,hgx,rfl,rfl,rfl,.inl ⟨h10,rfl,rfl⟩⟩,z⟩
   rw[ah];refine hloop.mono λ_ h8 hy=>?_;obtain⟨kl,il,ksl,isl,gk,gi,mn,z⟩:=hy;unfold NL at z;obtain⟨j,hj,hat⟩:=hpos (i:Int) ⟨by omega,by omega⟩;have hat2:=(ax hat).2;refine ze (by omega) (by omega) ?_;refine z.ld 6 (x:=arr nb N.length) ?_;refine z.ld 5 ?_ rfl (by rw[adY,abt,hat2];rfl) rfl;refine z.eZ 0 (ls:=[li,.str,.bool,.sl,.sl]) (x:=(x.kind,x.text,x.ord,ksl,isl)) ?_;refine ze (by omega) (by omega) ?_;rw[IS]
   let rr:bh:=⟨x.kind,x.text,x.ord,ksl,kl,gk,isl,il,gi⟩
   obtain⟨y,hy⟩:=cG (l:=O) (i:=j) (by omega);have hsp:aR (O.flatMap bh.enc) (j*5) [vi x.kind,.string x.text,.bool x.ord,aA ksl,aA isl]=(O.set j rr).flatMap bh.enc:=by
    have:=zt bh.pI (x':=rr) hy (o:=0) (vs:=[vi x.kind,.string x.text,.bool x.ord,aA ksl,aA isl]) (by simp) (by unfold aR bh.enc;rfl)
    grind
   have hfl:(O.flatMap bh.enc).length=N.length*5:=by rw[jg bh.pI,hO]
   refine z.st 7 (λh9 z=>?_) rfl hsp (by rw[hfl];simp;omega) rfl;have z:Z h0 h9 ([.au y9 [vi x.kind,.string x.text,.bool x.ord,aA ksl,aA isl] ar,.sl ksl 1 an (kl.map vi) gk,.sl isl 1 an (il.map vi) gi,.sl a7 1 an (r.map vi) g,.au x4 [vi x.kind,.string x.text,.bool x.ord,aA ks,aA is] ar,.au ab (at'.map vi) an,.au cH [aA (arr nb N.length),vi 0] ai,.au nb ((O.set j rr).flatMap bh.enc) ar,.au x0 [aA s,vi root] ai]++(J++R)):=z;have z:=Z.iH z [6,7,5,8,1,2,0,3,4] (by simp only[acg,agy];decide);have z:Z h0 h9 (NO s root N.length cH nb ab x0 at' (O.set j rr) (.sl ksl 1 an (kl.map vi) gk::.sl isl 1 an (il.map vi) gi::J) R):=
    z.sub (.cons₂ _ (.cons₂ _ (.cons₂ _ (.cons₂ _ (.cons₂ _ (.cons₂ _ (.cons _ (.cons _ (.cons _ (.refl _))))))))))
   rw[pA h2 (by omega)];refine ih (i+1) (O.set j rr) _ h9 (by omega) (by omega) (by grind) (λr' hr'=>?_) (λw hw0 hw=>?_) z
   .rcases agM hr' with h9|rfl
    .exact (hRO r' h9).mono λo ho=>IN _ (IN _ ho)
    .exact⟨.inr OF,.inr (IN _ OF)⟩
   .rw[TD];by_cases e:w=(i:Int)
    .subst e;exact⟨j,rr.v,hat,by grind,mn⟩
    .obtain⟨j',y',e1,e2,e3⟩:=hdone w hw0 (by omega);refine⟨j',y',e1,?_,e3⟩
     grind [List.getElem?_set_ne]
  .rw[AT (by grind),ag];exact⟨O,J,hO,hRO,λw hw=>hdone w hw.1 (by have:=hw.2;omega),z⟩
def Rd (z:Z h0 h L)(G:iK h0 s N)(fw:mU N){bs}{v}(p:Rn N root bs v){n}(hn:12000<n) :
  Wp (lr n (s,root)) h λy h'=>y.2=0/\iK h' y.1 (FR 0 v)/\Z h0 h' L:=by
 have hB:=fw.bd;have hNB:=fw.len;obtain⟨P,hP⟩:=p.p;have pm:=p.t.perm hP;have hir:∀w∈P,IR N.length w:=λw hw=>rR (pm.mem_iff.1 hw);have nd:P.Nodup:=pm.nodup_iff.2 (BS _);have hPl:P.length=N.length:=by rw[pm.length_eq,gN]
 unfold lr;refine z.new λx0 h1 z _=>z.new λx1 h2 z _=>?_;refine z.ld 1 (x:=s) ?_;rw[G.len];refine z.Ig (by omega) (by grind [bJ]) λab h3 z _=>?_;rw[IS] at z⊢;rw[lH] at z;rw[ah];refine (ant (by omega) _ _ n 0 h3 (by omega) (aea _) (by simpa using z)).mono λ_ h4 z=>?_;refine z.eZ 2 (ls:=[.sl,li]) (x:=(s,root)) ?_;refine z.ld 2 ?_;rw[ah];have hl0:(List.replicate N.length (-1:Int)).length=N.length:=aeP;have hg0:∀w,IR N.length w->gt (List.replicate N.length (-1:Int)) w=some (-1):=λw hw=>by
  obtain⟨v,hv⟩:=lQ hw.1 (by rw[hl0];exact hw.2);rw[hv,anL (aE hv)]
 refine (adN G hB p.t p.kinds v root P hP n 0 _ h4 _ (by rw[p.n];omega) (by omega) hl0 nd (λw hw=>hg0 w (hir w hw)) z).mono λy h5 hy=>?_;obtain⟨_,z⟩:=hy;have hlP:=DU P (List.replicate N.length (-1:Int)) 0;rw[hl0] at hlP;have hat:∀(j:Nat) w,P[j]?=some w->gt (xl (List.replicate N.length (-1)) P 0) w=some (j:Int):=λj w hj=>by
  have:=VG P (List.replicate N.length (-1)) 0 j nd (λw hw=>by grind) hj
  grind
 generalize hat':xl (List.replicate N.length (-1)) P 0=at' at z hlP hat;refine z.ld 2 (x:=s) ?_;rw[G.len];refine z.Ig (by omega) (by grind [bJ]) λnb h6 z _=>?_;rw[IS] at z⊢;rw[<-acY] at z;refine z.new λcH h7 z _=>z.st 0 (cs':=[aA (arr nb N.length),vi 0]) λh8 z=>?_;have z:=Z.iH (pre:=[.au cH [aA (arr nb N.length),vi 0] ai,.au nb ((List.replicate N.length ro0).flatMap bh.enc) ar,.au ab (at'.map vi) an,.au x1 [aI,vi 0] ai,.au x0 [aA s,vi root] ai]) z [0,1,2,4,3] (by grind);have z:Z h0 h8 (NO s root N.length cH nb ab x0 at' (List.replicate N.length ro0) [] (.au x1 [aI,vi 0] ai::L)):=z;have mem:∀w,IR N.length w->∃j:Nat,j<N.length/\P[j]?=some w:=λw hw=>by
  have h1:w∈P:=pm.mem_iff.2 (List.mem_map.2 ⟨w.toNat,List.mem_range.2 (by have:=hw.1;have:=hw.2;omega),by have:=hw.1;omega⟩);obtain⟨j,hj⟩:=List.mem_iff_getElem?.1 h1
  grind
 rw[ah];refine (anu (R:=.au x1 [aI,vi 0] ai::L) G hB p.t p.kinds hlP (λw hw=>?_) (λw w' v hw hw'=>?_) (ak x1) n 0 _ [] h8 (by omega) (aea _) aeP (λr hr=>?_) (λw h1 h2=>by omega) z).mono λ_ h9 hy=>?_
 .obtain⟨j,h1,h2⟩:=mem w hw
  grind
 .have i1:=kF hw;have i2:=kF hw';rw[hlP] at i1 i2;obtain⟨j,_,h2⟩:=mem w i1;obtain⟨j',_,h2'⟩:=mem w' i2;have e1:=hat j w h2;have e2:=hat j' w' h2';rw[hw] at e1;rw[hw'] at e2;have e:j=j':=by
   grind
  grind
 .have:=anL hr;subst this;exact⟨.inl ⟨rfl,rfl⟩,.inl ⟨rfl,rfl⟩⟩
 obtain⟨O,J,hO,hRO,hdone,z⟩:=hy;have eo:O.map bh.v=FR 0 v:=ag3 p.t hP hat (by grind) hdone;unfold NO at z;refine z.eZ 0 (ls:=[.sl,li]) (x:=(arr nb N.length,0)) ?_;have z:Z h0 h9 ((.au cH [aA (arr nb N.length),vi 0] ai::.au nb (O.flatMap bh.enc) ar::.au ab (at'.map vi) an::.au x0 [aA s,vi root] ai::J)++.au x1 [aI,vi 0] ai::L):=z;have z:=z.perm apr;refine z.st 0 (cs':=[aA (arr nb N.length),vi 0]) λh10 z=>?_;refine z.eZ 0 (ls:=[.sl,li]) (x:=(arr nb N.length,0)) ?_;rw[ag];refine⟨rfl,?_,?_⟩
 .rw[<-eo,<-hO];refine OG.read z (λo ho=>?_) hRO;rcases List.mem_cons.1 ho with rfl|ho
  .grind
  grind
 .exact z.sub (.cons _ (aiL _ _))
end
section
variable {α β:Type}{h h' h0 h1:aj}{L R J:List bA}{Q:β->aj->Prop}{N M:List ao}{s s':Sl}{root root':Int}{x:ao}
theorem adR:∀(l:MY) (b:Nat),(OA b l).length<=EE l
 |.nil,b=>acX _
 |.cons v l,b=>by
  have:=adR l (b+ER v);have:=OB v;rw[OA,EE,acg];omega
theorem adS:∀(l:Js) (b:Nat),(AN b l).length<=CG l/\(zM b l).length<=CG l
 |.nil,b=>⟨acX _,acX _⟩
 |.cons k v l,b=>by
  have:=adS l (b+1+ER v)
  grind [AN,AN,AN,zM,zM,zM,CG,CG]
mutual
def T0:∀(v:DT) (b:Nat),∀y∈FR b v,y.keys.length<=ER v/\y.items.length<=ER v
 |.int _,b,y,h=>by rw[FR,agv] at h;grind
 |.str _,b,y,h=>by rw[FR,agv] at h;grind
 |.list l,b,y,h=>by
  rw[FR] at h;rw[ER];rcases List.mem_cons.1 h with rfl|h
  .exact⟨aea _,by grind [adR,OA]⟩
  .have:=VN l (b+1) y h;omega
 |.map l,b,y,h=>by
  rw[FR] at h;rw[ER];rcases List.mem_cons.1 h with rfl|h
  .grind [adS,AN,zM]
  .have:=VO l (b+1) y h;omega
def VN:∀(l:MY) (b:Nat),∀y∈Jc b l,y.keys.length<=EE l/\y.items.length<=EE l
 |.nil,b,y,h=>by grind [Jc,Jc]
 |.cons v l,b,y,h=>by
  rw[Jc] at h;rw[EE];rcases List.mem_append.1 h with h|h
  .have:=T0 v b y h;omega
  .have:=VN l _ y h;omega
def VO:∀(l:Js) (b:Nat),∀y∈Jd b l,y.keys.length<=CG l/\y.items.length<=CG l
 |.nil,b,y,h=>by grind [Jd,Jd]
 |.cons k v l,b,y,h=>by
  rw[Jd] at h;rw[CG];rcases List.mem_cons.1 h with rfl|h
  .grind
  .rcases List.mem_append.1 h with h|h
   .have:=T0 v _ y h;omega
   .have:=VO l _ y h;omega
end
def Rn.bd {bs:List UInt8}{v:DT}(p:Rn N root bs v)(fw:mU N):Bd (FR 0 v) 80:=by
 have:=fw.len;have hn:=p.n;refine⟨by rw[zN];omega,by omega,λy hy=>?_⟩;have:=T0 v 0 y hy;omega
def ape (z:Z h0 h L)(G:iK h0 s N)(G':iK h0 s' M)(fw:mU N)(fw':mU M){bs bs':List UInt8}{v v':DT}(p:Rn N root bs v)(p':Rn M root' bs' v'){n:Nat}(hn:66200<n) :
  Wp (nK n (s,root) (s',root')) h λy h'=>(y=true↔FR 0 v=FR 0 v')/\Z h0 h' L:=by
 unfold nK;refine z.new λx0 h1 z _=>z.new λx1 h2 z _=>?_;refine z.eZ 1 (ls:=[.sl,li]) (x:=(s,root)) ?_;rw[ah];refine (M7 z G fw p (by omega)).mono λy h3 hy=>?_;obtain⟨rfl,z⟩:=hy;rw[By (by decide)];refine z.eZ 0 (ls:=[.sl,li]) (x:=(s',root')) ?_;rw[ah];refine (M7 z G' fw' p' (by omega)).mono λy h4 hy=>?_;obtain⟨rfl,z⟩:=hy;rw[By (by decide)];refine z.eZ 1 (ls:=[.sl,li]) (x:=(s,root)) ?_;refine z.eZ 0 (ls:=[.sl,li]) (x:=(s',root')) ?_;refine rQ (λa ha=>?_) (Rd z G fw p (by omega)) λr h5 hy=>?_
 .simp at ha;subst ha;exact⟨_,_,z.get 0 rfl,λr h' hp=>hp.2.2.get 0 rfl⟩
 obtain⟨r0,G1,z⟩:=hy;have z2:=Z.start z.wf;rw[ah];refine (Rd z2 (G'.fr z.fr) fw' p' (by omega)).mono λr' h6 hy=>?_;obtain⟨r0',G2,z2⟩:=hy;have z3:=Z.start z2.wf;obtain⟨r1,r2⟩:=r;obtain⟨r1',r2'⟩:=r';simp at r0 r0' G1 G2;subst r0;subst r0';rw[ah];refine (YV z3 (G1.fr z2.fr) G2 (p.bd fw) (p'.bd fw') (by omega)).mono λy h7 hy=>?_;obtain⟨hy,z3⟩:=hy;rw[ag];exact⟨hy,((z.pure z2.fr).pure z3.fr).drop.drop⟩
end
end Go.Sh
