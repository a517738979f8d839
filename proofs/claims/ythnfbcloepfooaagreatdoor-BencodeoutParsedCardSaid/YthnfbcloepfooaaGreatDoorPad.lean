
import Derived.Test.YthnfbcloepfooaaGreatDoorPac
set_option linter.all false
namespace Go.Ago
open Go
variable {α β:Type}{h h' h0:af}{L:List dh}
theorem Z.WX (z:Z h0 h L)(i:Nat){st:Bool}{s:Sl}{sz n:Nat}{e:κ}{cs new:δ}{g:Nat}{f:Sl->M β}{Q:β->af->Prop}(hi:L[i]?=some (.sl s sz e cs g))(hn:n≠0)(hl:new.length=n*sz)(hb:s.len+n<=cN)
  (q:∀s' h' g',s'.len=s.len+n->Z h0 h' (L.set i (.sl s' sz e (cs++new) g'))->Fr (·=g) h h'->Wp (f s') h' Q):Wp (AI (Ago.app st s sz e n new) f) h Q:=by
 rw[ag];have o:sF h s sz e cs g:=z.get i hi;refine o.app z.wf hn hl hb λs' h' g' h1 hcap h2 h3 h4=>q s' h' g' h1 ?_ h4;by_cases hg:g=0
 .have h3:=h3.resolve_left (λx=>x.2 hg);have f0:Fr (λ_=>False) h h':=⟨h4.wf,h4.next,λj c g2 b e2 hj _=>h4.cells j c g2 b e2 hj λe3=>by rw[e3,hg],λg2 h5 _=>h4.jY g2 h5 λe3=>by rw[e3,hg],h4.used,h4.none,λj x hj _=>h4.maps j x hj (by omega)⟩
  have z1:=z.add f0 (o:=.sl s' sz e (cs++new) g') h2 (.inr (by simp only[dh.bG];omega));refine⟨z1.Iy,z1.fr,λx hx=>z1.own x ?_,yq l5 (List.pairwise_cons.1 z1.k8).2 λj y hj hne e2=>(List.pairwise_cons.1 z1.k8).1 y (OF hj) e2⟩;rcases abr hx with hx|rfl
  .exact aan _ hx
  .exact aaz
 .refine z.mY (o:=.sl s sz e cs g) hi hg h4 h2 ?_;rcases h3 with h3|h3
  .exact .inl h3.1
  .exact .inr (.inr (by simp only[dh.bG];omega))
theorem Z.iP (z:Z h0 h L)(i:Nat){m:Nat}{kt:κ}{fn:ξ->Option ξ}{n:Nat}{k v:ξ}{f:Unit->M β}{Q:β->af->Prop}(hi:L[i]?=some (.map m kt fn n))
  (q:∀h' n',Z h0 h' (L.set i (.map m kt (zj fn k v) n'))->Wp (f ()) h' Q):Wp (AI (B4 kt (some m) k v) f) h Q:=by
 rw[ag];exact MB.Y1 (z.get i hi) z.wf λh' l fr=>q h' _ (z.mY (o:=.map m kt fn n) hi (by simp[dh.bG]) fr l (.inl rfl))
end Go.Ago
namespace Go.Sh
open Go Go.Ago Go.Proofs
variable {α β:Type}{h h' h0:af}{L:List dh}{Q:β->af->Prop}
def SR (h:af)(s:Sl)(S:List dB):Prop:=∃g,Bb h s 9 (S.flatMap dB.enc) g
def Yg (h:af)(a:Addr)(x:dB):Prop:=∃g,Cl h a x.enc g
theorem SR.fr {s:Sl}{S:List dB}(r:SR h s S)(f:Fr (λ_=>False) h h'):SR h' s S:=let ⟨g,r⟩:=r;⟨g,r.fr f λhx=>hx.elim⟩
theorem SR.len {s:Sl}{S:List dB}(r:SR h s S):s.len=S.length:=by
 obtain⟨g,r⟩:=r;have:=r.1;rw[fP dB.iA] at this;omega
theorem SR.at {s:Sl}{S:List dB}(r:SR h0 s S)(z:Z h0 h L){k:Int}{x:dB}(hx:gt S k=some x){f:Addr->M β}(q:∀a,Yg h a x->Wp (f a) h Q):Wp (AI (ao s k 9) f) h Q:=by
 have hl:=(r.fr z.fr).len;obtain⟨g,r⟩:=r.fr z.fr;obtain⟨h1,h2⟩:=bH hx;have hlt:=aY h2;exact r.Xj dB.iA h1 (by omega) h2 λa c=>q a ⟨g,c⟩
theorem Yg.ld {a:Addr}{x:dB}(c:Yg h a x)(o:Nat){v:ξ}{l:eh}{y:l.den}{f:l.den->M β}(q:Wp (f y) h Q)(hv:x.enc[o]?=some v:=by rfl)(hx:xi l v=some y:=by rfl):Wp (AI (ar l (a.plus o)) f) h Q:=
 let ⟨_,c⟩:=c
 c.ld hv hx q
theorem Yg.jV {a:Addr}{x:dB}(c:Yg h a x){f:Int×Int×Int×Int×Int×Int×Int×Bool×Bool->M β}(q:Wp (f (x.node,x.parent,x.entry,x.xc,x.to,x.kf,x.kt,x.alias,x.whole)) h Q) :
  Wp (AI (bh [li,li,li,li,li,li,li,.bool,.bool] a) f) h Q:=
 let ⟨_,c⟩:=c
 c.jV (ls:=[li,li,li,li,li,li,li,.bool,.bool]) (x:=(x.node,x.parent,x.entry,x.xc,x.to,x.kf,x.kt,x.alias,x.whole)) rfl q
theorem _root_.Go.Ago.Z.span (z:Z h0 h L){x:dB}{f:Nat->M β}(q:∀b h',Z h0 h' (.aD b x.enc fC::L)->Wp (f b) h' Q) :
  Wp (AI (aJ none fC [vi 0,vi 0,vi 0,vi 0,vi 0,vi 0,vi 0,Value.bool false,Value.bool false]) λb=>AI (bE (aw b) [vi x.node,vi x.parent,vi x.entry,vi x.xc,vi x.to,vi x.kf,vi x.kt,Value.bool x.alias,Value.bool x.whole]) λ_=>f b) h Q:=by
 refine z.new λb h1 z1 _=>z1.st 0 λh2 z2=>q b h2 z2
end Go.Sh
namespace Go.Ago
open Go
variable {α β:Type}{h h' h0:af}{L:List dh}
theorem Z.Yh (z:Z h0 h L)(i:Nat){b0 sz n:Nat}{e:κ}{new:δ}{f:Sl->M β}{Q:β->af->Prop}(hi:L[i]?=some (.aD b0 [] e))(hn:n≠0)(hl:new.length=n*sz)(hb:n<=cN)
  (q:∀b' h',Z h0 h' (.aD b' new e::L)->Wp (f ⟨some ⟨b',0,none⟩,n,0⟩) h' Q):Wp (AI (Ago.app false ⟨some ⟨b0,0,none⟩,0,1⟩ sz e n new) f) h Q:=by
 rw[ag];have l:LB h b0 [] e:=z.get i hi;refine⟨⟨some ⟨h.next,0,none⟩,n,0⟩,h.new e new,?_,q h.next _ (z.add (Fr.new z.wf) (o:=.aD h.next new e) LB.new (.inr (aad _)))⟩
 unfold Ago.app kF;simp only[aco,aab,aci];rw[By hn,By (by simp[hb,hl])];simp[bj,l.get];omega
theorem Z.DD (z:Z h0 h L)(i:Nat){b o n c sz:Nat}{e:κ}{cs:δ}{f:δ->M β}{Q:β->af->Prop}(hi:L[i]?=some (.aD b cs e))(ho:o+n*sz<=cs.length)
  (q:Wp (f ((cs.drop o).take (n*sz))) h Q):Wp (AI (DD ⟨some ⟨b,o,none⟩,n,c⟩ sz) f) h Q:=by
 rw[ag];have l:LB h b cs e:=z.get i hi;exact⟨_,h,by unfold Ago.DD;simp only[bj,l.get];rw[BY ho],q⟩
end Go.Ago
namespace Go.Sh
open Go Go.Ago Go.Proofs
variable {α β:Type}{h h' h0:af}{L:List dh}{Q:β->af->Prop}
theorem Xm {b o n cap:Nat}{k:Int}{sz:Nat}(h1:0<=k)(h2:k<(n:Int)){f:Addr->M β}(q:Wp (f ⟨b,o+k.toNat*sz,none⟩) h Q):Wp (AI (ao ⟨some ⟨b,o,none⟩,n,cap⟩ k sz) f) h Q:=by
 rw[ag,sS];exact⟨_,rfl,h1,h2,q⟩
def Bu (lt:Int->Int->Option Bool):Nat->ε->ε->Option ε
 |0,_,_=>some []
 |n+1,l::ls,[]=>(Bu lt n ls []).map (l::·)
 |n+1,[],r::rs=>(Bu lt n [] rs).map (r::·)
 |n+1,l::ls,r::rs=>match lt r l with
  |none=>none
  |some true=>(Bu lt n (l::ls) rs).map (r::·)
  |some false=>(Bu lt n ls (r::rs)).map (l::·)
 |_+1,[],[]=>none
def Sx (lt:Int->Int->Option Bool):Nat->ε->Option ε
 |0,_=>none
 |k+1,xs=>if xs.length<2 then some xs else match Sx lt k (xs.take (xs.length/2)) with
  |none=>none
  |some a=>match Sx lt k (xs.drop (xs.length/2)) with
   |none=>none
   |some b=>Bu lt xs.length a b
theorem zH {lt:Int->Int->Option Bool}:∀{n:Nat} {a b r:ε},Bu lt n a b=some r->r.length=n
 |0,a,b,r,he=>by rw[Bu] at he;cases he;rfl
 |n+1,a,b,r,he=>by
  have fin:∀{o:Option ε} {x:Int},o.map (x::·)=some r->(∀r',o=some r'->r'.length=n)->r.length=n+1:=by
   intro o x he hr;cases o with
   |none=>cases he
   |some r'=>cases he;rw[aae,hr r' rfl]
  cases a with
  |nil=>
   cases b with
   |nil=>rw[Bu] at he;cases he
   |cons y b=>rw[Bu] at he;exact fin he λr'=>zH
  |cons x a=>
   cases b with
   |nil=>rw[Bu] at he;exact fin he λr'=>zH
   |cons y b=>
    rw[Bu] at he;split at he
    .cases he
    .exact fin he λr'=>zH
    .exact fin he λr'=>zH
theorem Mo {lt:Int->Int->Option Bool}:∀{k:Nat} {xs r:ε},Sx lt k xs=some r->r.length=xs.length
 |0,xs,r,he=>by cases he
 |k+1,xs,r,he=>by
  rw[Sx] at he;split at he
  .cases he;rfl
  .split at he
   .cases he
   .split at he
    .cases he
    .exact zH he
theorem Mq {out:ε}{i:Nat}{v:Int}{res:ε}(hi:i<out.length):(out.set i v).take (i+1)++res=out.take i++v::res:=by
 rw[acz,aaw hi,List.take_set_of_le (aai _)];simp
section
variable {lt:Int->Int->Option Bool}{f:ξ}{K:Nat}
theorem Yi (hless:∀{n:Nat} {h:af} {P:List dh} {x y:Int} {r:Bool},K<=n->lt x y=some r->Z h0 h (P++L)->Wp (lj n f x y) h λb h'=>b=r/\Z h0 h' (P++L)){bl br b m c0:Nat}{ls rs:ε}(hm:m<1073741824){P:List dh} :
  ∀(n i p q:Nat) (out res:ε) (h:af) (c2 c3:Nat),m-i+K<n->i<=m->p<=ls.length->q<=rs.length->out.length=m->Bu lt (m-i) (ls.drop p) (rs.drop q)=some res ->
   Z h0 h (.aD b (out.map vi) ay::.aD bl (ls.map vi) ay::.aD br (rs.map vi) ay::(P++L)) ->
   Wp (gS n ⟨some ⟨b,0,none⟩,m,c0⟩ f ⟨some ⟨bl,p,none⟩,ls.length-p,c2⟩ ⟨some ⟨br,q,none⟩,rs.length-q,c3⟩ (m:Int) (i:Int)) h λ_ h'=>
    Z h0 h' (.aD b ((out.take i++res).map vi) ay::.aD bl (ls.map vi) ay::.aD br (rs.map vi) ay::(P++L)):=by
 intro n
 induction n with
 |zero=>intro i p q out res h c2 c3 h1;omega
 |succ n ih=>
  intro i p q out res h c2 c3 h1 h2 hp hq ho hv z;rw[xD];unfold pM;by_cases hi:i<m
  .rw[BY (by simp;omega)];obtain⟨k,hk⟩:∃k,m-i=k+1:=⟨m-i-1,by omega⟩;have hk':m-(i+1)=k:=by omega
   rw[hk] at hv;have J1:∀{h:af} (x:Int),ls[p]?=some x->Z h0 h (.aD b (out.map vi) ay::.aD bl (ls.map vi) ay::.aD br (rs.map vi) ay::(P++L))->(Bu lt k (ls.drop (p+1)) (rs.drop q)).map (x::·)=some res ->
     Wp (ij (bR.at n) n ⟨some ⟨b,0,none⟩,m,c0⟩ f ⟨some ⟨bl,p,none⟩,ls.length-p,c2⟩ ⟨some ⟨br,q,none⟩,rs.length-q,c3⟩ (i:Int) (m:Int) (i:Int)) h λ_ h'=>
      Z h0 h' (.aD b ((out.take i++res).map vi) ay::.aD bl (ls.map vi) ay::.aD br (rs.map vi) ay::(P++L)):=by
    intro h x hx z hv;have hlt:=aY hx;cases hr:Bu lt k (ls.drop (p+1)) (rs.drop q) with
    |none=>rw[hr] at hv;cases hv
    |some r2=>
    rw[hr] at hv;cases hv;unfold ij;refine Xm (by omega) (by omega) ?_;refine z.ld 1 (l:=li) (x:=x) ?_ rfl (by show (ls.map vi)[p+0*1]?=_;rw[aci,aaG,aaj,hx];rfl) rfl;refine Xm (by omega) (by omega) ?_;rw[ag];refine rH (by decide) (by simp only;omega) (by simp only;omega) (by have l:LB h bl _ _:=z.get 1 rfl;simp[gx,l.get]) ?_;have e0:(0+(i:Int).toNat*1)=i:=(by omega);rw[e0];refine z.VY 0 (xs:=out) (enc:=vi) (v:=x) (by omega) (λa ha=>?_) λh3 z=>?_
    .simp only[aat,IN] at ha;subst ha;exact z.VX 0 1 rfl rfl (by omega)
    rw[vV h2 (by omega)];have:=ih (i+1) (p+1) q (out.set i x) r2 h3 (c2-if c2=0 then 0 else (1:Int).toNat) c3 (by omega) (by omega) (by omega) hq (by simpa using ho) (by rw[hk'];exact hr) z;rw[Mq (by omega)] at this;exact this
   have J0:∀{h:af} (x:Int),rs[q]?=some x->Z h0 h (.aD b (out.map vi) ay::.aD bl (ls.map vi) ay::.aD br (rs.map vi) ay::(P++L))->(Bu lt k (ls.drop p) (rs.drop (q+1))).map (x::·)=some res ->
     Wp (im (bR.at n) n ⟨some ⟨b,0,none⟩,m,c0⟩ f ⟨some ⟨bl,p,none⟩,ls.length-p,c2⟩ ⟨some ⟨br,q,none⟩,rs.length-q,c3⟩ (i:Int) (m:Int) (i:Int)) h λ_ h'=>
      Z h0 h' (.aD b ((out.take i++res).map vi) ay::.aD bl (ls.map vi) ay::.aD br (rs.map vi) ay::(P++L)):=by
    intro h x hx z hv;have hlt:=aY hx;cases hr:Bu lt k (ls.drop p) (rs.drop (q+1)) with
    |none=>rw[hr] at hv;cases hv
    |some r2=>
    rw[hr] at hv;cases hv;unfold im;refine Xm (by omega) (by omega) ?_;refine z.ld 2 (l:=li) (x:=x) ?_ rfl (by show (rs.map vi)[q+0*1]?=_;rw[aci,aaG,aaj,hx];rfl) rfl;refine Xm (by omega) (by omega) ?_;rw[ag];refine rH (by decide) (by simp only;omega) (by simp only;omega) (by have l:LB h br _ _:=z.get 2 rfl;simp[gx,l.get]) ?_;have e0:(0+(i:Int).toNat*1)=i:=(by omega);rw[e0];refine z.VY 0 (xs:=out) (enc:=vi) (v:=x) (by omega) (λa ha=>?_) λh3 z=>?_
    .simp only[aat,IN] at ha;subst ha;exact z.VX 0 2 rfl rfl (by omega)
    rw[vV h2 (by omega)];have:=ih (i+1) p (q+1) (out.set i x) r2 h3 c2 (c3-if c3=0 then 0 else (1:Int).toNat) (by omega) (by omega) hp (by omega) (by simpa using ho) (by rw[hk'];exact hr) z;rw[Mq (by omega)] at this;exact this
   by_cases c1:q=rs.length
   .rw[BY (by simp;omega)];have e2:rs.drop q=[]:=aah (by omega);by_cases c2':p<ls.length
    .obtain⟨x,hx⟩:=gU c2';rw[drop_cons hx,e2,Bu] at hv;exact J1 x hx z (by rw[e2];exact hv)
    .have e1:ls.drop p=[]:=aah (by omega);rw[e1,e2,Bu] at hv;cases hv
   .rw[By (by simp;omega)];obtain⟨y,hy⟩:=gU (l:=rs) (i:=q) (by omega);by_cases c2':p<ls.length
    .rw[BY (by simp;omega)];obtain⟨x,hx⟩:=gU c2';rw[drop_cons hx,drop_cons hy,Bu] at hv;refine Xm (by omega) (by omega) (Xm (by omega) (by omega) ?_);refine z.ld 2 (l:=li) (x:=y) ?_ rfl (by show (rs.map vi)[q+0*1]?=_;rw[aci,aaG,aaj,hy];rfl) rfl;refine z.ld 1 (l:=li) (x:=x) ?_ rfl (by show (ls.map vi)[p+0*1]?=_;rw[aci,aaG,aaj,hx];rfl) rfl;cases hl:lt y x with
     |none=>rw[hl] at hv;cases hv
     |some r=>
     rw[hl] at hv;rw[ag];refine (hless (P:=_::_::_::P) (n:=n) (by omega) hl z).mono λb' h3 hb=>?_;obtain⟨rfl,z⟩:=hb;cases b' with
     |true=>
      rw[By (by simp)];exact J0 y hy z (by rw[drop_cons hx];exact hv)
     |false=>
      rw[BY (by rfl)];exact J1 x hx z (by rw[drop_cons hy];exact hv)
    .rw[By (by simp;omega)];have e1:ls.drop p=[]:=aah (by omega);rw[e1,drop_cons hy,Bu] at hv;exact J0 y hy z (by rw[e1];exact hv)
  .rw[By (by simp;omega),ah];have e:m-i=0:=by omega
   rw[e,Bu] at hv;cases hv;have:out.take i=out:=aba (by omega);rw[this,aaF];exact z
theorem RP (hless:∀{n:Nat} {h:af} {P:List dh} {x y:Int} {r:Bool},K<=n->lt x y=some r->Z h0 h (P++L)->Wp (lj n f x y) h λb h'=>b=r/\Z h0 h' (P++L)) :
  ∀(k n:Nat) (xs r:ε) (b c0:Nat) (h:af) (P:List dh),xs.length<1073741824->xs.length+K+k+2<n->Sx lt k xs=some r->Z h0 h (.aD b (xs.map vi) ay::(P++L)) ->
   Wp (kQ n ⟨some ⟨b,0,none⟩,xs.length,c0⟩ f) h λ_ h'=>Z h0 h' (.aD b (r.map vi) ay::(P++L)):=by
 intro k
 induction k with
 |zero=>intro n xs r b c0 h P _ _ hv;cases hv
 |succ k ih=>
  intro n xs r b c0 h P hB hn hv z;obtain⟨n,rfl⟩:∃m,n=m+1:=⟨n-1,by omega⟩;rw[As];unfold tT;rw[Sx] at hv;by_cases c1:xs.length<2
  .rw[BY c1] at hv;cases hv;rw[BY (by simp;omega),ah];exact z
  rw[By c1] at hv;rw[By (by simp;omega)];cases ha:Sx lt k (xs.take (xs.length/2)) with
  |none=>rw[ha] at hv;cases hv
  |some as'=>
  rw[ha] at hv;simp only at hv;cases hb:Sx lt k (xs.drop (xs.length/2)) with
  |none=>rw[hb] at hv;cases hv
  |some bs=>
  rw[hb] at hv;simp only at hv;have hal:=Mo ha;have hbl:=Mo hb;rw[aaI] at hal;rw[aaZ] at hbl;have hmid:IntKind.i64.wrap (((xs.length:Nat):Int).tdiv 2)=((xs.length/2:Nat):Int):=by
   have:((xs.length:Nat):Int).tdiv 2=((xs.length/2:Nat):Int):=rfl;rw[this];exact IntWalk.i64_in _ ⟨by omega,by omega⟩
  simp only[hmid];have hck:∀{γ:Type} {g:Unit->M γ} {h:af} {R:γ->af->Prop},Wp (g ()) h R->Wp (AI (xZ (decide ((2:Int)≠0))) g) h R:=λq=>by
   rw[ag];exact⟨(),_,rfl,q⟩
  refine z.new λb0 h1 z _=>hck ?_;rw[ag];refine rH (by decide) (by omega) (by simp only;omega) (by have l:LB h1 b _ _:=z.get 1 rfl;simp[gx,l.get]) ?_;refine z.DD 1 (b:=b) (o:=0) (n:=xs.length/2) rfl (by simp;omega) ?_;refine z.Yh 0 rfl (by show xs.length/2≠0;omega) (by simp;omega) (by show xs.length/2<=cN;unfold cN;omega) λbl h2 z=>?_;refine z.new λb5 h3 z _=>hck ?_;rw[ag];refine rH (by omega) (by omega) (by simp only;omega) (by have l:LB h3 b _ _:=z.get 3 rfl;simp[gx,l.get]) ?_;have e5:(0+((xs.length/2:Nat):Int).toNat*1)=xs.length/2:=by omega
  refine z.DD 3 (b:=b) (o:=0+((xs.length/2:Nat):Int).toNat*1) (n:=xs.length-xs.length/2) rfl (by rw[e5];simp;omega) ?_;refine z.Yh 0 rfl (by show xs.length-xs.length/2≠0;omega) (by rw[e5];simp;omega) (by show xs.length-xs.length/2<=cN;unfold cN;omega) λbr h4 z=>?_;rw[e5] at z;have ez1:((xs.map vi).drop 0).take (xs.length/2*1)=(xs.take (xs.length/2)).map vi:=by simp[List.map_take]
  have ez2:((xs.map vi).drop (xs.length/2)).take ((xs.length-xs.length/2)*1)=(xs.drop (xs.length/2)).map vi:=by rw[<-List.map_drop,aba (by simp)]
  rw[ez2] at z;have z:Z h0 h4 (.aD br ((xs.drop (xs.length/2)).map vi) ay::.aD b5 [] ay::.aD bl ((xs.take (xs.length/2)).map vi) ay::.aD b0 [] ay::.aD b (xs.map vi) ay::(P++L)):=by
   rw[<-ez1];exact z
  have z:=Z.lA (pre:=[_,_,_,_,_]) z [2,0,4,1,3] (by simp only[aae,aam];decide);have l1:(xs.take (xs.length/2)).length=xs.length/2:=by rw[aaI];omega
  have l2:(xs.drop (xs.length/2)).length=xs.length-xs.length/2:=by rw[aaZ]
  rw[ag];have i1:=ih n (xs.take (xs.length/2)) as' bl 0 h4 (_::_::_::_::P) (by omega) (by omega) ha z;rw[l1] at i1;refine i1.mono λ_ h5 z=>?_;have z:=Z.lA (pre:=[_,_,_,_,_]) z [1,0,2,3,4] (by simp only[aae,aam];decide);rw[ag];have i2:=ih n (xs.drop (xs.length/2)) bs br 0 h5 (_::_::_::_::P) (by omega) (by omega) hb z;rw[l2] at i2;refine i2.mono λ_ h6 z=>?_;have z:=Z.lA (pre:=[_,_,_,_,_]) z [2,1,0,3,4] (by simp only[aae,aam];decide);rw[ag];have i3:=Yi hless (bl:=bl) (br:=br) (b:=b) (m:=xs.length) (c0:=c0) (ls:=as') (rs:=bs) hB (P:=_::_::P) n 0 0 0 xs r h6 0 0 (by omega) (by omega) (by omega) (by omega) rfl (by simpa using hv) z;rw[hal,hbl,acC,acC,acJ (by omega)] at i3;refine i3.mono λ_ h7 z=>?_;rw[ah];have z:=Z.lA (pre:=[_,_,_,_,_]) z [3,4,1,2,0] (by simp only[aae,aam];decide);exact z.drop.drop.drop.drop
end
end Go.Sh
namespace Go.Ago
open Go
variable {α β:Type}{h h' h0:af}{L:List dh}
theorem nM {γ:Type}{j k:Nat}(hn:j≠k)(a b:γ):cond (Nat.beq j k) a b=b:=by rw[aQ,By hn]
theorem Fr.sD {X:Nat->Prop}(hw:WF h0)(a:Fr X h0 h){k:Nat}(hk:h0.next<=k)(hk2:k<h.next){kt:κ}:Fr X h0 (h.sD k kt):=by
 refine⟨⟨a.wf.get,λj hj=>?_,a.wf.bG,λj hj=>?_⟩,a.next,a.cells,a.jY,λj hj=>?_,a.none,λj x hj hx=>?_⟩
 .have hj:h.next<=j:=hj
  show cond (Nat.beq j k) true (h.used j)=false;rw[nM (by omega)];exact a.wf.used j hj
 .have hj:=cu hj;show cond (Nat.beq j k) _ (h.fj j)=Option.none;rw[nM hj.1];exact a.wf.maps j hj.2
 .show cond (Nat.beq j k) true (h.used j)=_;rw[nM (by omega)];exact a.used j hj
 .have:=hw.mlt hj;show cond (Nat.beq j k) _ (h.fj j)=_;rw[nM (by omega)];exact a.maps j x hj hx
theorem dh.WY {o:dh}{k:Nat}{kt:κ}(hk:o.ok h)(hne:o.bG≠k+1):o.ok (h.sD k kt):=by
 cases o with
 |aD b cs e=>exact⟨(show LB h b cs e from hk).get⟩
 |sl s sz e cs g=>exact hk
 |ps s sz e cs g=>exact hk
 |map m kt2 fn n=>
  obtain⟨c,es,h1,h2⟩:=MB.ex hk;refine⟨c,es,?_,h2⟩;show cond (Nat.beq m k) _ (h.fj m)=_;rw[nM (λe=>hne (by rw[e];rfl))];exact h1
 |free k2=>
  have hn:k2≠k:=λe=>hne (by rw[e];rfl);refine⟨?_,hk.2⟩;show cond (Nat.beq k2 k) true (h.used k2)=false;rw[nM hn];exact hk.1
 |Xk F sz e g=>exact hk
theorem Z.WZ (z:Z h0 h L)(i:Nat){k:Nat}{kt:κ}{f:Nat->M β}{Q:β->af->Prop}
  (q:∀h',Z h0 h' (L.set i (.map k kt (λ_=>none) 0))->Wp (f k) h' Q) (hi:L[i]?=some (.free k):=by rfl):Wp (AI (nV k kt) f) h Q:=by
 rw[ag];have hmem:=OF hi;have hf:DU h k:=(z.own _ hmem).1;refine⟨k,h.sD k kt,by unfold nV;rw[BY ⟨hf.1,hf.2.1,by rw[z.wf.maps k hf.1];rfl,by rw[hf.2.2];rfl⟩],q _ ?_⟩;have hg:h0.next<k+1:=(z.own _ hmem).2.resolve_left (by simp[dh.bG])
 have ho:∀j y,L[j]?=some y->j≠i->y.bG≠k+1:=λj y hj hne e=>by
  have:=yr l5 z.k8 hj hi hne e;rw[e] at this;omega
 refine⟨z.Iy,z.fr.sD z.Iy (by omega) hf.2.1,λx hx=>?_,yq l5 z.k8 λj y hj hne e2=>absurd e2.symm (ho j y hj hne)⟩;obtain⟨j,hj⟩:=List.mem_iff_getElem?.1 hx;rw[abQ] at hj;split at hj
 .split at hj
  .cases hj;refine⟨⟨0,[],?_,trivial,λ_=>rfl,rfl⟩,.inr hg⟩;show cond (Nat.beq k k) _ (h.fj k)=_;rw[fB];rfl
  .cases hj
 .rename_i hne;have hmy:=OF hj;exact⟨dh.WY (z.own x hmy).1 (ho j x hj λe2=>hne e2.symm),(z.own x hmy).2⟩
theorem Z.ZJ (z:Z h0 h L){st:Bool}{sz n:Nat}{e:κ}{new:δ}{f:Sl->M β}{Q:β->af->Prop}(hn:n≠0)(hl:new.length=n*sz)(hb:n<=cN)
  (q:∀b' h',Z h0 h' (.aD b' new e::L)->Wp (f ⟨some ⟨b',0,none⟩,n,0⟩) h' Q):Wp (AI (Ago.app st ⟨none,0,0⟩ sz e n new) f) h Q:=by
 rw[ag];refine⟨⟨some ⟨h.next,0,none⟩,n,0⟩,h.new e new,?_,q h.next _ (z.add (Fr.new z.wf) (o:=.aD h.next new e) LB.new (.inr (aad _)))⟩
 have hx:(h.get h.next)=none:=z.wf.get _ (aai _)
 unfold Ago.app kF;simp only[hx,acq,acm,aab];rw[By hn,By (by simp[hb,hl])];simp
theorem cU {a:Addr}{f:Addr->M β}{Q:β->af->Prop}(q:Wp (f a) h Q):Wp (AI (nn (some a)) f) h Q:=by
 rw[ag];exact⟨a,h,rfl,q⟩
end Go.Ago
namespace Go.Sh
open Go Go.Ago Go.Proofs
variable {α β:Type}{h h' h0:af}{L:List dh}{Q:β->af->Prop}
def LN (t:ζ):aq:=⟨5,t,false,[],[]⟩
theorem RQ {t:ζ}(hu:u8 t=true):fK 0 (.str t)=[LN t]:=by rw[fK,BY hu];rfl
theorem Jd {t:ζ}(hu:u8 t=true){k:Nat}(hk:200<=k):sq k [LN t] 0=some 0:=by
 rw[<-RQ hu];exact A7 (abO _) (by rw[fY];decide) (by rw[fY];omega)
theorem RR {t:ζ}(hu:u8 t=true){k:Nat}(hk:200<=k):∃d,dep k [LN t] 0=some (d,true):=by
 rw[<-RQ hu];obtain⟨d,h1,_⟩:=Jc (v:=.str t) (abO _) (by rw[fY];decide) (k:=k) (by rw[fY];omega);exact⟨d,h1⟩
theorem Mr (t:ζ):Bd [LN t] 1:=⟨aai _,by decide,λx hx=>by rw[aat] at hx;subst hx;exact⟨abO _,abO _⟩⟩
theorem RS {s:Sl}{root:Int}{N:List aq}(z:Z h0 h L)(G:mE h0 s N){B:Nat}(hB:Bd N B)(ht:∀x∈N,x.text.size<=65536){k n:Nat}(hn:k+4*B+65600<n)(hv:sq k N root=some 0){d:Int}{a:Bool}(hd:dep k N root=some (d,a)) :
  Wp (sX n (s,root)) h λx h'=>x=(d,a)/\Z h0 h' L:=by
 unfold sX;refine z.new λx0 h1 z _=>?_;refine z.jV 0 (ls:=[.sl,li]) (x:=(s,root)) ?_;rw[ag];refine (qo z G hB ht hn hv).mono λy h2 hy=>?_;obtain⟨rfl,z⟩:=hy;rw[By (by simp)];refine z.jV 0 (ls:=[.sl,li]) (x:=(s,root)) ?_;rw[ag];refine (IQ z G hB (k:=k) (by omega) (by omega) hd).mono λy h3 hy=>?_;obtain⟨rfl,z⟩:=hy;rw[ah];exact⟨rfl,z.drop⟩
theorem Dr {s:Sl}{root:Int}{N:List aq}(z:Z h0 h L)(G:mE h0 s N){B:Nat}(hB:Bd N B)(ht:∀x∈N,x.text.size<=65536){k n:Nat}(hn:k+4*B+65600<n)(hv:sq k N root=some 0){d:Int}(hd:dep k N root=some (d,true)) :
  Wp (mL n (s,root)) h λx h'=>x=0/\Z h0 h' L:=by
 unfold mL;refine z.new λx0 h1 z _=>?_;refine z.jV 0 (ls:=[.sl,li]) (x:=(s,root)) ?_;rw[ag];refine (qo z G hB ht hn hv).mono λy h2 hy=>?_;obtain⟨rfl,z⟩:=hy;rw[By (by simp)];refine z.jV 0 (ls:=[.sl,li]) (x:=(s,root)) ?_;rw[ag];refine (RS z G hB ht hn hv hd).mono λy h3 hy=>?_;obtain⟨rfl,z⟩:=hy;rw[By (by simp),ah];exact⟨rfl,z.drop⟩
theorem of_wp {s:Sl}{root:Int}(z:Z h0 h L)(hb:s.len<=cN){n:Nat} :
  Wp (r8 n (s,root)) h λr h'=>∃x5 b4,r=some (aw x5)/\Z h0 h' (.aD x5 [aS s,vi root,aS (arr b4 s.len)] xW::.aD b4 (List.replicate s.len aZ) cw::L):=by
 unfold r8;refine z.new λx0 h1 z _=>z.dT [4,6] (by decide) (by decide) λnb h2 z=>?_;refine z.jV 2 (ls:=[.sl,li]) (x:=(s,root)) ?_;refine z.ld 2 (o:=0) (l:=.sl) (x:=s) ?_;refine z.Tr 0 (by omega) (by omega) λh3 z=>?_;refine z.newAt 1 (cs:=[aS s,vi root,aS (arr (nb+4) s.len)]) λh4 z=>?_;rw[ah];refine⟨nb+6,nb+4,rfl,?_⟩;rw[aac] at z;rw[IC] at z;have z:=Z.lA (pre:=[_,_,_]) z [1,0,2] (by simp only[aae,aam];decide);exact z.sub (List.Sublist.cons₂ _ (List.Sublist.cons₂ _ (aa2 _ _)))
theorem RT {a b:ζ}(hn:a≠b):pj a b=false:=by
 cases he:pj a b with
 |false=>rfl
 |true=>exact absurd (yo he) hn
theorem RU:∀{a b:List UInt8},a≠b->Lib.compareBytes a b≠0
 |[],[],h=>absurd rfl h
 |[],_::_,h=>by unfold Lib.compareBytes;decide
 |_::_,[],h=>by unfold Lib.compareBytes;decide
 |a::as',b::bs,h=>by
  unfold Lib.compareBytes;by_cases h1:a<b
  .rw[BY h1];decide
  rw[By h1];by_cases h2:b<a
  .rw[BY h2];decide
  rw[By h2];have:a=b:=UInt8.le_antisymm (UInt8.not_lt.1 h2) (UInt8.not_lt.1 h1);subst this;exact RU λe=>h (by rw[e])
theorem OS {a b:ζ}(hn:a≠b):a.data.toList≠b.data.toList:=λe=>hn (by
 cases a;cases b;simp only at e
 congr 1
 exact Array.toList_inj.1 e)
theorem Je {s1 s2 s3 s4:Sl}{t1 t2:ζ}{x1 x2:Nat}{e1 e2:κ}{r1 r2:Int}{i j:Nat}(z:Z h0 h L)(h1:L[i]?=some (.aD x1 [aS s1,vi r1,aS s3] e1))(h2:L[j]?=some (.aD x2 [aS s2,vi r2,aS s4] e2))(G1:mE h0 s1 [LN t1])(G2:mE h0 s2 [LN t2])(hne:t1≠t2){n:Nat}(hn:1<=n){m:μ} :
  Wp (mh n (some (aw x1)) 0 (some (aw x2)) 0 m) h λr h'=>r=Lib.compareBytes t1.data.toList t2.data.toList/\Z h0 h' L:=by
 obtain⟨n,rfl⟩:∃m,n=m+1:=⟨n-1,by omega⟩;rw[zt];unfold r7;refine cU (cU ?_);refine z.ld i (o:=0+0+0) (l:=.sl) (x:=s1) ?_ h1 rfl rfl;refine G1.at z (k:=0) (by omega) rfl λa ka ia na _ _=>?_;refine z.ld j (o:=0+0+0) (l:=.sl) (x:=s2) ?_ h2 rfl rfl;refine G2.at z (k:=0) (by omega) rfl λb kb ib nb _ _=>?_;refine cU (cU (na.V1 (nb.V1 ?_)));rw[By (by simp[LN])];refine cU (cU (na.V1 (nb.V1 ?_)));rw[By (by simp[LN])];refine cU (cU (na.ZW (nb.ZW ?_)));rw[By (by simp[LN])];refine cU (cU (cU (na.V1 (na.Jv (nb.Jv ?_)))));have hs:Wp (ri n (LN t1).kind t1 t2) h λr h'=>r=Lib.compareBytes t1.data.toList t2.data.toList/\h'=h:=by
  unfold ri;rw[By (by rw[RT hne];simp),By (by simp[LN]),By (by simp[LN]),By (by simp[LN]),ag];unfold strings_Compare;rw[ah,ah];exact⟨rfl,rfl⟩
 rw[ag];refine hs.mono λy h3 hy=>?_;obtain⟨rfl,rfl⟩:=hy;rw[BY (by simpa using RU (OS hne)),ah];exact⟨rfl,z⟩
theorem G7 {s1 s2 s3 s4:Sl}{t1 t2:ζ}{x1 x2:Nat}{e1 e2:κ}{r1 r2:Int}{i j q:Nat}(z:Z h0 h L)(h1:L[i]?=some (.aD x1 [aS s1,vi r1,aS s3] e1))(h2:L[j]?=some (.aD x2 [aS s2,vi r2,aS s4] e2)){mm:Nat}(h3:L[q]?=some (.map mm ug (λ_=>none) 0))(G1:mE h0 s1 [LN t1])(G2:mE h0 s2 [LN t2])(hne:t1≠t2){n:Nat}(hn:2<=n) :
  Wp (gu n (some (aw x1)) 0 (some (aw x2)) 0 (some mm)) h λr h'=>r=Lib.compareBytes t1.data.toList t2.data.toList/\∃f' n',Z h0 h' (L.set q (.map mm ug f' n')):=by
 obtain⟨n,rfl⟩:∃m,n=m+1:=⟨n-1,by omega⟩;rw[yG];unfold qz;refine z.fj q h3 (λv hv=>by cases hv) λ_=>?_;rw[By (by simp),ag];refine (Je z h1 h2 G1 G2 hne (by omega)).mono λy h4 hy=>?_;obtain⟨rfl,z⟩:=hy;rw[BY (by rfl)];refine z.iP q h3 λh5 n5 z=>?_;rw[ah];exact⟨rfl,_,_,z⟩
theorem G8 {s1 s2:Sl}{t1 t2:ζ}(z:Z h0 h L)(G1:mE h0 s1 [LN t1])(G2:mE h0 s2 [LN t2])(u1:u8 t1=true)(u2:u8 t2=true)(b1:t1.size<=65536)(b2:t2.size<=65536)(hne:t1≠t2){n:Nat}(hn:66000<n) :
  Wp (p7 n (s1,0) (s2,0)) h λr h'=>r=(Lib.compareBytes t1.data.toList t2.data.toList,0)/\Z h0 h' L:=by
 have T1:∀x∈[LN t1],x.text.size<=65536:=λx hx=>by rw[aat] at hx;subst hx;exact b1
 have T2:∀x∈[LN t2],x.text.size<=65536:=λx hx=>by rw[aat] at hx;subst hx;exact b2
 obtain⟨d1,dd1⟩:=RR u1 (k:=200) (aai _);obtain⟨d2,dd2⟩:=RR u2 (k:=200) (aai _);have g1:=Jd u1 (k:=200) (aai _);have g2:=Jd u2 (k:=200) (aai _);have l1:s1.len=1:=G1.len;have l2:s2.len=1:=G2.len;unfold p7;refine z.new λx0 h1 z _=>z.new λx1 h2 z _=>?_;refine z.jV 1 (ls:=[.sl,li]) (x:=(s1,0)) ?_;rw[ag];refine (qo z G1 (Mr t1) T1 (by omega) g1).mono λy h3 hy=>?_;obtain⟨rfl,z⟩:=hy;rw[By (by simp)];refine z.jV 0 (ls:=[.sl,li]) (x:=(s2,0)) ?_;rw[ag];refine (qo z G2 (Mr t2) T2 (by omega) g2).mono λy h3 hy=>?_;obtain⟨rfl,z⟩:=hy;rw[By (by simp)];refine z.jV 1 (ls:=[.sl,li]) (x:=(s1,0)) ?_;rw[ag];refine (Dr z G1 (Mr t1) T1 (by omega) g1 dd1).mono λy h3 hy=>?_;obtain⟨rfl,z⟩:=hy;rw[By (by simp)];refine z.jV 0 (ls:=[.sl,li]) (x:=(s2,0)) ?_;rw[ag];refine (Dr z G2 (Mr t2) T2 (by omega) g2 dd2).mono λy h3 hy=>?_;obtain⟨rfl,z⟩:=hy;rw[By (by simp)];unfold pL;refine z.dT [8] (by decide) (by decide) λnb h4 z=>?_;refine z.jV 2 (ls:=[.sl,li]) (x:=(s1,0)) ?_;refine z.ld 2 (o:=1) (l:=li) (x:=0) ?_;refine z.jV 1 (ls:=[.sl,li]) (x:=(s2,0)) ?_;refine z.ld 1 (o:=1) (l:=li) (x:=0) ?_;refine z.WZ 0 λh5 z=>?_;have uP:∀{c:List θ} {P:θ->af->Prop},(∀a,some a∈c->a.block=x0\/a.block=x1)->(∀r h',P r h'->∃X,Z h0 h' X/\.aD x0 [aS s1,vi 0] aj∈X/\.aD x1 [aS s2,vi 0] aj∈X)->(∃X,Z h0 h5 X/\.aD x0 [aS s1,vi 0] aj∈X/\.aD x1 [aS s2,vi 0] aj∈X)->True:=λ_ _ _=>trivial;have hch:∀{c:List θ} {P:θ->af->Prop} {h5:af} {X:List dh},Z h0 h5 X->.aD x0 [aS s1,vi 0] aj∈X->.aD x1 [aS s2,vi 0] aj∈X->(∀a,some a∈c->a.block=x0\/a.block=x1) ->
   (∀r h',P r h'->∃X',Z h0 h' X'/\.aD x0 [aS s1,vi 0] aj∈X'/\.aD x1 [aS s2,vi 0] aj∈X')->∀a,some a∈c->∃cs e,LB h5 a.block cs e/\∀r h',P r h'->LB h' a.block cs e:=by
  intro c P h5 X z m0 m1 hc hP a ha;rcases hc a ha with e|e
  .refine⟨_,_,by rw[e];exact (z.own _ m0).1,λr h' hp=>?_⟩;obtain⟨X',z',q0,q1⟩:=hP r h' hp;rw[e];exact (z'.own _ q0).1
  .refine⟨_,_,by rw[e];exact (z.own _ m1).1,λr h' hp=>?_⟩;obtain⟨X',z',q0,q1⟩:=hP r h' hp;rw[e];exact (z'.own _ q1).1
 have hof1:=of_wp (s:=s1) (root:=0) z (by rw[l1];decide) (n:=n);refine wO (hch z (by simp) (by simp) (by intro a ha;simp at ha;rcases ha with rfl|rfl|rfl<;>simp[Addr.plus]) λr h' hp=>?_) hof1 λr h6 hr=>?_
 .obtain⟨x5,b4,_,z'⟩:=hp;exact⟨_,z',by simp,by simp⟩
 obtain⟨x5,b4,rfl,z⟩:=hr;have hof2:=of_wp (s:=s2) (root:=0) z (by rw[l2];decide) (n:=n);refine wO (hch z (by simp) (by simp) (by intro a ha;simp at ha;rcases ha with rfl|rfl<;>simp[Addr.plus]) λr h' hp=>?_) hof2 λr h7 hr=>?_
 .obtain⟨x6,b6,_,z'⟩:=hp;exact⟨_,z',by simp,by simp⟩
 obtain⟨x6,b6,rfl,z⟩:=hr;rw[ag];refine (G7 (i:=2) (j:=0) (q:=4) z rfl rfl rfl G1 G2 hne (by omega)).mono λy h8 hy=>?_;obtain⟨rfl,f',n',z⟩:=hy;rw[ah];exact⟨rfl,z.drop.drop.drop.drop.drop.drop.drop⟩
def xY (t:ζ):δ:=[vi 5,.string t,.bool false,aZ,aZ]
theorem Jf {b c:Nat}{t:ζ}{e:κ}(l:LB h b (xY t) e):mE h ⟨some ⟨b,0,none⟩,1,c⟩ [LN t]:=
 ⟨[⟨5,t,false,jb,[],0,jb,[],0⟩],b+1,rfl,LB.DE (cs:=xY t) l rfl,λx hx=>by
  rw[aat] at hx;subst hx;exact⟨⟨0,Bb.nil rfl⟩,⟨0,Bb.nil rfl⟩⟩⟩
theorem RV {s:Sl}{root:Int}{N:List aq}(z:Z h0 h L)(G:mE h0 s N){a:Int}{t:ζ}(hx:gt N a=some (LN t)){n:Nat}(hn:2<=n) :
  Wp (xe n (s,root) a) h λr h'=>∃b,r=(⟨some ⟨b,0,none⟩,1,0⟩,0)/\Z h0 h' (.aD b (xY t) aH::L):=by
 obtain⟨n,rfl⟩:∃m,n=m+2:=⟨n-2,by omega⟩;obtain⟨g1,g2⟩:=bH hx;unfold xe;refine z.new λx0 h1 z _=>z.new λx1 h2 z _=>z.new λx2 h3 z _=>z.new λx3 h4 z _=>z.st 0 λh5 z=>?_;refine z.ld 0 (o:=0) (l:=.raw) ?_;unfold vd;rw[ag,BY (by rfl),ag];refine lG (c:=(aw x2,aw x0,aw x3)) rfl ?_;rw[Ak];unfold tQ;refine z.ld 1 (o:=0) (l:=.sl) (x:=jb) ?_;refine z.ld 3 (o:=0) (l:=.sl) (x:=s) ?_;refine G.at z g1 g2 λaa ks is nd ik ii=>nd.jV ?_;refine z.node (x:=LN t) (ks:=ks) (is:=is) λx4 h6 z=>?_;refine z.ld 2 (o:=0) (l:=.sl) (x:=jb) ?_;refine z.ld 0 (o:=0) (l:=li) (x:=5) ?_;refine z.ld 0 (o:=1) (l:=.str) (x:=t) ?_;refine z.ld 0 (o:=2) (l:=.bool) (x:=false) ?_;refine z.ZJ (by decide) rfl (by decide) λb h7 z=>?_;refine z.st 3 (o:=0) (cs':=[aS ⟨some ⟨b,0,none⟩,1,0⟩,vi 0]) λh8 z=>?_;refine z.ld 1 (o:=3) (l:=.sl) (x:=ks) ?_;have hkl:ks.len=0:=ik.len;have hil:is.len=0:=ii.len;have hL0:∀{h:af},Wp (iW (n+1) (aw x2) (aw x3) ((0:Nat):Int) (aw x4) jb jb ks ((0:Nat):Int) 0) h λr h'=>r=jb/\h'=h:=by
  intro h;rw[xB];unfold pI;rw[By (by decide),ah];exact⟨rfl,rfl⟩
 have hL1:∀{h:af},Wp (iV (n+1) (aw x2) (aw x3) ((0:Nat):Int) jb jb is ((0:Nat):Int) 0) h λr h'=>r=jb/\h'=h:=by
  intro h;rw[xA];unfold pH;rw[By (by decide),ah];exact⟨rfl,rfl⟩
 rw[hkl,ag];refine hL0.mono λy h9 hy=>?_;obtain⟨rfl,rfl⟩:=hy;refine z.ld 1 (o:=4) (l:=.sl) (x:=is) ?_;rw[hil,ag];refine hL1.mono λy h10 hy=>?_;obtain⟨rfl,rfl⟩:=hy;refine z.ld 3 (o:=0) (l:=.sl) (x:=⟨some ⟨b,0,none⟩,1,0⟩) ?_;refine Tq (by decide) (by decide) ?_;refine z.ld 3 (o:=0) (l:=.sl) (x:=⟨some ⟨b,0,none⟩,1,0⟩) ?_;refine z.XT 0 (b:=b) (o:=0*5+3) (cs:=xY t) (cs':=xY t) (λa ha=>?_) (λh9 z=>?_) (ho:=by show 0*5+3+1<=5;decide)
 .simp only[aat,IN] at ha;subst ha;exact z.VX 0 3 rfl rfl (by omega)
 refine Tq (by decide) (by decide) ?_;refine z.st 0 (o:=0*5+4) (cs:=xY t) (cs':=xY t) (λh10 z=>?_) (ho:=by show 0*5+4+1<=5;decide);rw[ah];have hx2:=z;refine z.jV 3 (ls:=[.sl,li]) (x:=(⟨some ⟨b,0,none⟩,1,0⟩,0)) ?_;have z:=Z.lA (pre:=[_,_,_,_,_]) z [4,0,1,2,3] (by simp only[aae,aam];decide);refine z.st 0 (o:=0) (cs':=[aS ⟨some ⟨b,0,none⟩,1,0⟩,vi 0]) λh11 z=>?_;refine z.jV 0 (ls:=[.sl,li]) (x:=(⟨some ⟨b,0,none⟩,1,0⟩,0)) ?_;rw[ah];refine⟨b,rfl,z.sub ?_⟩;exact List.Sublist.cons _ (List.Sublist.cons₂ _ (List.Sublist.cons _ (List.Sublist.cons _ (List.Sublist.cons _ (aa2 _ _)))))
end Go.Sh
namespace Go.Sh
open Go Go.Ago Go.Proofs
variable {α β:Type}{h h' h0:af}{L:List dh}{Q:β->af->Prop}
def iota (m:Nat):ε:=(List.range m).map (λi:Nat=>(i:Int))
theorem mW (m:Nat):(iota m).length=m:=by simp[iota]
theorem Ds {m i:Nat}(hi:i<m):(iota m)[i]?=some (i:Int):=by simp[iota,hi]
theorem uA {m:Nat}{x:Int}(hx:x∈iota m):0<=x/\x<(m:Int):=by
 obtain⟨i,hi,rfl⟩:=List.mem_map.1 hx;rw[List.mem_range] at hi;omega
theorem KI (m:Nat):(iota m).Nodup:=by
 unfold iota;exact List.pairwise_map.2 (List.nodup_range.imp λ{a b} hne he=>hne (by omega))
theorem wT {lt:Int->Int->Option Bool}:∀(n:Nat) (a b:ε),n=a.length+b.length->(∀x∈b,∀y∈a,(lt x y).isSome=true)->∃r,Bu lt n a b=some r/\r.Perm (a++b)
 |0,a,b,hn,_=>by
  have ha:a=[]:=aap (by omega);have hb:b=[]:=aap (by omega);subst ha;subst hb;exact⟨[],rfl,ab4 _⟩
 |n+1,[],[],hn,_=>by simp at hn
 |n+1,l::ls,[],hn,hl=>by
  obtain⟨r,h1,h2⟩:=wT n ls [] (by simp at hn⊢;omega) (λx hx=>by cases hx);exact⟨l::r,by rw[Bu,h1];rfl,h2.cons l⟩
 |n+1,[],r::rs,hn,hl=>by
  obtain⟨q,h1,h2⟩:=wT n [] rs (by simp at hn⊢;omega) (λx hx y hy=>by cases hy);exact⟨r::q,by rw[Bu,h1];rfl,h2.cons r⟩
 |n+1,l::ls,r::rs,hn,hl=>by
  rw[Bu];cases hq:lt r l with
  |none=>have:=hl r (by simp) l (by simp);rw[hq] at this;cases this
  |some b=>
   cases b with
   |true=>
    obtain⟨q,h1,h2⟩:=wT n (l::ls) rs (by simp at hn⊢;omega) (λx hx y hy=>hl x (by simp[hx]) y hy);exact⟨r::q,by rw[h1];rfl,(h2.cons r).trans List.perm_middle.symm⟩
   |false=>
    obtain⟨q,h1,h2⟩:=wT n ls (r::rs) (by simp at hn⊢;omega) (λx hx y hy=>hl x hx y (by simp[hy]));exact⟨l::q,by rw[h1];rfl,h2.cons l⟩
theorem Dt {lt:Int->Int->Option Bool}:∀(k:Nat) (xs:ε),xs.length<k->(∀x∈xs,∀y∈xs,x≠y->(lt x y).isSome=true)->xs.Nodup->∃r,Sx lt k xs=some r/\r.Perm xs
 |0,xs,hk,_,_=>by omega
 |k+1,xs,hk,hl,hn=>by
  rw[Sx];by_cases c:xs.length<2
  .rw[BY c];exact⟨xs,rfl,ab4 _⟩
  rw[By c];have hsub1:List.Sublist (xs.take (xs.length/2)) xs:=List.take_sublist _ _;have hsub2:List.Sublist (xs.drop (xs.length/2)) xs:=List.drop_sublist _ _;obtain⟨a,a1,a2⟩:=Dt k (xs.take (xs.length/2)) (by rw[aaI];omega) (λx hx y hy=>hl x (hsub1.subset hx) y (hsub1.subset hy)) (hn.sublist hsub1);obtain⟨b,b1,b2⟩:=Dt k (xs.drop (xs.length/2)) (by rw[aaZ];omega) (λx hx y hy=>hl x (hsub2.subset hx) y (hsub2.subset hy)) (hn.sublist hsub2);rw[a1,b1];simp only;have hd:(xs.take (xs.length/2)++xs.drop (xs.length/2)).Nodup:=by rw[abd];exact hn
  obtain⟨r,r1,r2⟩:=wT (lt:=lt) xs.length a b (by rw[a2.length_eq,b2.length_eq,aaI,aaZ];omega) (λx hx y hy=>by
   have hx':=b2.mem_iff.1 hx;have hy':=a2.mem_iff.1 hy;refine hl x (hsub2.subset hx') y (hsub1.subset hy') λe=>?_;subst e;exact (List.nodup_append.1 hd).2.2 x hy' x hx' rfl)
  refine⟨r,r1,r2.trans ((a2.append b2).trans ?_)⟩;rw[abd]
structure TK (N:List aq) (x:aq) (ts:List ζ):Prop where
 len:x.keys.length=ts.length
 TV:x.items.length=ts.length
 get:∀(i:Nat) t,ts[i]?=some t->∃k,x.keys[i]?=some k/\gt N k=some (LN t)
 ok:∀t∈ts,u8 t=true/\t.size<=65536
 ne:∀(i j:Nat) s t,ts[i]?=some s->ts[j]?=some t->i≠j->s≠t
def Yj (ts:List ζ)(x y:Int):Option Bool:=match gt ts x,gt ts y with
 |some s,some t=>if pj s t then none else some (decide (Lib.compareBytes s.data.toList t.data.toList<0))
 |_,_=>none
structure KY where
 b:Nat
 t:ζ
def KY.s (k:KY):Sl:=⟨some ⟨k.b,0,none⟩,1,0⟩
def KY.own (k:KY):dh:=.aD k.b (xY k.t) aH
def gc:Option KY->δ
 |none=>[aZ,vi 0]
 |some k=>[aS k.s,vi 0]
theorem Du (x:Option KY):(gc x).length=2:=by cases x<;>rfl
section
variable {s:Sl}{root:Int}{N:List aq}{ts:List ζ}
theorem TR {K:List KY}(hK:K.map KY.t=ts)(hok:∀t∈ts,u8 t=true/\t.size<=65536){c9 bk m:Nat}(hm:m=K.length){M:List dh}(m1:.aD c9 [aS (arr bk m)] gC∈M)(m2:.aD bk ((K.map some).flatMap gc) aj∈M)(m3:∀k∈K,KY.own k∈M)
  {n:Nat} {P:List dh} {x y:Int} {r:Bool} (hn:66001<=n) (hl:Yj ts x y=some r) (z:Z h0 h (P++M)) :
  Wp (lj n (Value.func (Fn.func lZ) #[] #[pv c9]) x y) h λb h'=>b=r/\Z h0 h' (P++M):=by
 unfold Yj at hl;cases hx:gt ts x with
 |none=>rw[hx] at hl;cases hl
 |some s'=>
 cases hy:gt ts y with
 |none=>rw[hx,hy] at hl;cases hl
 |some t=>
 rw[hx,hy] at hl;simp only at hl;split at hl
 .cases hl
 rename_i hne;cases hl;have get:∀{i:Int} {q:ζ},gt ts i=some q->∃k,0<=i/\i<(m:Int)/\K[i.toNat]?=some k/\k.t=q:=by
  intro i q hq;obtain⟨g1,g2⟩:=bH hq;rw[<-hK,aaj] at g2;cases hk:K[i.toNat]? with
  |none=>rw[hk] at g2;cases g2
  |some k=>
   rw[hk] at g2;have:=aY hk;exact⟨k,g1,by omega,rfl,aao g2⟩
 obtain⟨k1,a1,a2,a3,rfl⟩:=get hx;obtain⟨k2,b1,b2,b3,rfl⟩:=get hy;have l9:LB h c9 _ _:=(z.own _ (aaE _ m1)).1;have lk:LB h bk _ _:=(z.own _ (aaE _ m2)).1;have rk:Bb h (arr bk m) 2 ((K.map some).flatMap gc) (bk+1):=LB.DE lk (by rw[fP Du,aaQ,hm]);unfold lj oE;rw[BY (by rfl),ag];refine lG (c:=aw c9) rfl ?_;unfold oD;refine (LB.cl l9).uI (l:=.sl) (x:=arr bk m) rfl rfl ?_;refine rk.Xj Du a1 a2 (v:=some k1) (by rw[aaj,a3];rfl) λp c1=>c1.jV (ls:=[.sl,li]) (x:=(k1.s,0)) rfl ?_;refine (LB.cl l9).uI (l:=.sl) (x:=arr bk m) rfl rfl ?_;refine rk.Xj Du b1 b2 (v:=some k2) (by rw[aaj,b3];rfl) λp c2=>c2.jV (ls:=[.sl,li]) (x:=(k2.s,0)) rfl ?_;have o1:LB h k1.b _ _:=(z.own _ (aaE _ (m3 k1 (OF a3)))).1;have o2:LB h k2.b _ _:=(z.own _ (aaE _ (m3 k2 (OF b3)))).1;have t1:=hok k1.t (OF (bH hx).2);have t2:=hok k2.t (OF (bH hy).2);have w:Z h h []:=Z.start z.wf;rw[ag];refine (G8 w (Jf (c:=0) o1) (Jf (c:=0) o2) t1.1 t2.1 t1.2 t2.2 (λe=>hne (by rw[e];exact vr _)) (by omega)).mono λy h3 hy=>?_;obtain⟨rfl,w⟩:=hy;rw[ah];exact⟨rfl,z.pure w.fr⟩
theorem OT {m b:Nat}(hm:m<1073741824)(a0 a1:Addr) :
  ∀(n i:Nat) (h:af) (L:List dh),m-i<n->i<=m->Z h0 h (.aD b (((iota m).take i++List.replicate (m-i) 0).map vi) ay::L) ->
   Wp (ju n a0 a1 (arr b m) (m:Int) (i:Int)) h λ_ h'=>Z h0 h' (.aD b ((iota m).map vi) ay::L):=by
 intro n
 induction n with
 |zero=>intro i h L h1;omega
 |succ n ih=>
  intro i h L h1 h2 z;rw[wI];unfold oG;have hl:=mW m;by_cases hi:i<m
  .rw[BY (by simp;omega)];refine yL (b:=b) (m:=m) (by omega) (by omega) ?_;rw[aac];refine z.zX 0 (xs:=(iota m).take i++List.replicate (m-i) 0) (enc:=vi) (v:=(i:Int)) (by rw[aaa,aaI,aax];omega) (λh3 z=>?_);have hf:=fill (Ds hi);rw[hl] at hf;rw[hf] at z;rw[vV h2 (by omega)];exact ih (i+1) h3 L (by omega) (by omega) z
  .rw[By (by simp;omega),ah];have:i=m:=by omega
   subst this;have e:(iota i).take i=iota i:=aba (by omega);rw[e] at z;simpa using z
theorem OU (G:mE h0 s N){x:aq}(hx:TK N x ts){ks:Sl}(ik:IL h0 ks x.keys)(hB:ts.length<1073741824){c9 bk x0:Nat}(a1:Sl) :
  ∀(n i:Nat) (h:af) (K:List KY) (L:List dh),ts.length-i+2<n->i<=ts.length->K.map KY.t=ts.take i->Z h0 h (.aD c9 [aS (arr bk ts.length)] gC::.aD bk ((K.map some++List.replicate (ts.length-i) none).flatMap gc) aj::.aD x0 [aS s,vi root] aj::(K.map KY.own++L)) ->
   Wp (jr n (aw x0) a1 (aw c9) ks (ks.len:Int) (i:Int)) h λ_ h'=>∃K:List KY,K.map KY.t=ts/\Z h0 h' (.aD c9 [aS (arr bk ts.length)] gC::.aD bk ((K.map some).flatMap gc) aj::.aD x0 [aS s,vi root] aj::(K.map KY.own++L)):=by
 intro n
 induction n with
 |zero=>intro i h K L h1;omega
 |succ n ih=>
  intro i h K L h1 h2 hK z;rw[wH];unfold oF;have hkl:ks.len=ts.length:=by rw[ik.len,hx.len]
  have hKl:K.length=i:=by
   have:=aaL List.length hK;rw[aaQ,aaI] at this;omega
  rw[hkl];by_cases hi:i<ts.length
  .rw[BY (by simp;omega)];obtain⟨t,ht⟩:=gU hi;obtain⟨k,k1,k2⟩:=hx.get i t ht;refine (ik.fr z.fr).ix (by omega) (by simpa using k1) λa g cl=>cl.uI (l:=li) rfl rfl ?_;refine z.ld 0 (o:=0) (l:=.sl) (x:=arr bk ts.length) ?_;refine z.jV 2 (ls:=[.sl,li]) (x:=(s,root)) ?_;refine wO (P:=λr h'=>∃b,r=(⟨some ⟨b,0,none⟩,1,0⟩,0)/\Z h0 h' (.aD b (xY t) aH::.aD c9 [aS (arr bk ts.length)] gC::.aD bk ((K.map some++List.replicate (ts.length-i) none).flatMap gc) aj::.aD x0 [aS s,vi root] aj::(K.map KY.own++L))) ?_ (RV z G k2 (by omega)) λr h3 hr=>?_
   .intro a' ha';simp only[abz,IN,abw,ab9] at ha';subst ha';refine⟨_,_,z.get 0 rfl,λr1 h3 hr1=>?_⟩;obtain⟨b,_,z⟩:=hr1;exact z.get 1 rfl
   obtain⟨b,rfl,z⟩:=hr;refine Tq (by omega) (by omega) ?_;have hg:(K.map some++List.replicate (ts.length-i) none)[i]?=some none:=by
    rw[aaH (by simp;omega),aaQ,hKl,abI,abK,BY (by omega)]
   have hset:(K.map some++List.replicate (ts.length-i) none).set i (some (⟨b,t⟩:KY))=(K++[(⟨b,t⟩:KY)]).map some++List.replicate (ts.length-(i+1)) none:=by
    have e:ts.length-i=(ts.length-(i+1))+1:=(by omega);rw[acb _ _ (by simp;omega),aaQ,hKl,abI,e,abv,abp,aa6];simp
   have hsp:=sT Du hg (x':=some (⟨b,t⟩:KY)) (o:=0) (vs:=[aS ⟨some ⟨b,0,none⟩,1,0⟩,vi 0]) (by simp) rfl;rw[hset,aaG] at hsp;rw[aac];refine z.st 2 (λh4 z=>?_) rfl hsp (by rw[fP Du,aaa,aaQ,aax];simp;omega) rfl;rw[vV h2 (by omega)];have:=ih (i+1) h4 (K++[(⟨b,t⟩:KY)]) L (by omega) (by omega) (by rw[aa6,hK,acz,ht];rfl) (z.perm ?_)
   .rwa [hkl] at this
   .rw[aa6 (f:=KY.own),aas];have e:(.aD b (xY t) aH:dh)=KY.own ⟨b,t⟩:=rfl;rw[e];refine (List.Perm.swap _ _ _).trans (List.Perm.cons _ ((List.Perm.swap _ _ _).trans (List.Perm.cons _ ((List.Perm.swap _ _ _).trans (List.Perm.cons _ ?_)))));exact List.perm_middle.symm
  .rw[By (by simp;omega),ah];have e1:ts.take i=ts:=aba (by omega);have e2:ts.length-i=0:=by omega
   rw[e1] at hK;rw[e2,List.replicate_zero,aaF] at z;exact⟨K,hK,z⟩
theorem EN (z:Z h0 h L)(G:mE h0 s N){B:Nat}(hB:Bd N B){a:Int}{x:aq}(hx:gt N a=some x)(hk:x.kind=10->x.ord=false->∃ts,TK N x ts){n:Nat}(hn:3*B+66010<n) :
  Wp (oH n (s,root) a) h λy h'=>∃(b:Nat) (r:ε),y=arr b x.items.length/\r.Perm (iota x.items.length)/\Z h0 h' (.aD b (r.map vi) ay::L):=by
 obtain⟨g1,g2⟩:=bH hx;have hbd:=hB.2.2 x (OF g2);have hB2:=hB.2.1;unfold oH;refine z.new λx0 h1 z _=>?_;refine z.ld 0 (o:=0) (l:=.sl) (x:=s) ?_;refine G.at z g1 g2 λaa ks is nd ik ii=>nd.jV ?_;refine z.node λx4 h2 z=>?_;refine z.ld 0 (o:=4) (l:=.sl) (x:=is) ?_;rw[ii.len];refine z.DV (by omega) (by unfold cN;omega) λb h3 z _=>?_;rw[aac] at z⊢;rw[l6 (enc:=vi)] at z;rw[ag];refine (OT (m:=x.items.length) (by omega) (aw x0) (aw x4) n 0 h3 _ (by omega) (by omega) z).mono λ_ h4 z=>?_;refine z.ld 1 (o:=0) (l:=li) (x:=x.kind) ?_;have fin:∀{h4:af},Z h0 h4 (.aD b ((iota x.items.length).map vi) ay::.aD x4 [vi x.kind,.string x.text,.bool x.ord,aS ks,aS is] aH::.aD x0 [aS s,vi root] aj::L)->Wp (AS (arr b x.items.length)) h4 λy h'=>∃(b:Nat) (r:ε),y=arr b x.items.length/\r.Perm (iota x.items.length)/\Z h0 h' (.aD b (r.map vi) ay::L):=λz=>by
  rw[ah];exact⟨b,_,rfl,ab4 _,z.sub (List.Sublist.cons₂ _ (List.Sublist.cons _ (aa2 _ _)))⟩
 by_cases k1:x.kind=10
 .rw[By (by simpa using k1)];refine z.ld 1 (o:=2) (l:=.bool) (x:=x.ord) ?_;cases ho:x.ord with
  |true=>rw[BY rfl];exact fin z
  |false=>
  rw[By (by simp)];obtain⟨ts,tk⟩:=hk k1 ho;have hkl:ks.len=ts.length:=by rw[ik.len,tk.len]
  have hil:=tk.TV;unfold qD;refine z.ld 1 (o:=3) (l:=.sl) (x:=ks) ?_;rw[hkl];refine z.DV (by omega) (by unfold cN;omega) λbk h5 z _=>?_;rw[aac] at z⊢;refine z.new λc9 h6 z _=>z.st 0 λh7 z=>?_;refine z.ld 3 (o:=3) (l:=.sl) (x:=ks) ?_;have z:Z h0 h7 (.aD c9 [aS (arr bk ts.length)] gC::.aD bk (List.replicate ts.length [aZ,vi 0]).flatten aj::.aD x0 [aS s,vi root] aj::.aD b ((iota x.items.length).map vi) ay::.aD x4 [vi x.kind,.string x.text,.bool x.ord,aS ks,aS is] aH::L):=Z.lA (pre:=[_,_,_,_,_]) z [0,1,4,2,3] (by simp only[aae,aam];decide);have erep:(List.replicate ts.length [aZ,vi 0]).flatten=(([]:List KY).map some++List.replicate (ts.length-0) none).flatMap gc:=by
   rw[List.map_nil,aaP,acC,List.flatMap,abN];rfl
  rw[erep] at z;rw[ag];refine (OU (root:=root) G tk ik (by omega) (arr b x.items.length) n 0 h7 [] _ (by omega) (by omega) (by simp) z).mono λ_ h8 hy=>?_;obtain⟨K,hK,z⟩:=hy;have hKl:ts.length=K.length:=by rw[<-hK,aaQ]
  obtain⟨r,r1,r2⟩:=Dt (lt:=Yj ts) (x.items.length+1) (iota x.items.length) (by rw[mW];omega) (λp hp q hq hne=>by
   obtain⟨p1,p2⟩:=uA hp;obtain⟨q1,q2⟩:=uA hq;obtain⟨t1,e1⟩:=gU (l:=ts) (i:=p.toNat) (by omega);obtain⟨t2,e2⟩:=gU (l:=ts) (i:=q.toNat) (by omega);have f1:gt ts p=some t1:=by unfold gt;rw[BY p1];exact e1
   have f2:gt ts q=some t2:=by unfold gt;rw[BY q1];exact e2
   unfold Yj;rw[f1,f2];simp only;rw[RT (tk.ne _ _ _ _ e1 e2 (by omega))];rfl) (KI _)
  have z:=z.perm (L':=.aD b ((iota x.items.length).map vi) ay::([]++(.aD c9 [aS (arr bk ts.length)] gC::.aD bk ((K.map some).flatMap gc) aj::.aD x0 [aS s,vi root] aj::(K.map KY.own++.aD x4 [vi x.kind,.string x.text,.bool x.ord,aS ks,aS is] aH::L)))) (by
   simp only[aaP];have:List.Perm (K.map KY.own++.aD b ((iota x.items.length).map vi) ay::.aD x4 [vi x.kind,.string x.text,.bool x.ord,aS ks,aS is] aH::L) (.aD b ((iota x.items.length).map vi) ay::(K.map KY.own++.aD x4 [vi x.kind,.string x.text,.bool x.ord,aS ks,aS is] aH::L)):=aca;refine (List.Perm.cons _ (List.Perm.cons _ (List.Perm.cons _ (this)))).trans ?_;exact (List.Perm.cons _ ((List.Perm.cons _ (List.Perm.swap _ _ _)).trans (List.Perm.swap _ _ _))).trans (List.Perm.swap _ _ _))
  rw[ag];have hmg:=RP (h0:=h0) (lt:=Yj ts) (f:=Value.func (Fn.func lZ) #[] #[pv c9]) (K:=66001)
   (L:=.aD c9 [aS (arr bk ts.length)] gC::.aD bk ((K.map some).flatMap gc) aj::.aD x0 [aS s,vi root] aj::(K.map KY.own++.aD x4 [vi x.kind,.string x.text,.bool x.ord,aS ks,aS is] aH::L))
   (λ{n h P p q r} hn hl z=>TR hK tk.ok hKl (aaz ..) (aan _ (aaz ..)) (λk hk=>by
    refine aan _ (aan _ (aan _ (aaT _ (List.mem_map.2 ⟨k,hk,rfl⟩))))) hn hl z)
   (x.items.length+1) n (iota x.items.length) r b (x.items.length+1) h8 [] (by rw[mW];omega) (by rw[mW];omega) r1 z
  rw[mW] at hmg;refine hmg.mono λ_ h9 z=>?_;rw[ah];refine⟨b,r,rfl,r2,z.sub (List.Sublist.cons₂ _ ?_)⟩;exact List.Sublist.cons _ (List.Sublist.cons _ (List.Sublist.cons _ ((List.sublist_append_of_sublist_right (aa2 _ _)))))
 .rw[BY (by simpa using k1)];exact fin z
end
end Go.Sh
namespace Go.Sh
open Go Go.Ago Go.Proofs
variable {α β:Type}{h h' h0:af}{L:List dh}{Q:β->af->Prop}
section
variable {s:Sl}{root:Int}{N:List aq}
structure OC where
 x7:Nat
 bm:Nat
 x9:Nat
 x0:Nat
 x3:Nat
 be:Nat
 eU:Nat
def OC.fn (c:OC):ξ:=Value.func (Fn.func nh) #[] #[pv c.x7,pv c.x9,pv c.x0,pv c.x3,pv c.eU]
def OC.own (c:OC)(N:List aq)(s:Sl)(root:Int)(ms:List Bool)(os:ε)(es:List Sl)(so:Sl)(g:Nat):List dh:=
 [.aD c.x7 [aS (arr c.bm N.length)] rI,.aD c.bm (ms.map .bool) yp,.aD c.x9 [aS so] cw,.sl so 1 ay (os.map vi) g,.aD c.x0 [aS s,vi root] aj,.aD c.x3 [aS (arr c.be N.length)] A2,.aD c.be (es.map aS) cw,.aD c.eU [c.fn] pC]
structure OI (N:List aq) (c:Nat) (ms:List Bool) (os:ε) (es:List Sl) (so:Sl):Prop where
 l1:ms.length=N.length
 l2:es.length=N.length
 l3:so.len=os.length
 Sy:∀x∈os,0<=x/\x<(N.length:Int)
 Ss:os.length+ms.count false<=N.length
 c:ms.count false<=c
def Vs (C:OC)(N:List aq)(s:Sl)(root:Int)(c:Nat)(h0:af)(L:List dh)(h':af):Prop:=
 ∃ms os es so g,OI N c ms os es so/\Z h0 h' (C.own N s root ms os es so g++L)
theorem OI.mono {c c':Nat}{ms:List Bool}{os:ε}{es:List Sl}{so:Sl}(I:OI N c ms os es so)(hc:c<=c'):OI N c' ms os es so:=⟨I.l1,I.l2,I.l3,I.Sy,I.Ss,aaX I.c hc⟩
theorem count_set {ms:List Bool}{i:Nat}(h:ms[i]?=some false):(ms.set i true).count false+1=ms.count false:=by
 induction ms generalizing i with
 |nil=>cases h
 |cons b ms ih=>
  cases i with
  |zero=>cases h;rw[abp];simp
  |succ i=>
   rw[aaO] at h;rw[abo,aa7,aa7,<-ih h];omega
theorem G9 (z:Z h0 h L)(G:mE h0 s N){x0 i:Nat}(hi:L[i]?=some (.aD x0 [aS s,vi root] aj)){a p q:Int}{x:aq}(hx:gt N a=some x)(hp:gt x.items p=some q){f:Int->M β}(hq:Wp (f q) h Q) :
  Wp (AI (ar .sl ((aw x0).plus 0)) λ(y:Sl)=>AI (ao y a 5) λb=>AI (ar .sl (b.plus 4)) λ(y:Sl)=>AI (ao y p 1) λb=>AI (ar li b) f) h Q:=by
 obtain⟨g1,g2⟩:=bH hx;obtain⟨p1,p2⟩:=bH hp;refine z.ld i (o:=0) (l:=.sl) (x:=s) ?_ hi;refine G.at z g1 g2 λaa ks is nd ik ii=>nd.Tt ?_;exact (ii.fr z.fr).ix p1 p2 λa1 g c=>c.uI (l:=li) rfl rfl hq
def PO (C:OC)(N:List aq)(s:Sl)(root:Int)(B c:Nat)(h0:af):Prop:=
 ∀(n:Nat) (a:Int) (ms:List Bool) (os:ε) (es:List Sl) (so:Sl) (g:Nat) (h:af) (L:List dh),c*(B+3)+3*B+66020<=n->gt ms a=some false->OI N c ms os es so->Z h0 h (C.own N s root ms os es so g++L) ->
  Wp (gv n a (aw C.x7) (aw C.x9) (aw C.x0) (aw C.x3) (aw C.eU)) h λ_ h'=>Vs C N s root c h0 L h'
def QO (C:OC)(N:List aq)(s:Sl)(root:Int)(B c:Nat)(h0:af):Prop:=
 ∀(n i:Nat) (a:Int) (x:aq) (b:Nat) (r:ε) (ms:List Bool) (os:ε) (es:List Sl) (so:Sl) (g:Nat) (h:af) (L:List dh),c*(B+3)+3*B+66020+(r.length-i)+1<=n->i<=r.length->r.length<=B->(∀p∈r,0<=p/\p<(x.items.length:Int))->gt N a=some x->OI N c ms os es so ->
  Z h0 h (C.own N s root ms os es so g++.aD b (r.map vi) ay::L) ->
  Wp (ff n a (aw C.x7) (aw C.x0) (aw C.eU) (arr b r.length) (r.length:Int) (i:Int)) h λ_ h'=>Vs C N s root c h0 (.aD b (r.map vi) ay::L) h'
theorem RW (G:mE h0 s N){B:Nat}(hB:Bd N B)(hI:∀x∈N,∀y∈x.items,∃z,gt N y=some z){C:OC}{c:Nat}(hP:PO C N s root B c h0):QO C N s root B c h0:=by
 have hB1:=hB.1;have hB2:=hB.2.1;intro n
 induction n with
 |zero=>intro i a x b r ms os es so g h L h1;omega
 |succ n ih=>
  intro i a x b r ms os es so g h L hn hi hr hp hx I z;rw[vQ];unfold nB;by_cases hlt:i<r.length
  .rw[BY (by simp;omega)];obtain⟨p,hpi⟩:=gU hlt;have hpr:=hp p (OF hpi);obtain⟨q,hq⟩:=gU (l:=x.items) (i:=p.toNat) (by omega);have hgq:gt x.items p=some q:=by unfold gt;rw[BY hpr.1];exact hq
   obtain⟨y,hy⟩:=hI x (OF (bH hx).2) q (OF hq);obtain⟨y1,y2⟩:=bH hy;have y3:=aY y2;obtain⟨mb,hmb⟩:=gU (l:=ms) (i:=q.toNat) (by have:=I.l1;omega);have hgm:gt ms q=some mb:=by unfold gt;rw[BY y1];exact hmb
   refine yL (b:=b) (m:=r.length) (by omega) (by omega) ?_;refine z.ld 8 (o:=(i:Int).toNat) (l:=li) (x:=p) ?_ rfl (by rw[aac,aaj,hpi];rfl) rfl;refine z.ld 0 (o:=0) (l:=.sl) (x:=arr C.bm N.length) ?_;refine G9 z G (i:=4) rfl hx hgq ?_;refine yL (b:=C.bm) (m:=N.length) y1 (by omega) ?_;refine z.ld 1 (o:=q.toNat) (l:=.bool) (x:=mb) ?_ rfl (by rw[aaj,hmb];rfl) rfl;rw[vV hi (by omega)];cases mb with
   |true=>
    rw[By (by simp)];exact ih (i+1) a x b r ms os es so g h L (by omega) (by omega) hr hp hx I z
   |false=>
    rw[BY (by rfl)];refine z.ld 7 (o:=0) (l:=.raw) (x:=C.fn) ?_;refine G9 z G (i:=4) rfl hx hgq ?_;unfold mB;rw[BY (by rfl),ag,ag];refine lG (c:=(aw C.x7,aw C.x9,aw C.x0,aw C.x3,aw C.eU)) rfl ?_;refine (hP n q ms os es so g h _ (by omega) hgm I z).mono λ_ h2 hy=>?_;obtain⟨ms',os',es',so',g',I',z⟩:=hy;exact ih (i+1) a x b r ms' os' es' so' g' h2 L (by omega) (by omega) hr hp hx I' z
  .rw[By (by simp;omega),ah];exact⟨ms,os,es,so,g,I,z⟩
theorem OW (G:mE h0 s N){B:Nat}(hB:Bd N B)(hT:∀x∈N,x.kind=10->x.ord=false->∃ts,TK N x ts){C:OC}{c:Nat}(hQ:QO C N s root B c h0):PO C N s root B (c+1) h0:=by
 have hB1:=hB.1;have hB2:=hB.2.1;intro n a ms os es so g h L hn ha I z;obtain⟨a1,a2⟩:=bH ha;have a3:=aY a2;have hl1:=I.l1;have hl2:=I.l2;have hl3:=I.l3;have hc1:=I.Ss;have hc2:=I.c;have hcs:=count_set a2;obtain⟨x,hx⟩:=gU (l:=N) (i:=a.toNat) (by omega);have hgx:gt N a=some x:=by unfold gt;rw[BY a1];exact hx
 have hbd:=hB.2.2 x (OF hx);have hmul:(c+1)*(B+3)=c*(B+3)+(B+3):=acB _ _;obtain⟨n,rfl⟩:∃m,n=m+1:=⟨n-1,by omega⟩;rw[yK];unfold qE;refine z.ld 0 (o:=0) (l:=.sl) (x:=arr C.bm N.length) ?_;refine yL (b:=C.bm) (m:=N.length) a1 (by omega) ?_;refine z.zX 1 (xs:=ms) (enc:=Value.bool) (v:=true) (by omega) λh2 z=>?_;refine z.ld 2 (o:=0) (l:=.sl) (x:=so) ?_;refine z.WX 3 (new:=[vi a]) rfl (by decide) rfl (by unfold cN;omega) λso' h3 g' hs' z _=>?_;refine z.st 2 λh4 z=>?_;refine z.ld 5 (o:=0) (l:=.sl) (x:=arr C.be N.length) ?_;refine z.jV 4 (ls:=[.sl,li]) (x:=(s,root)) ?_;have z:Z h0 h4 (C.own N s root (ms.set a.toNat true) (os++[a]) es so' g'++L):=by rw[OC.own,aa6];exact z
 refine wO (P:=λy h'=>∃(b:Nat) (r:ε),y=arr b x.items.length/\r.Perm (iota x.items.length)/\Z h0 h' (.aD b (r.map vi) ay::(C.own N s root (ms.set a.toNat true) (os++[a]) es so' g'++L))) ?_ (EN z G hB hgx (hT x (OF hx)) (by omega)) λy h5 hy=>?_
 .intro a' ha';simp only[abz,IN,abw,ab9] at ha';subst ha';refine⟨_,_,z.get 5 rfl,λr1 h3 hr1=>?_⟩;obtain⟨b,r,_,_,z⟩:=hr1;exact z.get 6 rfl
 obtain⟨b,r,rfl,hr,z⟩:=hy;have hrl:r.length=x.items.length:=by rw[hr.length_eq,mW]
 refine yL (b:=C.be) (m:=N.length) a1 (by omega) ?_;refine z.zX 7 (xs:=es) (enc:=aS) (v:=arr b x.items.length) (by omega) λh6 z=>?_;refine z.ld 6 (o:=0) (l:=.sl) (x:=arr C.be N.length) ?_;refine yL (b:=C.be) (m:=N.length) a1 (by omega) ?_;refine z.ld 7 (o:=a.toNat) (l:=.sl) (x:=arr b x.items.length) ?_ rfl (by rw[aaj,aaw (by omega)];rfl) rfl;have z:Z h0 h6 (C.own N s root (ms.set a.toNat true) (os++[a]) (es.set a.toNat (arr b x.items.length)) so' g'++.aD b (r.map vi) ay::L):=Z.perm (L:=.aD b (r.map vi) ay::(C.own N s root (ms.set a.toNat true) (os++[a]) (es.set a.toNat (arr b x.items.length)) so' g'++L)) z List.perm_middle.symm;rw[ag,<-hrl];rw[<-hrl] at z;refine (hQ n 0 a x b r _ _ _ so' g' h6 L (by omega) (by omega) (by omega) (λp hp=>uA (hr.mem_iff.1 hp)) hgx ⟨by simp[hl1],by simp[hl2],by rw[hs',hl3];simp,λq hq=>?_,?_,by omega⟩ z).mono λ_ h7 hy=>?_
 .rcases List.mem_append.1 hq with hq|hq
  .exact I.Sy q hq
  .rw[aat] at hq;subst hq;omega
 .rw[aaa,aaD];omega
 .obtain⟨ms',os',es',so2,g2,I',z⟩:=hy;rw[ah];exact⟨ms',os',es',so2,g2,I'.mono (by omega),z.sub (abJ (aa2 _ _) _)⟩
theorem TT (G:mE h0 s N){B:Nat}(hB:Bd N B)(hT:∀x∈N,x.kind=10->x.ord=false->∃ts,TK N x ts)(hI:∀x∈N,∀y∈x.items,∃z,gt N y=some z)(C:OC):∀c,PO C N s root B c h0:=by
 intro c
 induction c with
 |zero=>
  intro n a ms os es so g h L hn ha I z;have:=count_set (bH ha).2;have:=I.c;omega
 |succ c ih=>exact OW G hB hT (RW G hB hI ih)
theorem RX (z:Z h0 h L)(G:mE h0 s N){B:Nat}(hB:Bd N B)(hT:∀x∈N,x.kind=10->x.ord=false->∃ts,TK N x ts)(hI:∀x∈N,∀y∈x.items,∃z,gt N y=some z){r0:aq}(hr:gt N root=some r0){n:Nat}(hn:B*(B+3)+3*B+66020<=n) :
  Wp (sZ n (s,root)) h λy h'=>∃(os:ε) (g:Nat),(∀x∈os,0<=x/\x<(N.length:Int))/\os.length<=N.length/\y.1.len=os.length/\Z h0 h' (.sl y.1 1 ay (os.map vi) g::L):=by
 have hB1:=hB.1;have hB2:=hB.2.1;unfold sZ;refine z.new λx0 h1 z _=>?_;refine z.ld 0 (o:=0) (l:=.sl) ?_;rw[G.len];refine z.DV (by omega) (by unfold cN;omega) λbe h2 z f2=>?_;rw[aac] at z⊢;rw[show (List.replicate N.length [aZ]).flatten=(List.replicate N.length jb).map aS from l6 (enc:=aS) (x:=jb) _] at z;refine z.new λx3 h3 z _=>z.st 0 λh4 z=>?_;refine z.ld 2 (o:=0) (l:=.sl) (x:=s) ?_;rw[G.len];refine z.DV (by omega) (by unfold cN;omega) λbm h5 z f2=>?_;rw[aac] at z⊢;rw[l6 (enc:=Value.bool)] at z;refine z.new λx7 h6 z _=>z.st 0 λh7 z=>?_;refine z.new λx9 h8 z _=>?_;refine z.new λeU h9 z _=>z.st 0 λh10 z=>?_;have C:OC:=⟨x7,bm,x9,x0,x3,be,eU⟩;refine z.ld 0 (o:=0) (l:=.raw) (x:=(⟨x7,bm,x9,x0,x3,be,eU⟩:OC).fn) ?_;refine z.ld 6 (o:=1) (l:=li) (x:=root) ?_;have z:=z.add (Fr.refl z.wf) (o:=.sl ⟨none,0,0⟩ 1 ay [] 0) sF.nil (.inl rfl);have z:Z h0 h10 ((⟨x7,bm,x9,x0,x3,be,eU⟩:OC).own N s root (List.replicate N.length false) [] (List.replicate N.length jb) jb 0++L):=Z.lA (pre:=[_,_,_,_,_,_,_,_]) z [3,4,2,0,7,5,6,1] (by simp only[aae,aam];decide);obtain⟨g1,g2⟩:=bH hr;have g3:=aY g2;rw[ag];unfold qF;rw[BY (by rfl),ag];refine lG (c:=(aw x7,aw x9,aw x0,aw x3,aw eU)) rfl ?_;have hmul:N.length*(B+3)<=B*(B+3):=abg _ hB1;refine (TT G hB hT hI _ N.length n root (List.replicate N.length false) [] (List.replicate N.length jb) jb 0 h10 L (by omega) (by unfold gt;rw[BY g1,abK,BY g3]) ⟨aax,aax,rfl,(λx hx=>by cases hx),by simp,by simp⟩ z).mono λ_ h11 hy=>?_;obtain⟨ms,os,es,so,g,I,z⟩:=hy;refine z.ld 2 (o:=0) (l:=.sl) (x:=so) ?_;refine z.ld 5 (o:=0) (l:=.sl) (x:=arr be N.length) ?_;rw[ah];have:=I.Ss;exact⟨os,g,I.Sy,by omega,I.l3,z.drop.drop.drop.sub (List.Sublist.cons₂ _ (List.Sublist.cons _ (List.Sublist.cons _ (List.Sublist.cons _ (aa2 _ _)))))⟩
end
end Go.Sh
namespace Go.Sh
open Go Go.Ago Go.Proofs
variable {α β:Type}{h h' h0:af}{L:List dh}{Q:β->af->Prop}
section
variable {s:Sl}{root:Int}{N:List aq}
theorem EO:∀(a b c:ε),kR (a++b) c=(kR a c).bind (kR b)
 |[],b,c=>rfl
 |x::a,b,c=>by
  rw[aaq,kR,kR];cases bump c x with
  |none=>rfl
  |some c1=>exact EO a b c1
theorem W1 {b cap:Nat}{e:κ}{sl:Sl}{xs:ε}(il:IL h0 sl xs){B:Nat}(hB:B<1073741824)(hl:xs.length<=B)(a1:Sl)(a2 a3:Int) :
  ∀(n i:Nat) (c r:ε) (h:af) (L:List dh),xs.length-i<n->i<=xs.length->kR (xs.drop i) c=some r->Z h0 h (.aD b (c.map vi) e::L) ->
   Wp (jv n ⟨some ⟨b,0,none⟩,c.length,cap⟩ a1 a2 a3 sl (sl.len:Int) (i:Int)) h λ_ h'=>Z h0 h' (.aD b (r.map vi) e::L):=by
 intro n
 induction n with
 |zero=>intro i c r h L h1;omega
 |succ n ih=>
  intro i c r h L h1 h2 hb z;rw[wJ];unfold oI;rw[il.len];by_cases hi:i<xs.length
  .rw[BY (by simp;omega)];obtain⟨x,hx⟩:=gU hi;rw[drop_cons hx,kR] at hb;cases hb1:bump c x with
   |none=>rw[hb1] at hb;cases hb
   |some c1=>
    rw[hb1] at hb;refine (il.fr z.fr).ix (by omega) (by simpa using hx) λa g cl=>cl.uI (l:=li) rfl rfl ?_;refine zD (i:=0) z rfl hb1 rfl λh2 z=>?_;have:=ih (i+1) c1 r h2 L (by omega) (by omega) hb z;rw[vV (abj hi) (by omega)];rw[il.len,uv hb1] at this;exact this
  .rw[By (by simp;omega),ah];have:xs.drop i=[]:=aah (by omega);rw[this] at hb;cases hb;exact z
theorem W4 (G:mE h0 s N){B:Nat}(hB:Bd N B){b cap:Nat}{e:κ} :
  ∀(n i:Nat) (c r:ε) (h:af) (L:List dh),N.length-i+B+5<n->i<=N.length->kR ((N.drop i).flatMap aq.items) c=some r->Z h0 h (.aD b (c.map vi) e::L) ->
   Wp (jx n ⟨some ⟨b,0,none⟩,c.length,cap⟩ s (s.len:Int) (i:Int)) h λ_ h'=>Z h0 h' (.aD b (r.map vi) e::L):=by
 intro n
 induction n with
 |zero=>intro i c r h L h1;omega
 |succ n ih=>
  intro i c r h L h1 h2 hb z;rw[wK];unfold oJ;rw[G.len];by_cases hi:i<N.length
  .rw[BY (by simp;omega)];obtain⟨x,hx⟩:=gU hi;rw[drop_cons hx,abh,EO] at hb;have hbd:=hB.2.2 x (OF hx);cases hb2:kR x.items c with
   |none=>rw[hb2] at hb;cases hb
   |some c2=>
    rw[hb2] at hb;simp only[aaA] at hb;refine G.at z (by omega) (by simpa using hx) λa ks is nd ik ii=>nd.jV ?_;refine z.node λx2 h2' z=>?_;refine z.ld 0 (o:=4) (l:=.sl) ?_;have z:=z.perm (List.Perm.swap _ _ _);rw[ag];refine (W1 ii hB.2.1 hbd.2 _ _ _ n 0 c c2 _ _ (by omega) (by omega) (by simpa using hb2) z).mono λ_ h4 z=>?_;have z:=(z.perm (List.Perm.swap _ _ _)).drop;have:=ih (i+1) c2 r h4 L (by omega) (by omega) hb z;rw[vV (abj hi) (by have:=hB.1;have:=hB.2.1;omega)];rw[G.len,pR hb2] at this;exact this
  .rw[By (by simp;omega),ah];have:N.drop i=[]:=aah (by omega);rw[this] at hb;cases hb;exact z
def OX (N:List aq)(root:Int):Option ε:=kR (root::N.flatMap aq.items) (List.replicate N.length 0)
theorem KJ (z:Z h0 h L)(G:mE h0 s N){B:Nat}(hB:Bd N B){n:Nat}(hn:2*B+6<n){r:ε}(hr:OX N root=some r) :
  Wp (rm n (s,root)) h λx h'=>∃b:Nat,x=arr b N.length/\r.length=N.length/\Z h0 h' (.aD b (r.map vi) ay::L):=by
 unfold rm;unfold OX at hr;rw[kR] at hr;cases h1:bump (List.replicate N.length 0) root with
 |none=>rw[h1] at hr;cases hr
 |some c1=>
  rw[h1] at hr;simp only[aaA] at hr;refine z.new λx0 h1' z f1=>?_;refine z.ld 0 (o:=0) (l:=.sl) ?_;rw[G.len];refine z.DV (by omega) (by have:=hB.1;have:=hB.2.1;unfold cN;omega) λb h2 z f2=>?_;rw[aac] at z⊢;rw[l6 (enc:=vi)] at z;refine z.ld 1 (o:=1) (l:=li) ?_;refine zD (i:=0) z rfl h1 (by simp) λh3 z=>?_;refine z.ld 1 (o:=0) (l:=.sl) ?_;rw[ag];have hl:=uv h1;rw[aax] at hl;have:=W4 G hB (cap:=N.length+1) n 0 c1 r h3 (.aD x0 [aS s,vi root] aj::L) (by have:=hB.1;omega) (by omega) (by simpa using hr) z;rw[hl] at this;refine this.mono λ_ h4 z=>?_;rw[ah];exact⟨b,rfl,by rw[pR hr,hl],(z.perm (List.Perm.swap _ _ _)).drop⟩
theorem W5 {b m:Nat}{r:ε}(hm:r.length=m)(h1:∀v∈r,v<=1){so:Sl}{os:ε}{g:Nat}(hso:so.len=os.length)(hr:∀x∈os,0<=x/\x<(m:Int))(hb:os.length<1073741824)(a1:Sl) :
  ∀(n i:Nat) (h:af) (L:List dh),os.length-i<n->i<=os.length->Z h0 h (.aD b (r.map vi) ay::.sl so 1 ay (os.map vi) g::L) ->
   Wp (jy n (arr b m) a1 so (os.length:Int) (i:Int)) h λy h'=>y=a1/\Z h0 h' (.aD b (r.map vi) ay::.sl so 1 ay (os.map vi) g::L):=by
 intro n
 induction n with
 |zero=>intro i h L h1;omega
 |succ n ih=>
  intro i h L g1 g2 z;rw[wL];unfold oK;by_cases hi:i<os.length
  .rw[BY (by simp;omega)];obtain⟨q,hq⟩:=gU hi;have hq2:=hr q (OF hq);obtain⟨v,hv⟩:=gU (l:=r) (i:=q.toNat) (by omega);have hv1:=h1 v (OF hv);have os1:sF h so 1 ay (os.map vi) g:=z.get 1 rfl;refine (sF.DE os1).Yw (enc:=vi) (xs:=os) (by omega) (v:=q) (by simpa using hq) λa cl=>cl.uI (l:=li) rfl rfl ?_;refine yL (b:=b) (m:=m) hq2.1 (by omega) ?_;refine z.ld 0 (o:=q.toNat) (l:=li) (x:=v) ?_ rfl (by rw[aaj,hv];rfl) rfl;rw[By (by simpa using hv1),vV g2 (by omega)];exact ih (i+1) h L (by omega) (by omega) z
  .rw[By (by simp;omega),ah];exact⟨rfl,z⟩
theorem TU (z:Z h0 h L)(G:mE h0 s N){B:Nat}(hB:Bd N B)(ht:∀x∈N,x.text.size<=65536){k n:Nat}(hn:k+B*(B+3)+4*B+66020<=n)(hv:sq k N root=some 0)(hT:∀x∈N,x.kind=10->x.ord=false->∃ts,TK N x ts)(hI:∀x∈N,∀y∈x.items,∃z,gt N y=some z){r0:aq}(hr0:gt N root=some r0){r:ε}(hr:OX N root=some r)(h1:∀v∈r,v<=1) :
  Wp (vj n (s,root)) h λx h'=>x=true/\Z h0 h' L:=by
 have hB1:=hB.1;have hB2:=hB.2.1;have hBB:B*3<=B*(B+3):=Nat.mul_le_mul_left _ (Nat.le_add_left _ _);unfold vj;refine z.new λx0 h2 z _=>z.jV 0 (ls:=[.sl,li]) (x:=(s,root)) ?_;rw[ag];refine (qo z G hB ht (by omega) hv).mono λy h3 hy=>?_;obtain⟨rfl,z⟩:=hy;rw[BY (by simp)];refine z.jV 0 (ls:=[.sl,li]) (x:=(s,root)) ?_;rw[ag];have hlab:Wp (rn n (s,root)) h3 λy h'=>y=jb/\Z h0 h' (.aD x0 [aS s,vi root] aj::L):=by
  unfold rn;refine z.new λx0 h2 z _=>z.jV 0 (ls:=[.sl,li]) (x:=(s,root)) ?_;rw[ag];refine (qo z G hB ht (by omega) hv).mono λy h3 hy=>?_;obtain⟨rfl,z⟩:=hy;rw[By (by simp)];refine z.jV 0 (ls:=[.sl,li]) (x:=(s,root)) ?_;rw[ag];refine (RX z G hB hT hI hr0 (by omega)).mono λy h4 hy=>?_;obtain⟨os,g,o1,o2,o3,z⟩:=hy;refine z.jV 1 (ls:=[.sl,li]) (x:=(s,root)) ?_;rw[ag];refine (KJ z G hB (by omega) hr).mono λy2 h5 hy=>?_;obtain⟨b,rfl,hrl,z⟩:=hy;rw[o3,ag];refine (W5 hrl h1 o3 o1 (by omega) jb n 0 h5 _ (by omega) (by omega) z).mono λy3 h6 hy=>?_;obtain⟨rfl,z⟩:=hy;rw[ah];exact⟨rfl,z.drop.drop.drop⟩
 refine hlab.mono λy h4 hy=>?_;obtain⟨rfl,z⟩:=hy;rw[ah];exact⟨rfl,z.drop⟩
end
def kL:s9->List ζ
 |.nil=>[]
 |.cons k _ l=>k::kL l
theorem BZ:∀(l:s9) (b:Nat),(gV b l).length=(kL l).length
 |.nil,b=>rfl
 |.cons k v l,b=>by rw[gV,kL,aae,aae,BZ l]
theorem Ha:∀(l:s9) (b:Nat),(jh b l).length=(kL l).length
 |.nil,b=>rfl
 |.cons k v l,b=>by rw[jh,kL,aae,aae,Ha l]
theorem Hb {N:List aq}:∀(l:s9) (b:Nat),Pt N b (iJ b l)->∀(i:Nat) t,(kL l)[i]?=some t->∃k,(gV b l)[i]?=some k/\gt N k=some (LN t)
 |.nil,b,p,i,t,ht=>by cases ht
 |.cons key v l,b,p,i,t,ht=>by
  rw[iJ] at p;obtain⟨p1,p2⟩:=p.cons;have p3:=p2.split.2;rw[cp] at p3;rw[kL] at ht;rw[gV];cases i with
  |zero=>cases ht;exact⟨_,rfl,by rw[kD];exact p1⟩
  |succ i=>exact Hb l _ p3 i t ht
theorem KK:∀(l:s9) (d:Nat) (last:Option ζ),L9 d last l->(∀t,last=some t->∀k∈kL l,zM t k=true)/\(kL l).Pairwise (λa b=>zM a b=true)
 |.nil,d,last,h=>⟨λt ht k hk=>(by cases hk),List.Pairwise.nil⟩
 |.cons key v l,d,last,h=>by
  obtain⟨i1,i2⟩:=KK l d _ h.2.2.2.2;rw[kL];refine⟨λt ht k hk=>?_,List.pairwise_cons.2 ⟨λk hk=>i1 key rfl k hk,i2⟩⟩;have h1:=xX (h.2.2.1 t ht);rcases List.mem_cons.1 hk with rfl|hk
  .exact h1
  .exact Vp h1 (i1 key rfl k hk)
theorem Vt:∀(l:s9) (d:Nat) (last:Option ζ),L9 d last l->∀t∈kL l,u8 t=true/\t.size<=(qN l).length
 |.nil,d,last,h=>λt ht=>by cases ht
 |.cons key v l,d,last,h=>λt ht=>by
  have hs:=bF key;simp only[qN,uw,aaa,aae];rcases List.mem_cons.1 ht with rfl|ht
  .exact⟨h.2.1,by omega⟩
  .have:=Vt l d _ h.2.2.2.2 t ht;exact⟨this.1,by omega⟩
theorem Yk {N:List aq}{l:s9}{b d:Nat}(p:Pt N b (iJ b l))(h:L9 d none l)(hs:(qN l).length<=65536){q:Int}{tx:ζ}{o:Bool}:TK N ⟨q,tx,o,gV b l,jh b l⟩ (kL l):=by
 obtain⟨_,asc⟩:=KK l d none h;refine⟨BZ l b,Ha l b,Hb l b p,λt ht=>?_,λi j s t hi hj hne=>?_⟩
 .have:=Vt l d none h t ht;exact⟨this.1,by omega⟩
 .have lt:∀(i j:Nat) (s t:ζ),(kL l)[i]?=some s->(kL l)[j]?=some t->i<j->zM s t=true:=λi j s t hi hj hlt=>by
   obtain⟨hi1,rfl⟩:=List.getElem?_eq_some_iff.1 hi;obtain⟨hj1,rfl⟩:=List.getElem?_eq_some_iff.1 hj;exact List.pairwise_iff_getElem.1 asc i j hi1 hj1 hlt
  have ne:∀{s t:ζ},zM s t=true->s≠t:=λhl e=>by
   have:=Vo hl;rw[e,vr] at this;cases this
  rcases Nat.lt_or_gt_of_ne hne with hlt|hlt
  .exact ne (lt i j s t hi hj hlt)
  .exact (ne (lt j i t s hj hi hlt)).symm
mutual
theorem Hc {N:List aq}:∀(v:tW) (b d:Nat),Pt N b (fK b v)->IU d v->(enc v).length<=65536->∀x∈fK b v,x.kind=10->∃ts,TK N x ts
 |.int t,b,d,p,h,hs,x,hx,hk=>by rw[fK,aat] at hx;subst hx;cases hk
 |.str t,b,d,p,h,hs,x,hx,hk=>by
  rw[fK,aat] at hx;subst hx;simp only at hk;split at hk<;>cases hk
 |.list l,b,d,p,h,hs,x,hx,hk=>by
  rw[fK] at hx p;simp only[enc,aae,aaa,aam] at hs;rcases List.mem_cons.1 hx with rfl|hx
  .cases hk
  .exact Jg l _ _ p.cons.2 h.2 (by omega) x hx hk
 |.map l,b,d,p,h,hs,x,hx,hk=>by
  rw[fK] at hx p;simp only[enc,aae,aaa,aam] at hs;rcases List.mem_cons.1 hx with rfl|hx
  .exact⟨_,Yk p.cons.2 h.2 (by omega)⟩
  .exact Jh l _ _ _ p.cons.2 h.2 (by omega) x hx hk
theorem Jg {N:List aq}:∀(l:Az) (b d:Nat),Pt N b (kM b l)->Sw d l->(vW l).length<=65536->∀x∈kM b l,x.kind=10->∃ts,TK N x ts
 |.nil,b,d,p,h,hs,x,hx,hk=>by cases hx
 |.cons v l,b,d,p,h,hs,x,hx,hk=>by
  rw[kM] at hx p;simp only[vW,aaa] at hs;obtain⟨p1,p2⟩:=p.split;rw[cp] at p2;rcases List.mem_append.1 hx with hx|hx
  .exact Hc v _ _ p1 h.1 (by omega) x hx hk
  .exact Jg l _ _ p2 h.2 (by omega) x hx hk
theorem Jh {N:List aq}:∀(l:s9) (b d:Nat) (last:Option ζ),Pt N b (iJ b l)->L9 d last l->(qN l).length<=65536->∀x∈iJ b l,x.kind=10->∃ts,TK N x ts
 |.nil,b,d,last,p,h,hs,x,hx,hk=>by cases hx
 |.cons key v l,b,d,last,p,h,hs,x,hx,hk=>by
  rw[iJ] at hx p;simp only[qN,aaa] at hs;obtain⟨p1,p2⟩:=p.cons;obtain⟨p3,p4⟩:=p2.split;rw[cp] at p4;rcases List.mem_cons.1 hx with rfl|hx
  .cases hk
  .rcases List.mem_append.1 hx with hx|hx
   .exact Hc v _ _ p3 h.2.2.2.1 (by omega) x hx hk
   .exact Jh l _ _ _ p4 h.2.2.2.2 (by omega) x hx hk
end
theorem Dv:∀(N:List aq) (j:Int),(N.flatMap aq.items).count j<=(jX N).count j
 |[],j=>aai _
 |x::N,j=>by
  have:=Dv N j;rw[abh,gn,aa0,aa0];unfold refs;rw[aa0];omega
theorem OY {v:tW}(hn:fY v<=4096):∃r,OX (fK 0 v) 0=some r/\∀x∈r,x<=1:=by
 have hp:=lI v;have hl:=uy v 0;have hit:∀y∈(fK 0 v).flatMap aq.items,y∈jX (fK 0 v):=λy hy=>by
  obtain⟨x,hx,hy⟩:=List.mem_flatMap.1 hy;exact List.mem_flatMap.2 ⟨x,hx,by unfold refs;exact aaE _ hy⟩
 have hlen:((fK 0 v).flatMap aq.items).length<=(jX (fK 0 v)).length:=by
  have:∀N:List aq,(N.flatMap aq.items).length<=(jX N).length:=λN=>by
   induction N with
   |nil=>exact aai _
   |cons x N ih=>rw[abh,gn,aaa,aaa];unfold refs;rw[aaa];omega
  exact this _
 have q1:∀y∈(0:Int)::(fK 0 v).flatMap aq.items,∃j:Nat,y=j/\j<(fK 0 v).length:=λy hy=>by
  rw[cp];rcases List.mem_cons.1 hy with rfl|hy
  .exact⟨0,rfl,by omega⟩
  .obtain⟨j,h1,_,h2⟩:=G5 (hit y hy) (AD v 0 y (hit y hy));exact⟨j,h1,by omega⟩
 unfold OX;rw[Dh,zG _ _ 0 q1 (λ_=>⟨by omega,by omega⟩) (by rw[aae];omega)];refine⟨_,rfl,λx hx=>?_⟩;obtain⟨j,hj⟩:=List.mem_iff_getElem?.1 hx;have hlt:=aY hj;unfold mk at hx;obtain⟨i,_,rfl⟩:=List.mem_map.1 hx;have h1:=Dv (fK 0 v) (i:Int);have h2:=wS v 0 i;have h3:=zF 0 i;rw[aa7];have h3:(if (0:Int)==(i:Int) then 1 else 0)=if i=0 then 1 else 0:=h3;rw[h3];split at h2<;>split<;>omega
end Go.Sh
