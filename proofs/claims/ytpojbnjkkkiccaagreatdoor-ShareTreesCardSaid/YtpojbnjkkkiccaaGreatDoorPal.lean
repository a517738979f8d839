
import Derived.Test.YtpojbnjkkkiccaaGreatDoorPak
import Derived.Test.YtpojbnjkkkiccaaGreatDoorSl0
set_option linter.all false
namespace Go.Sh
open Go Go.Ago Go.Proofs
variable {N:List aq}{root u v w:Int}{H:Int->Nat}{x:aq}
def VB {α β:Type}{F G:α->List β}:∀{l:List α},(∀c∈l,(F c).Perm (G c))->(l.flatMap F).Perm (l.flatMap G)
 |[],_=>.refl _
 |c::l,h=>by
  rw[acD,acD];exact (h c (by simp)).append (VB λd hd=>h d (by simp[hd]))
def QQ {α:Type}{T:α->List α}:∀{l:List α},(l.flatMap λc=>c::T c).Perm (l++l.flatMap T)
 |[]=>.refl _
 |c::l=>by
  rw[acD,acD,acV,acV];refine List.Perm.cons c (((QQ (T:=T) (l:=l)).append_left (T c)).trans ?_);rw[<-acX,<-acX];exact List.perm_append_comm.append_right _
def acw {f g:Int->Int}:∀{l:ε},(l.flatMap λa=>[f a,g a]).Perm (l.map f++l.map g)
 |[]=>.refl _
 |a::l=>by
  rw[acD,acW,acW];show (f a::g a::_).Perm (f a::(l.map f++g a::l.map g));exact List.Perm.cons _ (((acw (l:=l)).cons (g a)).trans List.perm_middle.symm)
def rf (N:List aq)(u:Int):ε:=match gt N u with
 |some x=>refs x
 |none=>[]
def MS (d:Vd N root)(hx:gt N u=some x):(kX x (cd N u)).Perm (refs x):=by
 have o1:cd N u=jy (gZ N) x:=by unfold cd;rw[hx]
 rw[o1];have hp:=w6 (gZ N) x;unfold kX refs;refine (hp.flatMap_right _).trans ?_;by_cases k:x.kind=10
 .simp only[By k];refine acw.trans ?_;have e1:=yB (ψ:=id) x.keys;rw[d.map (ax hx) k] at e1;have e2:=yB (ψ:=id) x.items;have f1:(iota x.items.length).map (nth x.keys)=x.keys:=e1.trans (aox _);have f2:(iota x.items.length).map (nth x.items)=x.items:=e2.trans (aox _);rw[f1,f2]
 .simp only[AT k];have e2:=yB (ψ:=id) x.items;have f2:(iota x.items.length).map (nth x.items)=x.items:=e2.trans (aox _);rw[d.keys (ax hx) k,afk,<-List.map_eq_flatMap,f2]
noncomputable def tr (N:List aq):Nat->Int->ε
 |0,_=>[]
 |f+1,k=>match gt N k with
  |some x=>k::(kX x (cd N k)).flatMap (tr N f)
  |none=>[]
def La (d:Vd N root)(hx:gt N u=some x)(h:v∈kX x (cd N u)):Edge N u v/\IR N.length v:=by
 have:=(MS d hx).mem_iff.1 h;unfold refs at this;rcases List.mem_append.1 this with q|q
 .exact⟨⟨x,hx,.inl q⟩,(d.ix x (ax hx)).1 v q⟩
 .exact⟨⟨x,hx,.inr q⟩,(d.ix x (ax hx)).2 v q⟩
theorem I9 (d:Vd N root)(hH:∀u v,Edge N u v->H v<H u):∀f u,IR N.length u->H u<f->(tr N f u).Perm (u::(tr N f u).flatMap (rf N))
 |0,_,_,h=>by omega
 |f+1,u,hu,h=>by
  obtain⟨x,hx⟩:=fj (l:=N) rfl hu;have e:tr N (f+1) u=u::(kX x (cd N u)).flatMap (tr N f):=by rw[tr,hx]
  have er:rf N u=refs x:=by unfold rf;rw[hx]
  rw[e,acD,er];refine List.Perm.cons u ?_;have h1:((kX x (cd N u)).flatMap (tr N f)).Perm ((kX x (cd N u)).flatMap λc=>c::(tr N f c).flatMap (rf N)):=VB λc hc=>by
   obtain⟨ed,ir⟩:=La d hx hc;have:=hH u c ed;exact I9 d hH f c ir (by omega)
  refine h1.trans (QQ.trans ?_);rw[<-List.flatMap_assoc];exact (MS d hx).append_right _
theorem afZ (f:Nat)(hu:IR N.length u):u∈tr N (f+1) u:=by
 obtain⟨x,hx⟩:=fj (l:=N) rfl hu;rw[tr,hx];simp
theorem Tw (d:Vd N root)(hH:∀u v,Edge N u v->H v<H u){f:Nat}(hu:IR N.length u)(hf:H u<f)(h:gf N u w):w∈tr N f u:=by
 obtain⟨f,rfl⟩:∃k,f=k+1:=⟨f-1,by omega⟩
 induction h with
 |refl=>exact afZ f hu
 |step _ e ih=>
  rename_i p w _;refine (I9 d hH (f+1) u hu hf).mem_iff.2 (BY _ (List.mem_flatMap.2 ⟨p,ih,?_⟩));obtain⟨x,hx,hm⟩:=e;unfold rf refs;rw[hx];exact List.mem_append.2 hm
theorem VC (d:Vd N root):∀f u,IR N.length u->∀w∈tr N f u,IR N.length w
 |0,_,_,w,h=>by unfold tr at h;cases h
 |f+1,u,hu,w,h=>by
  obtain⟨x,hx⟩:=fj (l:=N) rfl hu;rw[tr,hx] at h;rcases List.mem_cons.1 h with rfl|h
  .exact hu
  .obtain⟨c,hc,hw⟩:=List.mem_flatMap.1 h;exact VC d f c (La d hx hc).2 w hw
def Uq (N:List aq)(root:Int):Prop:=∀v,IR N.length v->(root::N.flatMap refs).count v=1
def acx {l:ε}{p v:Int}(h:∀q∈l,v∈rf N q->q=p)(h1:(rf N p).count v=1):(l.flatMap (rf N)).count v=l.count p:=by
 induction l with
 |nil=>rfl
 |cons a l ih=>
  rw[acD,agf,agw,ih λq hq=>h q (by simp[hq])];by_cases e:a=p
  .subst e;simp[h1,ao9]
  .have:(rf N a).count v=0:=List.count_eq_zero.2 λq=>e (h a (by simp) q);rw[this];simp[e]
theorem VD (h:v∈rf N u):Edge N u v:=by
 unfold rf at h;cases hx:gt N u with
 |none=>rw[hx] at h;cases h
 |some x=>
  rw[hx] at h;exact⟨x,hx,List.mem_append.1 h⟩
theorem QR (d:Vd N root)(hH:∀u v,Edge N u v->H v<H u){f:Nat}(hf:H root<f)(U:Uq N root):(tr N f root).Nodup:=by
 have hp:=I9 d hH f root d.rt hf;have main:∀s v,Wk N root s v->IR N.length v->(tr N f root).count v=1:=λs v h=>by
  induction h with
  |root=>
   intro hr;rw[hp.count_eq,agw,List.count_eq_zero.2]
   .simp
   .intro q;obtain⟨p,_,h2⟩:=List.mem_flatMap.1 q;exact (CV (U root hr) (VD h2)).1 rfl
  |step h e ih=>
   rename_i t p v;intro hv;obtain⟨x,hx,hm⟩:=id e;have hpi:=nF hx;obtain⟨n1,n2⟩:=CV (U v hv) e;have c1:(rf N p).count v=1:=by
    have er:rf N p=refs x:=(by unfold rf;rw[hx]);have h1:=vw (u:=v) (ax hx);have h2:=U v hv;rw[agw] at h2;have h3:0<(refs x).count v:=List.count_pos_iff.2 (List.mem_append.2 hm);rw[er];omega
   rw[hp.count_eq,agw,acx (λq _ hq=>n2 q (VD hq)) c1,ih hpi];simp[Ne.symm n1]
 refine List.nodup_iff_count.2 λv=>?_;by_cases hv:v∈tr N f root
 .have ir:=VC d f root d.rt v hv;obtain⟨s,_,h⟩:=d.wk v ir;rw[main s v h ir];exact abi _
 .rw[List.count_eq_zero.2 hv];omega
def zH:∀{l m:ε},l.Nodup->(∀a∈l,a∈m)->∃r,m.Perm (l++r)
 |[],m,_,_=>⟨m,.refl _⟩
 |a::l,m,nd,h=>by
  obtain⟨n1,n2⟩:=List.nodup_cons.1 nd;obtain⟨r,hr⟩:=zH (l:=l) (m:=m.erase a) n2 λb hb=>(apW λ(e:b=a)=>n1 (by rw[<-e];exact hb)).2 (h b (by simp[hb]));exact⟨r,(List.perm_cons_erase (h a (by simp))).trans (hr.cons a)⟩
theorem af0:∀(M:List aq),(iota M.length).flatMap (rf M)=M.flatMap refs:=λM=>by
 have h:=yB (ψ:=λ(a:Int)=>a) (iota M.length);have:∀(n:Nat),n<=M.length->((List.range n).map (λi:Nat=>(i:Int))).flatMap (rf M)=(M.take n).flatMap refs:=λn hn=>by
  induction n with
  |zero=>simp
  |succ n ih=>
   obtain⟨x,hx⟩:=eC (l:=M) (i:=n) (by omega);have er:rf M (n:Int)=refs x:=by unfold rf gt;simp[hx]
   rw[List.range_succ,ahO,alX,ih (by omega),aov,hx,alX];simp[er]
 have:=this M.length (abi _);rw[anR] at this;exact this
theorem anr (d:Vd N root)(all:∀v,IR N.length v->gf N root v)(hH:∀u v,Edge N u v->H v<H u){f:Nat}(hf:H root<f)(nd:(tr N f root).Nodup):Uq N root:=λv hv=>by
 have hp:=I9 d hH f root d.rt hf;obtain⟨r,sub⟩:=zH (oq N.length) λa ha=>Tw d hH d.rt hf (all a (by have:=(ic N.length).2 a ha;exact⟨this.1,this.2⟩));have h1:=(sub.flatMap_right (rf N)).count_eq v;rw[alX,agf,af0] at h1;have h2:=List.nodup_iff_count.1 nd v;rw[hp.count_eq,agw] at h2;have h3:0<(root::N.flatMap refs).count v:=by
  refine List.count_pos_iff.2 ?_;rcases (all v hv).last with rfl|⟨p,_,e⟩
  .simp
  .obtain⟨x,hx,hm⟩:=e;exact BY _ (List.mem_flatMap.2 ⟨x,ax hx,List.mem_append.2 hm⟩)
 rw[agw] at h3⊢;omega
def VE (d:Vd N root)(all:∀v,IR N.length v->gf N root v)(hH:∀u v,Edge N u v->H v<H u){f:Nat}(hf:H root<f):(tr N f root).length<=N.length↔(tr N f root).Nodup:=by
 refine⟨λh=>?_,λh=>?_⟩
 .obtain⟨r,sub⟩:=zH (oq N.length) λa ha=>Tw d hH d.rt hf (all a (by have:=(ic N.length).2 a ha;exact⟨this.1,this.2⟩));have l:=sub.length_eq;rw[aby,gD] at l;have:r=[]:=List.length_eq_zero_iff.1 (by omega);subst this;rw[afx] at sub;exact sub.symm.nodup (oq _)
 .obtain⟨r,sub⟩:=zH (m:=iota N.length) h λa ha=>by
   have:=VC d f root d.rt a ha;obtain⟨k,rfl⟩:∃k:Nat,a=k:=⟨a.toNat,by have:=this.1;omega⟩;exact IN (qi (m:=N.length) (i:=k) (by have:=this.2;omega))
  have l:=sub.length_eq;rw[aby,gD] at l;omega
end Go.Sh
namespace Go.Sh
open Go Go.Ago Go.Proofs
variable {N:List aq}{root u v w:Int}
def af1 (d:Vd N root)(U:Uq N root):∀u v,Edge N u v->¬gf N v u:=by
 have ex:∀v:Int,∃t:Nat,IR N.length v->Wk N root t v/\∀s,s<t->¬Wk N root s v:=λv=>by
  by_cases hv:IR N.length v
  .obtain⟨s,_,h⟩:=d.wk v hv;obtain⟨t,h1,h2⟩:=least (p:=λs=>Wk N root s v) s h;exact⟨t,λ_=>⟨h1,h2⟩⟩
  .exact⟨0,λq=>absurd q hv⟩
 obtain⟨D,hD⟩:=anT ex;have step:∀u v,Edge N u v->IR N.length v/\IR N.length u/\D v=D u+1:=λu v e=>by
  obtain⟨x,hx,hm⟩:=id e;have hu:=nF hx;have hv:IR N.length v:=hm.elim ((d.ix x (ax hx)).1 v) ((d.ix x (ax hx)).2 v);obtain⟨n1,n2⟩:=CV (U v hv) e;obtain⟨a1,a2⟩:=hD u hu;obtain⟨b1,b2⟩:=hD v hv;refine⟨hv,hu,?_⟩;have le:D v<=D u+1:=adj λq=>b2 (D u+1) (by omega) (.step a1 e);generalize D v=t at b1 b2 le;cases b1 with
  |root=>exact absurd rfl n1
  | @step s p _ h e'=>
   rw[n2 _ e'] at h;have:D u<=s:=adj λq=>a2 s (by omega) h;omega
 have le:∀{a b},gf N a b->D a<=D b:=λ{a b} h=>by
  induction h with
  |refl=>exact abi _
  |step _ e ih=>have:=(step _ _ e).2.2;omega
 intro u v e h;have:=(step u v e).2.2;have:=le h;omega
def Oq (d:Vd N root)(all:∀v,IR N.length v->gf N root v):Uq N root↔(root::N.flatMap aq.items).Nodup:=by
 have le:∀(M:List aq) v,(M.flatMap aq.items).count v<=(M.flatMap refs).count v:=λM v=>by
  induction M with
  |nil=>exact abi _
  |cons x M ih=>
   rw[acD,acD,agf,agf];rw[show refs x=x.keys++x.items from rfl,agf];omega
 refine⟨λU=>List.nodup_iff_count.2 λv=>?_,λh v hv=>?_⟩
 .by_cases hv:IR N.length v
  .have:=U v hv;have:=le N v;rw[agw] at *
   omega
  .rw[List.count_eq_zero.2]
   .omega
   .intro q;rcases List.mem_cons.1 q with rfl|q
    .exact hv d.rt
    .obtain⟨x,hx,hm⟩:=List.mem_flatMap.1 q;exact hv ((d.ix x hx).2 v hm)
 .by_cases k:KN N v
  .exact d.one v k
  .have eq:∀M:List aq,(∀x∈M,x∈N)->(M.flatMap refs).count v=(M.flatMap aq.items).count v:=λM hM=>by
    induction M with
    |nil=>rfl
    |cons x M ih=>
     rw[acD,acD,agf,agf,ih λy hy=>hM y (by simp[hy])];rw[show refs x=x.keys++x.items from rfl,agf,List.count_eq_zero.2 λq=>k (.key (hM x (by simp)) q)];omega
   have h2:=List.nodup_iff_count.1 h v;have h3:0<(root::N.flatMap refs).count v:=by
    refine List.count_pos_iff.2 ?_;rcases (all v hv).last with rfl|⟨p,_,e⟩
    .simp
    .obtain⟨x,hx,hm⟩:=e;exact BY _ (List.mem_flatMap.2 ⟨x,ax hx,List.mem_append.2 hm⟩)
   rw[agw] at h2 h3⊢;have:=eq N λ_ h=>h;omega
end Go.Sh
namespace Go.Sh
open Go Go.Ago Go.Proofs
variable {N:List aq}{root u v w:Int}{H:Int->Nat}{x:aq}{f:Nat}{S:NS}{F:Int->Nat->List aq}{T:Int->ε}
noncomputable def wv (F:Int->Nat->List aq)(x:aq):ε->Nat->(ε×ε)×List aq
 |[],_=>(([],[]),[])
 |a::l,b=>if x.kind=10 then
   let t:=F (nth x.keys a) b
   let u:=F (nth x.items a) (b+t.length)
   let r:=wv F x l (b+t.length+u.length)
   (((b:Int)::r.1.1,((b+t.length:Nat):Int)::r.1.2),t++(u++r.2))
  else
   let u:=F (nth x.items a) b
   let r:=wv F x l (b+u.length)
   ((r.1.1,(b:Int)::r.1.2),u++r.2)
noncomputable def uf (N:List aq):Nat->Int->Nat->List aq
 |0,_,_=>[]
 |f+1,k,b=>match gt N k with
  |some x=>⟨x.kind,x.text,x.ord,(wv (uf N f) x (cd N k) (b+1)).1.1,(wv (uf N f) x (cd N k) (b+1)).1.2⟩::(wv (uf N f) x (cd N k) (b+1)).2
  |none=>[]
def Ja (h:∀c b,(F c b).length=(T c).length):∀l b,(wv F x l b).2.length=((kX x l).flatMap T).length
 |[],_=>rfl
 |a::l,b=>by
  rw[o6,alX];unfold wv;by_cases k:x.kind=10
  .rw[By k,By k];simp only[aby,acD,List.flatMap_nil,afx,h,Ja h l];omega
  .rw[AT k,AT k];simp only[aby,acD,List.flatMap_nil,afx,h,Ja h l]
theorem CB:∀f k b,(uf N f k b).length=(tr N f k).length
 |0,_,_=>rfl
 |f+1,k,b=>by
  unfold uf tr;cases gt N k with
  |none=>rfl
  |some x=>simp only[abK,Ja (CB f)]
structure NvP (N:List aq) (S S':NS) (t:ε) (L:List aq):Prop where
 gC:S'.gC=S.gC+L.length
 la:S'.at'.length=N.length
 lo:S'.out.length=N.length
 ot:∀w,w∉t->gt S'.at' w=gt S.at' w
 lA:∀j,j<S.gC->S'.out[j]?=S.out[j]?
 new:∀j,j<L.length->S'.out[S.gC+j]?=L[j]?
def NvP.refl (a:S.at'.length=N.length)(b:S.out.length=N.length):NvP N S S [] []:=⟨rfl,a,b,λ_ _=>rfl,λ_ _=>rfl,λj h=>absurd h (Nat.not_lt_zero j)⟩
theorem NvP.trans {S1 S2:NS}{t t':ε}{L L':List aq}(a:NvP N S S1 t L)(b:NvP N S1 S2 t' L'):NvP N S S2 (t++t') (L++L'):=by
 have ac:=a.gC;refine⟨by rw[b.gC,a.gC,aby];omega,b.la,b.lo,λw hw=>?_,λj hj=>?_,λj hj=>?_⟩
 .rw[afK] at hw;rw[b.ot w λq=>hw (.inr q),a.ot w λq=>hw (.inl q)]
 .rw[b.lA j (by omega),a.lA j hj]
 .rw[aby] at hj;by_cases h:j<L.length
  .rw[b.lA _ (by omega),a.new j h,ahQ h]
  .rw[agj (by omega),<-b.new (j-L.length) (by omega),ac]
   congr 1;omega
def ans (N:List aq)(H:Int->Nat)(f:Nat):Prop:=∀k (S:NS),S.at'.length=N.length->S.out.length=N.length->S.gC+(tr N f k).length<=N.length->IR N.length k->H k<f->(tr N f k).Nodup->(∀w∈tr N f k,∃a,gt S.at' w=some a/\a<0)->∃S',nv N f k S=some ((S.gC:Int),S')/\NvP N S S' (tr N f k) (uf N f k S.gC)
def acz (V:ans N H f):∀(l:ε) (S:NS),(∀c∈kX x l,IR N.length c/\H c<f)->S.at'.length=N.length->S.out.length=N.length->S.gC+((kX x l).flatMap (tr N f)).length<=N.length->((kX x l).flatMap (tr N f)).Nodup->(∀w∈(kX x l).flatMap (tr N f),∃a,gt S.at' w=some a/\a<0) ->
  ∃S',qU (nv N f) x l S=some ((wv (uf N f) x l S.gC).1,S')/\NvP N S S' ((kX x l).flatMap (tr N f)) (wv (uf N f) x l S.gC).2
 |[],S,_,a,b,_,_,_=>⟨S,rfl,.refl a b⟩
 |i::l,S,hc,ha,hb,hn,nd,fr=>by
  have ih:=acz V l;rw[o6] at hc hn nd fr⊢;by_cases k:x.kind=10
  .rw[By k] at hc hn nd fr⊢;have e:∀X:ε,([nth x.keys i,nth x.items i]++X).flatMap (tr N f)=tr N f (nth x.keys i)++(tr N f (nth x.items i)++X.flatMap (tr N f)):=λX=>by simp
   rw[e] at hn nd fr⊢;have l1:=CB (N:=N) f (nth x.keys i) S.gC;obtain⟨n1,n2,n3⟩:=List.nodup_append.1 nd;obtain⟨n4,n5,n6⟩:=List.nodup_append.1 n2;simp only[aby] at hn;obtain⟨c1,c2⟩:=hc (nth x.keys i) (by simp);obtain⟨c3,c4⟩:=hc (nth x.items i) (by simp);obtain⟨S1,e1,p1⟩:=V _ S ha hb (by omega) c1 c2 n1 λw hw=>fr w (acC _ hw);have q1:=p1.gC;obtain⟨S2,e2,p2⟩:=V (nth x.items i) S1 p1.la p1.lo (by omega) c3 c4 n4 λw hw=>by
    rw[p1.ot w λq=>n3 w q w (acC _ hw) rfl];exact fr w (OF _ (acC _ hw))
   have q2:=p2.gC;have l2:=CB (N:=N) f (nth x.items i) S1.gC;obtain⟨S3,e3,p3⟩:=ih S2 (λc h=>hc c (OF _ h)) p2.la p2.lo (by omega) n5 λw hw=>by
    rw[p2.ot w λq=>n6 w q w hw rfl,p1.ot w λq=>n3 w q w (OF _ hw) rfl];exact fr w (OF _ (OF _ hw))
   have t:=p1.trans (p2.trans p3);rw[q2,q1] at e3 t;rw[q1] at e2;refine⟨S3,?_,?_⟩
   .unfold qU;rw[By k,e1];simp only;rw[e2];simp only;rw[e3];rw[wv,By k]
   .rw[wv,By k];exact t
  .rw[AT k] at hc hn nd fr⊢;have e:∀X:ε,([nth x.items i]++X).flatMap (tr N f)=tr N f (nth x.items i)++X.flatMap (tr N f):=λX=>by simp
   rw[e] at hn nd fr⊢;obtain⟨n4,n5,n6⟩:=List.nodup_append.1 nd;simp only[aby] at hn;obtain⟨c3,c4⟩:=hc (nth x.items i) (by simp);obtain⟨S2,e2,p2⟩:=V (nth x.items i) S ha hb (by omega) c3 c4 n4 λw hw=>fr w (acC _ hw);have q2:=p2.gC;have l2:=CB (N:=N) f (nth x.items i) S.gC;obtain⟨S3,e3,p3⟩:=ih S2 (λc h=>hc c (OF _ h)) p2.la p2.lo (by omega) n5 λw hw=>by
    rw[p2.ot w λq=>n6 w q w hw rfl];exact fr w (OF _ hw)
   have t:=p2.trans p3;rw[q2] at e3 t;refine⟨S3,?_,?_⟩
   .unfold qU;rw[AT k,e2];simp only;rw[e3];rw[wv,AT k]
   .rw[wv,AT k];exact t
theorem ahV (d:Vd N root)(hH:∀u v,Edge N u v->H v<H u):∀f,ans N H f
 |0=>λk S _ _ _ _ h=>absurd h (Nat.not_lt_zero _)
 |f+1=>λk S ha hb hn hk hp nd fr=>by
  obtain⟨x,hx⟩:=fj (l:=N) rfl hk;have et:tr N (f+1) k=k::(kX x (cd N k)).flatMap (tr N f):=by rw[tr,hx]
  rw[et] at hn nd fr⊢;obtain⟨a,ga,la⟩:=fr k (by simp);obtain⟨n1,n2⟩:=List.nodup_cons.1 nd;rw[abK] at hn;have gs:∀w,w≠k->gt (S.at'.set k.toNat (S.gC:Int)) w=gt S.at' w:=λw hw=>by
   rw[gH (l:=S.at') (by rw[ha];exact hk),AT hw]
  obtain⟨S2,e2,p2⟩:=acz (ahV d hH f) (x:=x) (cd N k) ⟨S.at'.set k.toNat S.gC,S.gC+1,S.out⟩ (λc hc=>by
   obtain⟨ed,ir⟩:=La d hx hc;exact⟨ir,by have:=hH k c ed;omega⟩) (by simpa using ha) hb (by show S.gC+1+_<=_;omega) n2 λw hw=>by
   show ∃a,gt (S.at'.set k.toNat (S.gC:Int)) w=some a/\a<0;rw[gs w λe=>n1 (e▸hw)];exact fr w (BY _ hw)
  have p2:NvP N ⟨S.at'.set k.toNat S.gC,S.gC+1,S.out⟩ S2 ((kX x (cd N k)).flatMap (tr N f)) (wv (uf N f) x (cd N k) (S.gC+1)).2:=p2;have q2:S2.gC=S.gC+1+(wv (uf N f) x (cd N k) (S.gC+1)).2.length:=p2.gC;have eu:uf N (f+1) k S.gC=⟨x.kind,x.text,x.ord,(wv (uf N f) x (cd N k) (S.gC+1)).1.1,(wv (uf N f) x (cd N k) (S.gC+1)).1.2⟩::(wv (uf N f) x (cd N k) (S.gC+1)).2:=by rw[uf,hx]
  have hs:nv N (f+1) k S=some ((S.gC:Int),⟨S2.at',S2.gC,S2.out.set S.gC ⟨x.kind,x.text,x.ord,(wv (uf N f) x (cd N k) (S.gC+1)).1.1,(wv (uf N f) x (cd N k) (S.gC+1)).1.2⟩⟩):=by
   rw[nv,ga,hx];simp only;rw[AT (by omega),e2]
  refine⟨_,hs,?_⟩;rw[eu];have lc:S.gC<S2.out.length:=by rw[p2.lo];omega
  refine⟨by show S2.gC=_;rw[q2,abK];omega,p2.la,by show (S2.out.set _ _).length=_;rw[ah8];exact p2.lo,λw hw=>?_,λj hj=>?_,λj hj=>?_⟩
  .rw[aok] at hw;show gt S2.at' w=_;rw[p2.ot w λq=>hw (.inr q)];exact gs w λe=>hw (.inl e)
  .show (S2.out.set S.gC _)[j]?=_;rw[anO (by omega)];exact p2.lA j (by show j<S.gC+1;omega)
  .show (S2.out.set S.gC _)[S.gC+j]?=_;cases j with
   |zero=>
    show (S2.out.set S.gC _)[S.gC]?=_;rw[al5 lc];rfl
   |succ j=>
    rw[abK] at hj;rw[anO (by omega),apL,<-p2.new j (by omega)];show _=S2.out[S.gC+1+j]?
    congr 1;omega
theorem af3 (d:Vd N root)(all:∀v,IR N.length v->gf N root v)(hH:∀u v,Edge N u v->H v<H u)(hb:H root<N.length+1)(nd:(tr N (N.length+1) root).Nodup):KT N root=uf N (N.length+1) root 0:=by
 have len:=(VE d all hH hb).2 nd;have lu:=CB (N:=N) (N.length+1) root 0;obtain⟨S',e,p⟩:=ahV d hH (N.length+1) root (Tq N.length) (by simp[Tq]) (by simp[Tq]) (by show 0+_<=_;omega) d.rt hb nd λw hw=>by
  have ir:=VC d _ root d.rt w hw;obtain⟨a,ga⟩:=fj (l:=(Tq N.length).at') (by simp[Tq]) ir;refine⟨a,ga,?_⟩;have:=amk (ax ga);omega
 have full:N.length<=(tr N (N.length+1) root).length:=by
  obtain⟨r,sub⟩:=zH (oq N.length) λa ha=>Tw d hH d.rt hb (all a (by have:=(ic N.length).2 a ha;exact⟨this.1,this.2⟩));have l:=sub.length_eq;rw[aby,gD] at l;omega
 have:KT N root=S'.out:=by unfold KT;rw[e]
 rw[this];refine amv λj=>?_;by_cases hj:j<(uf N (N.length+1) root 0).length
 .have:=p.new j hj;rw[show (Tq N.length).gC+j=j from adr j] at this;exact this
 .rw[ahW (by rw[p.lo];omega),ahW (by omega)]
end Go.Sh
namespace Go.Sh
open Go Go.Ago Go.Proofs
def CX (lt:Int->Int->Option Bool):Nat->ε->ε->Option ε
 |0,_,_=>some []
 |n+1,l::ls,[]=>(CX lt n ls []).map (l::·)
 |n+1,[],r::rs=>(CX lt n [] rs).map (r::·)
 |n+1,l::ls,r::rs=>match lt r l with
  |none=>none
  |some true=>(CX lt n (l::ls) rs).map (r::·)
  |some false=>(CX lt n ls (r::rs)).map (l::·)
 |_+1,[],[]=>none
def Yi (lt:Int->Int->Option Bool):Nat->ε->Option ε
 |0,_=>none
 |k+1,xs=>if xs.length<2 then some xs else match Yi lt k (xs.take (xs.length/2)) with
  |none=>none
  |some a=>match Yi lt k (xs.drop (xs.length/2)) with
   |none=>none
   |some b=>CX lt xs.length a b
def Gw {lt:Int->Int->Option Bool}:∀{n:Nat} {a b r:ε},CX lt n a b=some r->r.length=n
 |0,a,b,r,he=>by rw[CX] at he;cases he;rfl
 |n+1,a,b,r,he=>by
  have fin:∀{o:Option ε} {x:Int},o.map (x::·)=some r->(∀r',o=some r'->r'.length=n)->r.length=n+1:=by
   intro o x he hr;cases o with
   |none=>cases he
   |some r'=>cases he;rw[abK,hr r' rfl]
  cases a with
  |nil=>
   cases b with
   |nil=>rw[CX] at he;cases he
   |cons y b=>rw[CX] at he;exact fin he λr'=>Gw
  |cons x a=>
   cases b with
   |nil=>rw[CX] at he;exact fin he λr'=>Gw
   |cons y b=>
    rw[CX] at he;split at he
    .cases he
    .exact fin he λr'=>Gw
    .exact fin he λr'=>Gw
def VF {lt:Int->Int->Option Bool}:∀{k:Nat} {xs r:ε},Yi lt k xs=some r->r.length=xs.length
 |0,xs,r,he=>by cases he
 |k+1,xs,r,he=>by
  rw[Yi] at he;split at he
  .cases he;rfl
  .split at he
   .cases he
   .split at he
    .cases he
    .exact Gw he
def tU {lt:Int->Int->Option Bool}:∀(n:Nat) (a b:ε),n=a.length+b.length->(∀x∈b,∀y∈a,(lt x y).isSome=true)->∃r,CX lt n a b=some r/\r.Perm (a++b)
 |0,a,b,hn,_=>by
  have ha:a=[]:=ac4 (by omega);have hb:b=[]:=ac4 (by omega);subst ha;subst hb;exact⟨[],rfl,apn _⟩
 |n+1,[],[],hn,_=>by simp at hn
 |n+1,l::ls,[],hn,hl=>by
  obtain⟨r,h1,h2⟩:=tU n ls [] (by simp at hn⊢;omega) (λx hx=>by cases hx);exact⟨l::r,by rw[CX,h1];rfl,h2.cons l⟩
 |n+1,[],r::rs,hn,hl=>by
  obtain⟨q,h1,h2⟩:=tU n [] rs (by simp at hn⊢;omega) (λx hx y hy=>by cases hy);exact⟨r::q,by rw[CX,h1];rfl,h2.cons r⟩
 |n+1,l::ls,r::rs,hn,hl=>by
  rw[CX];cases hq:lt r l with
  |none=>have:=hl r (by simp) l (by simp);rw[hq] at this;cases this
  |some b=>
   cases b with
   |true=>
    obtain⟨q,h1,h2⟩:=tU n (l::ls) rs (by simp at hn⊢;omega) (λx hx y hy=>hl x (by simp[hx]) y hy);exact⟨r::q,by rw[h1];rfl,(h2.cons r).trans List.perm_middle.symm⟩
   |false=>
    obtain⟨q,h1,h2⟩:=tU n ls (r::rs) (by simp at hn⊢;omega) (λx hx y hy=>hl x hx y (by simp[hy]));exact⟨l::q,by rw[h1];rfl,h2.cons l⟩
def CD {lt:Int->Int->Option Bool}:∀(k:Nat) (xs:ε),xs.length<k->(∀x∈xs,∀y∈xs,x≠y->(lt x y).isSome=true)->xs.Nodup->∃r,Yi lt k xs=some r/\r.Perm xs
 |0,xs,hk,_,_=>by omega
 |k+1,xs,hk,hl,hn=>by
  rw[Yi];by_cases c:xs.length<2
  .rw[By c];exact⟨xs,rfl,apn _⟩
  rw[AT c];have hsub1:List.Sublist (xs.take (xs.length/2)) xs:=List.take_sublist _ _;have hsub2:List.Sublist (xs.drop (xs.length/2)) xs:=List.drop_sublist _ _;obtain⟨a,a1,a2⟩:=CD k (xs.take (xs.length/2)) (by rw[ahT];omega) (λx hx y hy=>hl x (hsub1.subset hx) y (hsub1.subset hy)) (hn.sublist hsub1);obtain⟨b,b1,b2⟩:=CD k (xs.drop (xs.length/2)) (by rw[alx];omega) (λx hx y hy=>hl x (hsub2.subset hx) y (hsub2.subset hy)) (hn.sublist hsub2);rw[a1,b1];simp only;have hd:(xs.take (xs.length/2)++xs.drop (xs.length/2)).Nodup:=by rw[anM];exact hn
  obtain⟨r,r1,r2⟩:=tU (lt:=lt) xs.length a b (by rw[a2.length_eq,b2.length_eq,ahT,alx];omega) (λx hx y hy=>by
   have hx':=b2.mem_iff.1 hx;have hy':=a2.mem_iff.1 hy;refine hl x (hsub2.subset hx') y (hsub1.subset hy') λe=>?_;subst e;exact (List.nodup_append.1 hd).2.2 x hy' x hx' rfl)
  refine⟨r,r1,r2.trans ((a2.append b2).trans ?_)⟩;rw[anM]
section
variable {cv:Int->Int->Int}{m:Nat}
def LW (cv:Int->Int->Int)(m:Nat)(a b:Int):Option Bool:=if 0<=a/\a<(m:Int)/\0<=b/\b<(m:Int) then some (decide (cv a b<0)) else none
def Ff {a b:Int}(ha:0<=a/\a<(m:Int))(hb:0<=b/\b<(m:Int)):LW cv m a b=some (decide (cv a b<0)):=By ⟨ha.1,ha.2,hb.1,hb.2⟩
def Gx (so:StO cv m):∀(n:Nat) (a b r:ε),n=a.length+b.length->(∀x∈a++b,0<=x/\x<(m:Int))->(a++b).Nodup->a.Pairwise (λx y=>cv x y<0)->b.Pairwise (λx y=>cv x y<0)->CX (LW cv m) n a b=some r->r.Pairwise (λx y=>cv x y<0)
 |0,_,_,r,_,_,_,_,_,e=>by rw[CX] at e;cases e;exact .nil
 |n+1,[],[],_,hn,_,_,_,_,_=>by simp at hn
 |n+1,l::ls,[],r,hn,hr,nd,pa,pb,e=>by
  rw[CX] at e;cases q:CX (LW cv m) n ls [] with
  |none=>rw[q] at e;cases e
  |some t=>
   rw[q] at e;cases e;obtain⟨t',e',pm⟩:=tU (lt:=LW cv m) n ls [] (by simp at hn⊢;omega) λx hx=>by cases hx
   rw[q] at e';cases e';rw[afx] at pm;refine List.pairwise_cons.2 ⟨λy hy=>(List.pairwise_cons.1 pa).1 y (pm.mem_iff.1 hy),Gx so n ls [] t (by simp at hn⊢;omega) (λx hx=>hr x (by simp at hx⊢;exact .inr hx)) (by simp at nd⊢;exact nd.2) (List.pairwise_cons.1 pa).2 .nil q⟩
 |n+1,[],y::rs,r,hn,hr,nd,pa,pb,e=>by
  rw[CX] at e;cases q:CX (LW cv m) n [] rs with
  |none=>rw[q] at e;cases e
  |some t=>
   rw[q] at e;cases e;obtain⟨t',e',pm⟩:=tU (lt:=LW cv m) n [] rs (by simp at hn⊢;omega) λx _ z hz=>by cases hz
   rw[q] at e';cases e';rw[afk] at pm;refine List.pairwise_cons.2 ⟨λz hz=>(List.pairwise_cons.1 pb).1 z (pm.mem_iff.1 hz),Gx so n [] rs t (by simp at hn⊢;omega) (λx hx=>hr x (by simp at hx⊢;exact .inr hx)) (by simp at nd⊢;exact nd.2) .nil (List.pairwise_cons.1 pb).2 q⟩
 |n+1,l::ls,y::rs,r,hn,hr,nd,pa,pb,e=>by
  have rl:=hr l (by simp);have ry:=hr y (by simp);have isS:∀a b:Int,(0<=a/\a<(m:Int))->(0<=b/\b<(m:Int))->(LW cv m a b).isSome=true:=λ_ _ h1 h2=>by rw[Ff h1 h2];rfl
  rw[CX] at e;by_cases c:cv y l<0
  .have el:LW cv m y l=some true:=by rw[Ff ry rl,decide_eq_true c]
   rw[el] at e;simp only at e;cases q:CX (LW cv m) n (l::ls) rs with
   |none=>rw[q] at e;cases e
   |some t=>
    rw[q] at e;cases e;obtain⟨t',e',pm⟩:=tU (lt:=LW cv m) n (l::ls) rs (by simp at hn⊢;omega) λa ha b hb=>isS _ _ (hr a (OF _ (BY _ ha))) (hr b (acC _ hb));rw[q] at e';cases e';have pm2:(l::ls++y::rs).Perm (y::(l::ls++rs)):=al2;refine List.pairwise_cons.2 ⟨λz hz=>?_,Gx so n (l::ls) rs t (by simp at hn⊢;omega) (λx hx=>hr x (pm2.mem_iff.2 (BY _ hx))) (List.nodup_cons.1 (pm2.nodup_iff.1 nd)).2 pa (List.pairwise_cons.1 pb).2 q⟩;have hz:=pm.mem_iff.1 hz;have rz:=hr z (pm2.mem_iff.2 (BY _ hz));rcases List.mem_append.1 hz with h|h
    .rcases List.mem_cons.1 h with rfl|h
     .exact c
     .exact so.tr _ _ _ ry rl rz c ((List.pairwise_cons.1 pa).1 z h)
    .exact (List.pairwise_cons.1 pb).1 z h
  .have el:LW cv m y l=some false:=by rw[Ff ry rl,decide_eq_false c]
   rw[el] at e;simp only at e;have ne:l≠y:=λh=>(List.nodup_append.1 nd).2.2 l (by simp) y (by simp) h;have ly:cv l y<0:=(so.tot l y rl ry ne).resolve_right c;cases q:CX (LW cv m) n ls (y::rs) with
   |none=>rw[q] at e;cases e
   |some t=>
    rw[q] at e;cases e;obtain⟨t',e',pm⟩:=tU (lt:=LW cv m) n ls (y::rs) (by simp at hn⊢;omega) λa ha b hb=>isS _ _ (hr a (OF _ ha)) (hr b (acC _ (BY _ hb)));rw[q] at e';cases e';refine List.pairwise_cons.2 ⟨λz hz=>?_,Gx so n ls (y::rs) t (by simp at hn⊢;omega) (λx hx=>hr x (BY _ hx)) (List.nodup_cons.1 nd).2 (List.pairwise_cons.1 pa).2 pb q⟩;have hz:=pm.mem_iff.1 hz;have rz:=hr z (BY _ hz);rcases List.mem_append.1 hz with h|h
    .exact (List.pairwise_cons.1 pa).1 z h
    .rcases List.mem_cons.1 h with rfl|h
     .exact ly
     .exact so.tr _ _ _ rl ry rz ly ((List.pairwise_cons.1 pb).1 z h)
def Tx (so:StO cv m):∀(k:Nat) (xs r:ε),(∀x∈xs,0<=x/\x<(m:Int))->xs.Nodup->xs.length<k->Yi (LW cv m) k xs=some r->r.Pairwise (λx y=>cv x y<0)
 |0,xs,r,_,_,hk,_=>by omega
 |k+1,xs,r,hr,nd,hk,e=>by
  rw[Yi] at e;by_cases c:xs.length<2
  .rw[By c] at e;cases e
   match xs,c with
   |[],_=>exact .nil
   |[a],_=>exact List.pairwise_singleton _ _
  .rw[AT c] at e;have s1:List.Sublist (xs.take (xs.length/2)) xs:=List.take_sublist _ _;have s2:List.Sublist (xs.drop (xs.length/2)) xs:=List.drop_sublist _ _;obtain⟨a,a1,a2⟩:=CD (lt:=LW cv m) k (xs.take (xs.length/2)) (by rw[ahT];omega) (λa ha b hb _=>by rw[Ff (hr a (s1.subset ha)) (hr b (s1.subset hb))];rfl) (nd.sublist s1);obtain⟨b,b1,b2⟩:=CD (lt:=LW cv m) k (xs.drop (xs.length/2)) (by rw[alx];omega) (λa ha b hb _=>by rw[Ff (hr a (s2.subset ha)) (hr b (s2.subset hb))];rfl) (nd.sublist s2);rw[a1,b1] at e;simp only at e;have pm:(a++b).Perm xs:=(a2.append b2).trans (by rw[anM]);exact Gx so xs.length a b r (by rw[<-aby,pm.length_eq]) (λx hx=>hr x (pm.mem_iff.1 hx)) (pm.symm.nodup nd) (Tx so k _ a (λx hx=>hr x (s1.subset hx)) (nd.sublist s1) (by rw[ahT];omega) a1) (Tx so k _ b (λx hx=>hr x (s2.subset hx)) (nd.sublist s2) (by rw[alx];omega) b1) e
def af4 (so:StO cv m)(hm:m<50){k:Nat}(hk:m<k):Yi (LW cv m) k (iota m)=some (Gm cv m):=by
 have good:=λa ha=>(ic m).2 a ha;obtain⟨r,e,pm⟩:=CD (lt:=LW cv m) k (iota m) (by rw[gD];exact hk) (λa ha b hb _=>by rw[Ff (good a ha) (good b hb)];rfl) (oq m);have pw:=Tx so k (iota m) r good (oq m) (by rw[gD];exact hk) e;rw[e]
 congr 1
 refine MP (R:=λa b=>cv a b<0) (pm.trans (xN cv m).symm) pw (Fe hm so.lo) λa ha b hb h1 h2=>?_;have ra:=good a (pm.mem_iff.1 ha);have rb:=good b (pm.mem_iff.1 hb);exact so.ir a ra (so.tr a b a ra rb ra h1 h2)
end
end Go.Sh
namespace Go.Sh
open Go Go.Ago Go.Proofs
variable {N T T2:List aq}{P P2:ε}{root k k2 u v w:Int}{H:Int->Nat}{x y x' y':aq}
structure Jb (N T:List aq) (P:ε) (k:Int):Prop where
 len:T.length=P.length
 ix:pC T T.length
 nd:∀b x',gt T b=some x'->∃x,gt N (nth P b)=some x/\x'.kind=x.kind/\x'.text=x.text/\x'.ord=x.ord/\x'.keys.map (nth P)=x.keys/\x'.items.map (nth P)=x.items
 rc:∀u∈P,gf N k u
 P3:P[0]?=some k
 small:P.length<=cR N k
theorem Jb.all (C:Jb N T P k)(h:gf N k u):u∈P:=by
 induction h with
 |refl=>exact IN C.P3
 |step _ e ih=>
  rename_i p v _;obtain⟨b,hb⟩:=List.mem_iff_getElem?.1 ih;have bl:=aJ hb;obtain⟨x',hx'⟩:=fj (l:=T) (v:=(b:Int)) rfl ⟨by omega,by rw[C.len];omega⟩;obtain⟨x,hx,_,_,_,hk,hi⟩:=C.nd _ x' hx';rw[jX hb] at hx;obtain⟨z,hz,hm⟩:=e;rw[hx] at hz;cases hz;have go:∀c:Int,IR T.length c->nth P c∈P:=λc hc=>fG hc.1 (by rw[<-C.len];exact hc.2);have ix:=C.ix x' (ax hx');rcases hm with hm|hm
  .rw[<-hk] at hm;obtain⟨c,hc,rfl⟩:=List.mem_map.1 hm;exact go c (ix.1 c hc)
  .rw[<-hi] at hm;obtain⟨c,hc,rfl⟩:=List.mem_map.1 hm;exact go c (ix.2 c hc)
theorem Jb.nodup (C:Jb N T P k)(hI:pC N N.length)(hk:IR N.length k):P.Nodup:=by
 let R:ε:=open Classical in (iota N.length).filter λu=>decide (gf N k u)
 have nR:R.Nodup:=(oq _).sublist anS;have lR:R.length=cR N k:=by
  show List.length (List.filter _ _)=_;unfold cR iota;rw[<-an4,List.countP_map];rfl
 obtain⟨r,pm⟩:=zH (m:=P) nR λu hu=>C.all (by simpa using (List.mem_filter.1 hu).2);have l:=pm.length_eq;rw[aby,lR] at l;have s:=C.small;have:r=[]:=List.length_eq_zero_iff.1 (by omega);subst this;rw[afx] at pm;exact pm.symm.nodup nR
def Ot {P:ε}(h:u∈P):nth P (P.idxOf u:Nat)=u:=jX (by
 rw[aci (aps h),List.getElem_idxOf])
def VG {P:ε}(nd:P.Nodup){b:Nat}(hb:b<P.length):P.idxOf (nth P (b:Int))=b:=by
 rw[jX (aci hb)];exact nd.idxOf_getElem b hb
theorem Jb.iso (C:Jb N T P k)(d:Vd N root)(hk:IR N.length k):HA N k T λu=>(P.idxOf u:Int):=by
 have nd:=C.nodup d.ix hk;have back:∀b:Int,IR T.length b->((P.idxOf (nth P b):Nat):Int)=b:=λb hb=>by
  obtain⟨n,rfl⟩:∃n:Nat,b=n:=⟨b.toNat,by have:=hb.1;omega⟩;have:=hb.2;rw[C.len] at this;rw[VG nd (by omega)]
 refine⟨λu x hu hx=>?_,λu w hu hw e=>?_,λw hw=>?_,?_⟩
 .have hm:=C.all hu;have hl:=aps hm;obtain⟨x',hx'⟩:=fj (l:=T) (v:=((P.idxOf u:Nat):Int)) rfl ⟨by omega,by rw[C.len];omega⟩;refine⟨x',hx',?_⟩;obtain⟨y,hy,a1,a2,a3,a4,a5⟩:=C.nd _ x' hx';rw[Ot hm,hx] at hy;cases hy;have ix:=C.ix x' (ax hx');have inv:∀l:ε,(∀c∈l,IR T.length c)->l=(l.map (nth P)).map λu=>((P.idxOf u:Nat):Int):=λl h=>by
   rw[ao8];refine (aox l).symm.trans (apk λc hc=>(back c (h c hc)).symm)
  refine⟨a1,a2,a3,iota x.items.length,.refl _,λ_=>rfl,?_,?_⟩
  .have:=inv x'.items ix.2;rw[a5] at this;rw[this];exact (yB (ψ:=λu=>((P.idxOf u:Nat):Int)) x.items).symm
  .have h:=inv x'.keys ix.1;rw[a4] at h;by_cases q:x.kind=10
   .rw[By q,h,<-d.map (ax hx) q];exact (yB (ψ:=λu=>((P.idxOf u:Nat):Int)) x.keys).symm
   .rw[AT q,h,d.keys (ax hx) q];rfl
 .have e:P.idxOf u=P.idxOf w:=Int.ofNat.inj e;rw[<-Ot (C.all hu),e,Ot (C.all hw)]
 .have:nth P w∈P:=fG hw.1 (by rw[<-C.len];exact hw.2);exact⟨nth P w,C.rc _ this,back w hw⟩
 .rw[C.len];exact acY C.small (MM k)
def Jb.at' (C:Jb N T P k):P.idxOf k=0:=by
 have h:=C.P3;cases P with
 |nil=>cases h
 |cons a P=>cases h;simp
noncomputable def acA (cv:Int->Int->Int)(x y:aq)(p q:ε):Int:=
 if x.kind<y.kind then -1 else if y.kind<x.kind then 1 else if x.ord≠y.ord then (if y.ord then -1 else 1) else if vc x.kind x.text y.text≠0 then vc x.kind x.text y.text
 else match qj cv x y p q with
  |some c=>c
  |none=>if x.items.length<y.items.length then -1 else if y.items.length<x.items.length then 1 else 0
theorem QS {cv cv':Int->Int->Int}(hk:x'.kind=x.kind):∀{p q:ε},(∀a∈p,∀b∈q,(x.kind=10->cv' (nth x'.keys a) (nth y'.keys b)=cv (nth x.keys a) (nth y.keys b))/\cv' (nth x'.items a) (nth y'.items b)=cv (nth x.items a) (nth y.items b))->qj cv' x' y' p q=qj cv x y p q
 |[],_,_=>by unfold qj;rfl
 |_::_,[],_=>by unfold qj;rfl
 |a::p,b::q,h=>by
  obtain⟨h1,h2⟩:=h a (by simp) b (by simp);have ih:=QS hk (p:=p) (q:=q) λc hc d hd=>h c (by simp[hc]) d (by simp[hd]);unfold qj;rw[hk,h2,ih];by_cases k:x.kind=10
  .rw[h1 k]
  .simp only[k,false_and,afM]
def Lb {l m:ε}{ψ:Int->Int}(h:l.map ψ=m){a:Int}(h0:0<=a)(h1:a<m.length):nth m a=ψ (nth l a):=by
 subst h;rw[acL] at h1;exact I7 h0 h1
section
variable (K:KOr N H)(hb:∀u,H u<=N.length)(d:Vd N root)(g:GV N root)
include K hb d g
theorem Jb.ord (C:Jb N T P k)(kk:KN N k)(dT:Vd T 0){b:Int}(hx':gt T b=some x'):cd T b=cd N (nth P b):=by
 have hk:=kk.ir d.ix;have I:=C.iso d hk;have nd:=C.nodup d.ix hk;obtain⟨x,hx,a1,a2,a3,a4,a5⟩:=C.nd b x' hx';have hbi:=nF hx';have hbm:nth P b∈P:=fG hbi.1 (by rw[<-C.len];exact hbi.2);have hr:=C.rc _ hbm;obtain⟨H0,_,hH0⟩:=d.Hx;obtain⟨HT,bT,rT⟩:=dT.Hx;have kb:KN N (nth P b):=(d.down hH0 kk hr).1;have o1:cd T b=jy (gZ T) x':=by unfold cd;rw[hx']
 have o2:cd N (nth P b)=jy (gZ N) x:=by unfold cd;rw[hx]
 rw[o1,o2];have il:x'.items.length=x.items.length:=by rw[<-a5,acL]
 unfold jy;rw[a1,a3,il];by_cases c:x.kind=10/\x.ord=false
 .rw[By c,By c];have hkl:=d.map (ax hx) c.1;have kl:x'.keys.length=x.keys.length:=by rw[<-a4,acL]
  refine MH λp q p0 p1 q0 q1=>?_;have one:∀p:Int,0<=p->p<(x.items.length:Int)->∃c,nth x'.keys p=c/\IR T.length c/\KN T c/\nth x.keys p=nth P c/\((P.idxOf (nth P c):Nat):Int)=c/\gf N k (nth P c)/\KN N (nth P c):=λp p0 p1=>by
   have m:nth x'.keys p∈x'.keys:=fG p0 (by rw[kl,hkl];exact p1);have hc:=(C.ix x' (ax hx')).1 _ m;have hm:nth P (nth x'.keys p)∈P:=fG hc.1 (by rw[<-C.len];exact hc.2);have hr:=C.rc _ hm;refine⟨_,rfl,hc,.key (ax hx') m,Lb a4 p0 (by rw[hkl];exact p1),?_,hr,(d.down hH0 kk hr).1⟩;obtain⟨n,hn⟩:∃n:Nat,nth x'.keys p=n:=⟨(nth x'.keys p).toNat,by have:=hc.1;omega⟩;have:=hc.2;rw[hn,C.len] at this;rw[hn,VG nd (by omega)]
  obtain⟨e1,f1,i1,k1,n1,b1,r1,kn1⟩:=one p p0 p1;obtain⟨e2,f2,i2,k2,n2,b2,r2,kn2⟩:=one q q0 q1;rw[f1,f2,n1,n2];have tl:=I.len;have s1:gZ T e1 e2=kO T (N.length+1) e1 e2:=MI dT rT T.length _ _ (by omega) (by omega) e1 e2 k1 k2 (bT e1) (bT e2);have s2:=Oj K I (N.length+1) _ _ r1 r2 kn1 kn2 (by have:=hb (nth P e1);omega) (by have:=hb (nth P e2);omega);rw[s1];simp only[b1,b2] at s2;exact s2
 .rw[AT c,AT c]
theorem af5 (C:Jb N T P k)(C2:Jb N T2 P2 k2)(kk:KN N k)(kk2:KN N k2)(dT:Vd T 0)(dT2:Vd T2 0){i j:Int}(hx':gt T i=some x')(hy':gt T2 j=some y') :
  gZ N (nth P i) (nth P2 j)=acA (λa b=>gZ N (nth P a) (nth P2 b)) x' y' (cd T i) (cd T2 j):=by
 obtain⟨H0,_,hH0⟩:=d.Hx;have one:∀{T:List aq} {P:ε} {k i:Int} {x':aq},Jb N T P k->KN N k->gt T i=some x'->KN N (nth P i):=λ{T P k i x'} C kk hx'=>by
  have hi:=nF hx';exact (d.down hH0 kk (C.rc _ (fG hi.1 (by rw[<-C.len];exact hi.2)))).1
 rw[C.ord K hb d g kk dT hx',C2.ord K hb d g kk2 dT2 hy'];obtain⟨x,hx,a1,a2,a3,a4,a5⟩:=C.nd i x' hx';obtain⟨y,hy,b1,b2,b3,b4,b5⟩:=C2.nd j y' hy';have il:x'.items.length=x.items.length:=by rw[<-a5,acL]
 have jl:y'.items.length=y.items.length:=by rw[<-b5,acL]
 rw[Vv d (one C kk hx') (one C2 kk2 hy') hx hy];have o1:cd N (nth P i)=jy (gZ N) x:=by unfold cd;rw[hx]
 have o2:cd N (nth P2 j)=jy (gZ N) y:=by unfold cd;rw[hy]
 rw[o1,o2];unfold Fa acA;rw[a1,a2,a3,b1,b2,b3,il,jl];by_cases hkd:x.kind<y.kind
 .rw[By hkd,By hkd]
 by_cases hkd2:y.kind<x.kind
 .rw[AT hkd,AT hkd,By hkd2,By hkd2]
 have hke:x.kind=y.kind:=by omega
 have e:qj (λa b=>gZ N (nth P a) (nth P2 b)) x' y' (jy (gZ N) x) (jy (gZ N) y)=qj (gZ N) x y (jy (gZ N) x) (jy (gZ N) y):=QS a1 λa ha b hb'=>by
  have ra:=iH ha;have rb:=iH hb';refine⟨λk10=>?_,?_⟩
  .rw[Lb a4 ra.1 (by rw[d.map (ax hx) k10];exact ra.2),Lb b4 rb.1 (by rw[d.map (ax hy) (hke▸k10)];exact rb.2)]
  .rw[Lb a5 ra.1 ra.2,Lb b5 rb.1 rb.2]
 rw[e];rfl
end
end Go.Sh
namespace Go.Ago
open Go
variable {α β:Type}{h h' h0:ai}{L:List aZ}
def Z.alG (z:Z h0 h L)(i:Nat){b0 sz n:Nat}{e:κ}{new:δ}{f:Sl->M β}{Q:β->ai->Prop}(hi:L[i]?=some (.ar b0 [] e))(hn:n≠0)(hl:new.length=n*sz)(hb:n<=da)
  (q:∀b' h',Z h0 h' (.ar b' new e::L)->Wp (f ⟨some ⟨b',0,none⟩,n,0⟩) h' Q):Wp (sh (Ago.app false ⟨some ⟨b0,0,none⟩,0,1⟩ sz e n new) f) h Q:=by
 rw[ah];have l:LB h b0 [] e:=z.get i hi;refine⟨⟨some ⟨h.next,0,none⟩,n,0⟩,h.new e new,?_,q h.next _ (z.add (Fr.new z.wf) (o:=.ar h.next new e) LB.new (.inr (ais _)))⟩
 unfold Ago.app AW;simp only[apm,adr,api];rw[AT hn,AT (by simp[hb,hl])];simp[bu,l.get];omega
theorem Z.Jd (z:Z h0 h L)(i:Nat){b o n c sz:Nat}{e:κ}{cs:δ}{f:δ->M β}{Q:β->ai->Prop}(hi:L[i]?=some (.ar b cs e))(ho:o+n*sz<=cs.length)
  (q:Wp (f ((cs.drop o).take (n*sz))) h Q):Wp (sh (Jd ⟨some ⟨b,o,none⟩,n,c⟩ sz) f) h Q:=by
 rw[ah];have l:LB h b cs e:=z.get i hi;refine⟨_,h,?_,q⟩;unfold Ago.Jd;cases n with
 |zero=>simp
 |succ n=>simp only[bu,l.get];rw[By ho]
end Go.Ago
namespace Go.Sh
open Go Go.Ago Go.Proofs
variable {α β:Type}{h h' h0:ai}{L:List aZ}{Q:β->ai->Prop}
def ixO {b o n cap:Nat}{k:Int}{sz:Nat}(h1:0<=k)(h2:k<(n:Int)){f:Addr->M β}(q:Wp (f ⟨b,o+k.toNat*sz,none⟩) h Q):Wp (sh (mz ⟨some ⟨b,o,none⟩,n,cap⟩ k sz) f) h Q:=by
 rw[ah,zY];exact⟨_,rfl,h1,h2,q⟩
def VH {out:ε}{i:Nat}{v:Int}{res:ε}(hi:i<out.length):(out.set i v).take (i+1)++res=out.take i++v::res:=by
 rw[aov,al5 hi,List.take_set_of_le (abi _)];simp
section
variable {lt:Int->Int->Option Bool}{f:ξ}{K:Nat}
def ant (hless:∀{n:Nat} {h:ai} {P:List aZ} {x y:Int} {r:Bool},K<=n->lt x y=some r->Z h0 h (P++L)->Wp (oR n f x y) h λb h'=>b=r/\Z h0 h' (P++L)){bl br b m c0:Nat}{ls rs:ε}(hm:m<1073741824){P:List aZ} :
  ∀(n i p q:Nat) (out res:ε) (h:ai) (c2 c3:Nat),m-i+K<n->i<=m->p<=ls.length->q<=rs.length->out.length=m->CX lt (m-i) (ls.drop p) (rs.drop q)=some res ->
   Z h0 h (.ar b (out.map vi) al::.ar bl (ls.map vi) al::.ar br (rs.map vi) al::(P++L)) ->
   Wp (iZ n ⟨some ⟨b,0,none⟩,m,c0⟩ f ⟨some ⟨bl,p,none⟩,ls.length-p,c2⟩ ⟨some ⟨br,q,none⟩,rs.length-q,c3⟩ (m:Int) (i:Int)) h λ_ h'=>
    Z h0 h' (.ar b ((out.take i++res).map vi) al::.ar bl (ls.map vi) al::.ar br (rs.map vi) al::(P++L)):=by
 intro n
 induction n with
 |zero=>intro i p q out res h c2 c3 h1;omega
 |succ n ih=>
  intro i p q out res h c2 c3 h1 h2 hp hq ho hv z;rw[DE];unfold uZ;by_cases hi:i<m
  .rw[By (by simp;omega)];obtain⟨k,hk⟩:∃k,m-i=k+1:=⟨m-i-1,by omega⟩;have hk':m-(i+1)=k:=by omega
   rw[hk] at hv;have J1:∀{h:ai} (x:Int),ls[p]?=some x->Z h0 h (.ar b (out.map vi) al::.ar bl (ls.map vi) al::.ar br (rs.map vi) al::(P++L))->(CX lt k (ls.drop (p+1)) (rs.drop q)).map (x::·)=some res ->
     Wp (jM (bM.at n) n ⟨some ⟨b,0,none⟩,m,c0⟩ f ⟨some ⟨bl,p,none⟩,ls.length-p,c2⟩ ⟨some ⟨br,q,none⟩,rs.length-q,c3⟩ (i:Int) (m:Int) (i:Int)) h λ_ h'=>
      Z h0 h' (.ar b ((out.take i++res).map vi) al::.ar bl (ls.map vi) al::.ar br (rs.map vi) al::(P++L)):=by
    intro h x hx z hv;have hlt:=aJ hx;cases hr:CX lt k (ls.drop (p+1)) (rs.drop q) with
    |none=>rw[hr] at hv;cases hv
    |some r2=>
    rw[hr] at hv;cases hv;unfold jM;refine ixO (by omega) (by omega) ?_;refine z.ld 1 (l:=li) (x:=x) ?_ rfl (by show (ls.map vi)[p+0*1]?=_;rw[api,ak4,abh,hx];rfl) rfl;refine ixO (by omega) (by omega) ?_;rw[ah];refine sB (by decide) (by simp only;omega) (by simp only;omega) (by have l:LB h bl _ _:=z.get 1 rfl;simp[lO,l.get]) ?_;have e0:(0+(i:Int).toNat*1)=i:=(by omega);rw[e0];refine z.aip 0 (xs:=out) (enc:=vi) (v:=x) (by omega) (λa ha=>?_) λh3 z=>?_
    .simp only[ac1,acU] at ha;subst ha;exact z.nbO 0 1 rfl rfl (by omega)
    rw[wZ h2 (by omega)];have:=ih (i+1) (p+1) q (out.set i x) r2 h3 (c2-if c2=0 then 0 else (1:Int).toNat) c3 (by omega) (by omega) (by omega) hq (by simpa using ho) (by rw[hk'];exact hr) z;rw[VH (by omega)] at this;exact this
   have J0:∀{h:ai} (x:Int),rs[q]?=some x->Z h0 h (.ar b (out.map vi) al::.ar bl (ls.map vi) al::.ar br (rs.map vi) al::(P++L))->(CX lt k (ls.drop p) (rs.drop (q+1))).map (x::·)=some res ->
     Wp (jO (bM.at n) n ⟨some ⟨b,0,none⟩,m,c0⟩ f ⟨some ⟨bl,p,none⟩,ls.length-p,c2⟩ ⟨some ⟨br,q,none⟩,rs.length-q,c3⟩ (i:Int) (m:Int) (i:Int)) h λ_ h'=>
      Z h0 h' (.ar b ((out.take i++res).map vi) al::.ar bl (ls.map vi) al::.ar br (rs.map vi) al::(P++L)):=by
    intro h x hx z hv;have hlt:=aJ hx;cases hr:CX lt k (ls.drop p) (rs.drop (q+1)) with
    |none=>rw[hr] at hv;cases hv
    |some r2=>
    rw[hr] at hv;cases hv;unfold jO;refine ixO (by omega) (by omega) ?_;refine z.ld 2 (l:=li) (x:=x) ?_ rfl (by show (rs.map vi)[q+0*1]?=_;rw[api,ak4,abh,hx];rfl) rfl;refine ixO (by omega) (by omega) ?_;rw[ah];refine sB (by decide) (by simp only;omega) (by simp only;omega) (by have l:LB h br _ _:=z.get 2 rfl;simp[lO,l.get]) ?_;have e0:(0+(i:Int).toNat*1)=i:=(by omega);rw[e0];refine z.aip 0 (xs:=out) (enc:=vi) (v:=x) (by omega) (λa ha=>?_) λh3 z=>?_
    .simp only[ac1,acU] at ha;subst ha;exact z.nbO 0 2 rfl rfl (by omega)
    rw[wZ h2 (by omega)];have:=ih (i+1) p (q+1) (out.set i x) r2 h3 c2 (c3-if c3=0 then 0 else (1:Int).toNat) (by omega) (by omega) hp (by omega) (by simpa using ho) (by rw[hk'];exact hr) z;rw[VH (by omega)] at this;exact this
   by_cases c1:q=rs.length
   .rw[By (by simp;omega)];have e2:rs.drop q=[]:=abY (by omega);by_cases c2':p<ls.length
    .obtain⟨x,hx⟩:=eC c2';rw[drop_cons hx,e2,CX] at hv;exact J1 x hx z (by rw[e2];exact hv)
    .have e1:ls.drop p=[]:=abY (by omega);rw[e1,e2,CX] at hv;cases hv
   .rw[AT (by simp;omega)];obtain⟨y,hy⟩:=eC (l:=rs) (i:=q) (by omega);by_cases c2':p<ls.length
    .rw[By (by simp;omega)];obtain⟨x,hx⟩:=eC c2';rw[drop_cons hx,drop_cons hy,CX] at hv;refine ixO (by omega) (by omega) (ixO (by omega) (by omega) ?_);refine z.ld 2 (l:=li) (x:=y) ?_ rfl (by show (rs.map vi)[q+0*1]?=_;rw[api,ak4,abh,hy];rfl) rfl;refine z.ld 1 (l:=li) (x:=x) ?_ rfl (by show (ls.map vi)[p+0*1]?=_;rw[api,ak4,abh,hx];rfl) rfl;cases hl:lt y x with
     |none=>rw[hl] at hv;cases hv
     |some r=>
     rw[hl] at hv;rw[ah];refine (hless (P:=_::_::_::P) (n:=n) (by omega) hl z).mono λb' h3 hb=>?_;obtain⟨rfl,z⟩:=hb;cases b' with
     |true=>
      rw[AT (by simp)];exact J0 y hy z (by rw[drop_cons hx];exact hv)
     |false=>
      rw[By (by rfl)];exact J1 x hx z (by rw[drop_cons hy];exact hv)
    .rw[AT (by simp;omega)];have e1:ls.drop p=[]:=abY (by omega);rw[e1,drop_cons hy,CX] at hv;exact J0 y hy z (by rw[e1];exact hv)
  .rw[AT (by simp;omega),ag];have e:m-i=0:=by omega
   rw[e,CX] at hv;cases hv;have:out.take i=out:=al4 (by omega);rw[this,afx];exact z
def acB (hless:∀{n:Nat} {h:ai} {P:List aZ} {x y:Int} {r:Bool},K<=n->lt x y=some r->Z h0 h (P++L)->Wp (oR n f x y) h λb h'=>b=r/\Z h0 h' (P++L)) :
  ∀(k n:Nat) (xs r:ε) (b c0:Nat) (h:ai) (P:List aZ),xs.length<1073741824->xs.length+K+k+2<n->Yi lt k xs=some r->Z h0 h (.ar b (xs.map vi) al::(P++L)) ->
   Wp (nE n ⟨some ⟨b,0,none⟩,xs.length,c0⟩ f) h λ_ h'=>Z h0 h' (.ar b (r.map vi) al::(P++L)):=by
 intro k
 induction k with
 |zero=>intro n xs r b c0 h P _ _ hv;cases hv
 |succ k ih=>
  intro n xs r b c0 h P hB hn hv z;obtain⟨n,rfl⟩:∃m,n=m+1:=⟨n-1,by omega⟩;rw[Hm];unfold yU;rw[Yi] at hv;by_cases c1:xs.length<2
  .rw[By c1] at hv;cases hv;rw[By (by simp;omega),ag];exact z
  rw[AT c1] at hv;rw[AT (by simp;omega)];cases ha:Yi lt k (xs.take (xs.length/2)) with
  |none=>rw[ha] at hv;cases hv
  |some as'=>
  rw[ha] at hv;simp only at hv;cases hb:Yi lt k (xs.drop (xs.length/2)) with
  |none=>rw[hb] at hv;cases hv
  |some bs=>
  rw[hb] at hv;simp only at hv;have hal:=VF ha;have hbl:=VF hb;rw[ahT] at hal;rw[alx] at hbl;have hmid:IntKind.i64.wrap (((xs.length:Nat):Int).tdiv 2)=((xs.length/2:Nat):Int):=by
   have:((xs.length:Nat):Int).tdiv 2=((xs.length/2:Nat):Int):=rfl;rw[this];exact IntWalk.i64_in _ ⟨by omega,by omega⟩
  simp only[hmid];have hck:∀{γ:Type} {g:Unit->M γ} {h:ai} {R:γ->ai->Prop},Wp (g ()) h R->Wp (sh (pD (decide ((2:Int)≠0))) g) h R:=λq=>by
   rw[ah];exact⟨(),_,rfl,q⟩
  refine z.new λb0 h1 z _=>hck ?_;rw[ah];refine sB (by decide) (by omega) (by simp only;omega) (by have l:LB h1 b _ _:=z.get 1 rfl;simp[lO,l.get]) ?_;refine z.Jd 1 (b:=b) (o:=0) (n:=xs.length/2) rfl (by simp;omega) ?_;refine z.alG 0 rfl (by show xs.length/2≠0;omega) (by simp;omega) (by show xs.length/2<=da;unfold da;omega) λbl h2 z=>?_;refine z.new λb5 h3 z _=>hck ?_;rw[ah];refine sB (by omega) (by omega) (by simp only;omega) (by have l:LB h3 b _ _:=z.get 3 rfl;simp[lO,l.get]) ?_;have e5:(0+((xs.length/2:Nat):Int).toNat*1)=xs.length/2:=by omega
  refine z.Jd 3 (b:=b) (o:=0+((xs.length/2:Nat):Int).toNat*1) (n:=xs.length-xs.length/2) rfl (by rw[e5];simp;omega) ?_;refine z.alG 0 rfl (by show xs.length-xs.length/2≠0;omega) (by rw[e5];simp;omega) (by show xs.length-xs.length/2<=da;unfold da;omega) λbr h4 z=>?_;rw[e5] at z;have ez1:((xs.map vi).drop 0).take (xs.length/2*1)=(xs.take (xs.length/2)).map vi:=by simp[List.map_take]
  have ez2:((xs.map vi).drop (xs.length/2)).take ((xs.length-xs.length/2)*1)=(xs.drop (xs.length/2)).map vi:=by rw[<-List.map_drop,al4 (by simp)]
  rw[ez2] at z;have z:Z h0 h4 (.ar br ((xs.drop (xs.length/2)).map vi) al::.ar b5 [] al::.ar bl ((xs.take (xs.length/2)).map vi) al::.ar b0 [] al::.ar b (xs.map vi) al::(P++L)):=by
   rw[<-ez1];exact z
  have z:=Z.nK (pre:=[_,_,_,_,_]) z [2,0,4,1,3] (by simp only[abK,agt];decide);have l1:(xs.take (xs.length/2)).length=xs.length/2:=by rw[ahT];omega
  have l2:(xs.drop (xs.length/2)).length=xs.length-xs.length/2:=by rw[alx]
  rw[ah];have i1:=ih n (xs.take (xs.length/2)) as' bl 0 h4 (_::_::_::_::P) (by omega) (by omega) ha z;rw[l1] at i1;refine i1.mono λ_ h5 z=>?_;have z:=Z.nK (pre:=[_,_,_,_,_]) z [1,0,2,3,4] (by simp only[abK,agt];decide);rw[ah];have i2:=ih n (xs.drop (xs.length/2)) bs br 0 h5 (_::_::_::_::P) (by omega) (by omega) hb z;rw[l2] at i2;refine i2.mono λ_ h6 z=>?_;have z:=Z.nK (pre:=[_,_,_,_,_]) z [2,1,0,3,4] (by simp only[abK,agt];decide);rw[ah];have i3:=ant hless (bl:=bl) (br:=br) (b:=b) (m:=xs.length) (c0:=c0) (ls:=as') (rs:=bs) hB (P:=_::_::P) n 0 0 0 xs r h6 0 0 (by omega) (by omega) (by omega) (by omega) rfl (by simpa using hv) z;rw[hal,hbl,apB,apB,apa (by omega)] at i3;refine i3.mono λ_ h7 z=>?_;rw[ag];have z:=Z.nK (pre:=[_,_,_,_,_]) z [3,4,1,2,0] (by simp only[abK,agt];decide);exact z.drop.drop.drop.drop
end
end Go.Sh
namespace Go.Sh
open Go Go.Ago Go.Proofs
variable {α β:Type}{h h' h0:ai}{L L2 R M:List aZ}{N N2:List aq}{root:Int}{B:Nat}{Q:β->ai->Prop}{V:Int->Int->Int}
def p2 (i j:Int):ξ:=.agg #[vi i,vi j]
theorem alH (a b c d:Int):DO (p2 a b) (p2 c d)=true↔a=c/\b=d:=by
 constructor
 .grind [RI,p2]
 .rintro⟨rfl,rfl⟩;unfold p2;simp[DO,Bq,Fj,Q7]
def aoT (V:Int->Int->Int)(fn:ξ->Option ξ):Prop:=∀i j w,fn (p2 i j)=some w->w=vi (V i j)
def MO (V:Int->Int->Int):μ->List aZ->Prop
 |none,M=>M=[]
 |some mm,M=>∃fn k,M=[.map mm wX fn k]/\aoT V fn
def PQ (V:Int->Int->Int)(h0:ai)(t:X6)(N:List aq)(t2:X6)(N2:List aq)(mo:μ)(R L L2:List aZ)(h':ai):Prop:=
 ∃M' L' L2',MO V mo M'/\mu t N L'/\Ext L L'/\mu t2 N2 L2'/\Ext L2 L2'/\Z h0 h' (M'++(R++(L'++L2')))
theorem PQ.of {t t2}{mo}(hM:MO V mo M)(T:mu t N L)(T2:mu t2 N2 L2)(z:Z h0 h (M++(R++(L++L2)))):PQ V h0 t N t2 N2 mo R L L2 h:=⟨M,L,L2,hM,T,.refl,T2,.refl,z⟩
def PQ.up {t t2}{mo}{K K2}(e:Ext L K)(e2:Ext L2 K2)(p:PQ V h0 t N t2 N2 mo R K K2 h):PQ V h0 t N t2 N2 mo R L L2 h:=by
 obtain⟨M',L',L2',a,b,c,d,f,z⟩:=p;exact⟨M',L',L2',a,b,e.trans c,d,e2.trans f,z⟩
def CmQ (V:Int->Int->Int)(h0:ai)(t:X6)(N:List aq)(t2:X6)(N2:List aq)(mo:μ)(fc:Nat)(i j:Int):Prop:=
 ∀(n:Nat) (h:ai) (M R L L2:List aZ),fc<=n->MO V mo M->mu t N L->mu t2 N2 L2->Z h0 h (M++(R++(L++L2))) ->
  Wp ((cl n).gJ (some (ak t.tb)) i (some (ak t2.tb)) j mo) h λr h'=>r=V i j/\PQ V h0 t N t2 N2 mo R L L2 h'
theorem CmQ.key {t t2}{mo}{fc}{i j}(c:CmQ V h0 t N t2 N2 none fc i j){n}(hn:fc<=n)(hM:MO V mo M)(T:mu t N L)(T2:mu t2 N2 L2)(z:Z h0 h (M++(R++(L++L2)))) :
  Wp ((cl n).gJ (some (ak t.tb)) i (some (ak t2.tb)) j none) h λr h'=>r=V i j/\PQ V h0 t N t2 N2 mo R L L2 h':=by
 refine (c n h [] (M++R) L L2 hn rfl T T2 (by grind)).mono λ_ h' p=>?_;obtain⟨e,M',L',L2',rfl,b,c,d,f,z⟩:=p;exact⟨e,M,L',L2',hM,b,c,d,f,by grind⟩
section
variable {t t2:X6}{mo:μ}{fc:Nat}{x y:aq}
def DR (V:Int->Int->Int)(x y:aq)(p q:ε):Unit⊕Int->Prop
 |.inl _=>qj V x y p q=none
 |.inr c=>qj V x y p q=some c
theorem alI {a a'}{ks is ks' is'}(nd:IU h0 a x ks is)(nd':IU h0 a' y ks' is'){bp bq}{p q:ε}
  (hp:∀u∈p,0<=u/\u<x.items.length/\(x.kind=10->u<x.keys.length)) (hq:∀u∈q,0<=u/\u<y.items.length/\(x.kind=10->u<y.keys.length)) (hbig:p.length<1073741824)
  (hk:∀u∈x.keys,∀v∈y.keys,CmQ V h0 t N t2 N2 none fc u v) (hc:∀u∈x.items,∀v∈y.items,CmQ V h0 t N t2 N2 mo fc u v):∀n i h M R L L2 ,fc+(min p.length q.length-i)+1<=n->i<=min p.length q.length->aZ.ar bp (p.map vi) al∈L->aZ.ar bq (q.map vi) al∈L2->MO V mo M->mu t N L->mu t2 N2 L2->Z h0 h (M++(R++(L++L2))) ->
  Wp ((cl n).ij (some (ak t.tb)) (some (ak t2.tb)) mo (some a) (some a') (arr bp p.length) (arr bq q.length) ((min p.length q.length:Nat):Int) (i:Int)) h λr h'=>DR V x y (p.drop i) (q.drop i) r/\PQ V h0 t N t2 N2 mo R L L2 h':=by
 intro n
 induction n with
 |zero=>intro i h M R L L2 h1;omega
 |succ n ih=>
  intro i h M R L L2 h1 h2 mp mq hM T T2 z;show Wp (lM (cl n) n (some (ak t.tb)) (some (ak t2.tb)) mo (some a) (some a') (arr bp p.length) (arr bq q.length) ((min p.length q.length:Nat):Int) (i:Int)) h _;unfold lM;by_cases hi:i<min p.length q.length
  .rw[By (by grind)];obtain⟨u,hu⟩:=nf (l:=p) (v:=(i:Int)) (by omega) (by omega);obtain⟨v,hv⟩:=nf (l:=q) (v:=(i:Int)) (by omega) (by omega);obtain⟨u1,u2,u3⟩:=hp u (ax hu);obtain⟨v1,v2,v3⟩:=hq v (ax hv);obtain⟨iu,hiu⟩:=nf u1 u2;obtain⟨iv,hiv⟩:=nf v1 v2;have nu:nth x.items u=iu:=by unfold nth;rw[hiu];rfl
   have nv':nth y.items v=iv:=by unfold nth;rw[hiv];rfl
   have ds:qj V x y (p.drop i) (q.drop i)=if x.kind=10/\V (nth x.keys u) (nth y.keys v)≠0 then some (V (nth x.keys u) (nth y.keys v)) else if V iu iv≠0 then some (V iu iv) else qj V x y (p.drop (i+1)) (q.drop (i+1)):=by
    rw[Gr hu,Gr hv,qj,nu,nv']
   have mL:∀{M R L L2:List aZ} {o:aZ},o∈L->o∈M++(R++(L++L2)):=λh=>OF _ (OF _ (acC _ h));have mL2:∀{M R L L2:List aZ} {o:aZ},o∈L2->o∈M++(R++(L++L2)):=λh=>OF _ (OF _ (OF _ h));have J0:∀(h:ai) (M L L2:List aZ),¬(x.kind=10/\V (nth x.keys u) (nth y.keys v)≠0)->aZ.ar bp (p.map vi) al∈L->aZ.ar bq (q.map vi) al∈L2->MO V mo M->mu t N L->mu t2 N2 L2->Z h0 h (M++(R++(L++L2))) ->
     Wp (eY (cl n) n (some (ak t.tb)) (some (ak t2.tb)) mo (some a) (some a') (arr bp p.length) (arr bq q.length) (i:Int) ((min p.length q.length:Nat):Int) (i:Int)) h λr h'=>DR V x y (p.drop i) (q.drop i) r/\PQ V h0 t N t2 N2 mo R L L2 h':=by
    intro h M L L2 kz mp mq hM T T2 z;rw[AT kz] at ds;unfold eY;refine cA (GF (by omega) (by omega) (cA (GF (by omega) (by omega) ?_)));have ndz:=nd.fr z.fr;have ndz':=nd'.fr z.fr;refine ndz.Lq ?_;refine z.GG (mL mp) (Cy hu) rfl ?_;refine ndz.items.ix u1 (aB hiu).2 λ_ _ c1=>c1.sL (l:=li) rfl rfl ?_;refine ndz'.Lq ?_;refine z.GG (mL2 mq) (Cy hv) rfl ?_;refine ndz'.items.ix v1 (aB hiv).2 λ_ _ c1=>c1.sL (l:=li) rfl rfl ?_;rw[ah];refine (hc iu (ax hiu) iv (ax hiv) n h M R L L2 (by omega) hM T T2 z).mono λr h' hr=>?_;obtain⟨rfl,hr⟩:=hr;by_cases h0':V iu iv=0
    .rw[AT (by grind)];obtain⟨M',L',L2',hM',T',E',T2',E2',z'⟩:=hr;rw[wZ (by omega) hbig];refine (ih (i+1) h' M' R L' L2' (by omega) (by omega) (E' _ _ mp) (E2' _ _ mq) hM' T' T2' z').mono λr h2 hr=>⟨?_,hr.2.up E' E2'⟩;have:=hr.1;rw[AT (by simpa using h0')] at ds;cases r<;>(unfold DR at this⊢;rw[ds];exact this)
    .rw[By (by grind)];refine ag.2 ⟨?_,hr⟩;show qj V x y (p.drop i) (q.drop i)=some (V iu iv);rw[ds,By h0']
   refine cA ?_;refine (nd.fr z.fr).Q0 ?_;by_cases hkk:x.kind=10
   .rw[By (by grind)];refine cA (GF (by omega) (by omega) (cA (GF (by omega) (by omega) ?_)));have ndz:=nd.fr z.fr;have ndz':=nd'.fr z.fr;obtain⟨ku,hku⟩:=nf u1 (u3 hkk);obtain⟨kv,hkv⟩:=nf v1 (v3 hkk);have n1:nth x.keys u=ku:=(by unfold nth;rw[hku];rfl);have n2:nth y.keys v=kv:=(by unfold nth;rw[hkv];rfl);rw[n1,n2] at ds J0;refine ndz.Lp ?_;refine z.GG (mL mp) (Cy hu) rfl ?_;refine ndz.keys.ix u1 (aB hku).2 λ_ _ c1=>c1.sL (l:=li) rfl rfl ?_;refine ndz'.Lp ?_;refine z.GG (mL2 mq) (Cy hv) rfl ?_;refine ndz'.keys.ix v1 (aB hkv).2 λ_ _ c1=>c1.sL (l:=li) rfl rfl ?_;rw[ah];refine ((hk ku (ax hku) kv (ax hkv)).key (by omega) hM T T2 z).mono λr h' hr=>?_;obtain⟨rfl,hr⟩:=hr;by_cases h0':V ku kv=0
    .rw[AT (by grind)];obtain⟨M',L',L2',hM',T',E',T2',E2',z'⟩:=hr;exact (J0 h' M' L' L2' (λq=>q.2 h0') (E' _ _ mp) (E2' _ _ mq) hM' T' T2' z').mono λ_ h2 hr=>⟨hr.1,hr.2.up E' E2'⟩
    .rw[By (by grind)];refine ag.2 ⟨?_,hr⟩;show qj V x y (p.drop i) (q.drop i)=some (V ku kv);rw[ds,By ⟨hkk,h0'⟩]
   .rw[AT (by grind)];exact J0 h M L L2 (λq=>hkk q.1) mp mq hM T T2 z
  .rw[AT (by grind)];refine ag.2 ⟨?_,.of hM T T2 z⟩;show qj V x y (p.drop i) (q.drop i)=none;by_cases e:p.length<=i
   .rw[abY e];unfold qj;rfl
   .rw[show q.drop i=[] from abY (by omega)];cases p.drop i<;>(unfold qj;rfl)
theorem aoU {fe}{k}{m}(e:HB h0 t N fe k m){n}(hn:fe<=n)(T:mu t N L)(z:Z h0 h (M++(R++(L++L2)))) :
  Wp ((cl n).cS (some (ak t.tb)) k) h λr h'=>∃b L',r=arr b m/\aZ.ar b ((cd N k).map vi) al∈L'/\mu t N L'/\Ext L L'/\Z h0 h' (M++(R++(L'++L2))):=by
 have pm:∀X:List aZ,(M++(R++(X++L2))).Perm ((M++(R++L2))++X):=λX=>by
  grind [List.append_assoc,List.Perm.append_left,List.perm_append_comm]
 refine (e n h (M++(R++L2)) L hn T (z.perm (pm L))).mono λr h' hr=>?_;obtain⟨b,L',a1,a2,a3,a4,z⟩:=hr;exact⟨b,L',a1,a2,a3,a4,z.perm (pm L').symm⟩
theorem anu {fe}{k}{m}(e:HB h0 t2 N2 fe k m){n}(hn:fe<=n)(T:mu t2 N2 L2)(z:Z h0 h (M++(R++(L++L2)))) :
  Wp ((cl n).cS (some (ak t2.tb)) k) h λr h'=>∃b L',r=arr b m/\aZ.ar b ((cd N2 k).map vi) al∈L'/\mu t2 N2 L'/\Ext L2 L'/\Z h0 h' (M++(R++(L++L'))):=by
 have pm:∀X:List aZ,(M++(R++(L++X)))=((M++(R++L))++X):=λX=>by simp
 rw[pm] at z;refine (e n h (M++(R++L)) L2 hn T z).mono λr h' hr=>?_
 grind
theorem alJ (G:ou h0 t.s N)(G2:ou h0 t2.s N2)(hB:Bd N B)(hB2:Bd N2 B)(ht:∀x∈N,x.text.size<=65536)(ht2:∀x∈N2,x.text.size<=65536)(hm:∀x∈N,x.kind=10->x.keys.length=x.items.length)(hm2:∀x∈N2,x.kind=10->x.keys.length=x.items.length)
  {fe} {i j} (hx:gt N i=some x) (hy:gt N2 j=some y) (hfe:65600<=fe) (hfc:fc+B<=fe) (ei:HB h0 t N fe i x.items.length) (ej:HB h0 t2 N2 fe j y.items.length)
  (hk:∀u∈x.keys,∀v∈y.keys,CmQ V h0 t N t2 N2 none fc u v) (hc:∀u∈x.items,∀v∈y.items,CmQ V h0 t N t2 N2 mo fc u v) (hV:V i j=acA V x y (cd N i) (cd N2 j)):CmQ V h0 t N t2 N2 mo (fe+10) i j:=by
 intro n h M R L L2 hn hM T T2 z;have hBB:=hB.2.1;obtain⟨n,rfl⟩:∃n',n=n'+2:=⟨n-2,by omega⟩;show Wp (oP (cl (n+1)) (n+1) (some (ak t.tb)) i (some (ak t2.tb)) j mo) h _;unfold oP;have main:∀{h:ai} {M:List aZ},MO V mo M->Z h0 h (M++(R++(L++L2)))->Wp (qe (cl n) n (some (ak t.tb)) i (some (ak t2.tb)) j mo) h λr h'=>r=V i j/\PQ V h0 t N t2 N2 mo R L L2 h':=by
  intro h M hM z;have fin:PQ V h0 t N t2 N2 mo R L L2 h:=.of hM T T2 z;rw[hV];unfold acA;unfold qe;obtain⟨C,TC⟩:=id T;obtain⟨C2,TC2⟩:=id T2;refine cA (cA ?_);refine z.GG (x:=t.s) (OF _ (OF _ (acC _ TC.MN))) rfl rfl ?_;refine G.P3 z (aB hx).1 (aB hx).2 λa ks is nd=>?_;refine z.GG (x:=t2.s) (OF _ (OF _ (OF _ TC2.MN))) rfl rfl ?_;refine G2.P3 z (aB hy).1 (aB hy).2 λa' ks' is' nd'=>?_;have ndz:=nd.fr z.fr;have ndz':=nd'.fr z.fr;refine cA (cA (ndz.Q0 (ndz'.Q0 ?_)));by_cases c1:x.kind<y.kind
  .rw[By (by grind),By c1];exact ag.2 ⟨rfl,fin⟩
  rw[AT (by grind),AT c1];refine cA (cA (ndz.Q0 (ndz'.Q0 ?_)));by_cases c2:y.kind<x.kind
  .rw[By (by grind),By c2];exact ag.2 ⟨rfl,fin⟩
  rw[AT (by grind),AT c2];have hkd:x.kind=y.kind:=by omega
  refine cA (cA (ndz.ldO (ndz'.ldO ?_)));by_cases c3:x.ord=y.ord
  .rw[AT (by grind),AT (by simpa using c3)];refine cA (cA (cA (ndz.Q0 (ndz.Q8 (ndz'.Q8 ?_)))));have hsx:=ht x (ax hx);have hsy:=ht2 y (ax hy);refine z.call (Qn hsx hsy (by omega) z.wf) λr h1 hr f1 z1=>?_;subst hr;by_cases c4:vc x.kind x.text y.text=0
   .rw[AT (by grind),AT (by simpa using c4)];rw[ah];refine (aoU ei (by omega) T z1).mono λr h2 hr=>?_;obtain⟨bp,L1,rfl,mp,T1,E1,z2⟩:=hr;rw[ah];refine (anu ej (by omega) T2 z2).mono λr h3 hr=>?_;obtain⟨bq,L3,rfl,mq,T3,E3,z3⟩:=hr;have lp:=tT hx;have lq:=tT hy;have hbx:=(hB.2.2 x (ax hx)).2;have hby:=(hB2.2.2 y (ax hy)).2;have em:(if ((arr bq y.items.length).len:Int)<((arr bp x.items.length).len:Int) then ((arr bq y.items.length).len:Int) else ((arr bp x.items.length).len:Int))=((min (cd N i).length (cd N2 j).length:Nat):Int):=by
     rw[lp,lq];show (if (y.items.length:Int)<(x.items.length:Int) then (y.items.length:Int) else (x.items.length:Int))=_
     grind
    rw[em];rw[ah];have ox:cd N i=jy (gZ N) x:=(by grind [cd]);have oy:cd N2 j=jy (gZ N2) y:=(by grind [cd]);have key:=alI nd nd' (λu hu=>by
      rw[ox] at hu;have:=iH hu
      grind [ax]) (λu hu=>by
      rw[oy] at hu;have:=iH hu
      grind [ax]) (by omega) hk hc n 0 h3 M R L1 L3 (by omega) (by omega) mp mq hM T1 T3 z3
    rw[lp,lq] at key;rw[lp,lq];refine key.mono λr h4 hr=>?_;obtain⟨hd,hr⟩:=hr;have hr:=hr.up E1 E3;rw[aiq,aiq] at hd;cases r with
    |inr c=>
     unfold DR at hd;rw[hd];exact ag.2 ⟨rfl,hr⟩
    |inl _=>
     unfold DR at hd;rw[hd];show Wp (if decide ((x.items.length:Int)<(y.items.length:Int))=true then AI (-1) else if decide ((y.items.length:Int)<(x.items.length:Int))=true then AI 1 else AI 0) h4 _;simp only[aca,Int.ofNat_lt];split
     .exact ag.2 ⟨rfl,hr⟩
     .split<;>exact ag.2 ⟨rfl,hr⟩
   .rw[By (by grind),By (by simpa using c4)];exact ag.2 ⟨rfl,.of hM T T2 z1⟩
  .rw[By (by grind),By (by simpa using c3)];refine cA (ndz'.ldO ?_);cases y.ord<;>exact ag.2 ⟨rfl,fin⟩
 cases mo with
 |none=>
  rw[ah];refine⟨((false,0):Bool×Int),h,rfl,?_⟩;show Wp (sh ((cl (n+1)).oh (some (ak t.tb)) i (some (ak t2.tb)) j none) _) h _;rw[ah];exact (main hM z).mono λr h' hr=>ag.2 hr
 |some mm=>
  obtain⟨fn,k,rfl,hI⟩:=hM;refine z.jz 0 (k:=p2 i j) rfl (λv hv=>?_) λ_=>?_
  .obtain rfl:=hI _ _ _ hv;exact⟨V i j,rfl,ag.2 ⟨rfl,.of ⟨fn,k,rfl,hI⟩ T T2 z⟩⟩
  .show Wp (sh ((cl (n+1)).oh (some (ak t.tb)) i (some (ak t2.tb)) j (some mm)) _) h _;rw[ah];refine (main ⟨fn,k,rfl,hI⟩ z).mono λr h' hr=>?_;obtain⟨er,M',L',L2',⟨fn',k',rfl,hI'⟩,T',E',T2',E2',z'⟩:=hr;rw[By (by rfl)];refine z'.o8 0 (k:=p2 i j) rfl λh2 n2 z2=>ag.2 ⟨er,_,L',L2',⟨_,_,rfl,λa b w hvw=>?_⟩,T',E',T2',E2',z2⟩;unfold Ek at hvw;split at hvw
   .rename_i e;obtain⟨rfl,rfl⟩:=(alH _ _ _ _).1 e;cases hvw;rw[er]
   .exact hI' _ _ _ hvw
end
def IJ (fe B f:Nat):Nat:=fe+f*(B+20)+20
theorem af6 {t t2}(G:ou h0 t.s N)(G2:ou h0 t2.s N2)(hB:Bd N B)(hB2:Bd N2 B)(ht:∀x∈N,x.text.size<=65536)(ht2:∀x∈N2,x.text.size<=65536)(hm:∀x∈N,x.kind=10->x.keys.length=x.items.length)(hm2:∀x∈N2,x.kind=10->x.keys.length=x.items.length)
  (hI:pC N N.length) (hI2:pC N2 N2.length) {fe} (hfe:65600<=fe) (ei:∀i x,gt N i=some x->HB h0 t N fe i x.items.length) (ej:∀i x,gt N2 i=some x->HB h0 t2 N2 fe i x.items.length) {H:Int->Nat} (hH:∀u v,Edge N u v->H v<H u) (hV:∀i j x y,gt N i=some x->gt N2 j=some y->V i j=acA V x y (cd N i) (cd N2 j)) :
  ∀f mo i j ,IR N.length i->IR N2.length j->H i<f->CmQ V h0 t N t2 N2 mo (IJ fe B f) i j:=by
 intro f
 induction f with
 |zero=>grind
 |succ f ih=>
  intro mo i j hi hj hf;obtain⟨x,hx⟩:=fj rfl hi;obtain⟨y,hy⟩:=fj rfl hj;have h1:IJ fe B f+B<=IJ fe B f+B+10:=by omega
  have e:IJ fe B (f+1)=(IJ fe B f+B+10)+10:=by grind [IJ,Nat.add_mul]
  have hle:fe<=IJ fe B f+B+10:=by grind [IJ]
  rw[e];have mono:∀{t:X6} {N:List aq} {k:Int} {m:Nat},HB h0 t N fe k m->HB h0 t N (IJ fe B f+B+10) k m:=λe n h R L hn=>e n h R L (by omega);refine alJ G G2 hB hB2 ht ht2 hm hm2 hx hy (by omega) (by omega) (mono (ei i x hx)) (mono (ej j y hy)) (λu hu v hv=>?_) (λu hu v hv=>?_) (hV i j x y hx hy)
  .exact ih none u v ((hI x (ax hx)).1 u hu) ((hI2 y (ax hy)).1 v hv) (by have:=hH i u ⟨x,hx,.inl hu⟩;omega)
  .exact ih mo u v ((hI x (ax hx)).2 u hu) ((hI2 y (ax hy)).2 v hv) (by have:=hH i u ⟨x,hx,.inr hu⟩;omega)
end Go.Sh
namespace Go.Sh
open Go Go.Ago Go.Proofs
variable {α β:Type}{h h' h0:ai}{L R J:List aZ}{N:List aq}{root:Int}{B:Nat}{Q:β->ai->Prop}
theorem Ou (z:Z h0 h L){i b len cap sz g o}{e}{cs vs cs'}(hi:L[i]?=some (.sl ⟨some ⟨b,0,none⟩,len,cap⟩ sz e cs g))(hl:len≠0)(hc:aM cs o vs=cs')(ho:o+vs.length<=cs.length)(hs:vs.all fk=true) :
  Wp (rN ⟨b,o,none⟩ vs) h λ_ h'=>Z h0 h' (L.set i (.sl ⟨some ⟨b,0,none⟩,len,cap⟩ sz e cs' g)):=by
 have os:uq h ⟨some ⟨b,0,none⟩,len,cap⟩ sz e cs g:=z.get i hi;obtain⟨b2,base,e1,e2,hg⟩:=os.ar hl;cases e1;rw[Zg];refine⟨cs,g,base,e,e2,hg,ho,hs,?_⟩;have hlen:(aM cs o vs).length=cs.length:=by grind [aM]
 refine z.wj hi hg (Fr.wj z.wf hg e2) ?_ (.inl rfl);rw[<-hc];exact os.wj hlen hl rfl e2
structure KC where
 x2:Nat
 x0:Nat
 x3:Nat
abbrev KC.fn (c:KC):ξ:=Value.func (Fn.func vl) #[] #[Value.pointer (some (ak c.x2)),Value.pointer (some (ak c.x0)),Value.pointer (some (ak c.x3))]
def KQ (c:KC)(s:Sl)(root:Int)(o:Sl)(O:List aH)(g:Nat):List aZ:=[.ar c.x2 [aA o,vi 0] aj,.sl o 5 av (O.flatMap aH.enc) g,.ar c.x0 [aA s,vi root] aj,.ar c.x3 [c.fn] iK]
structure NSz (r:aH):Prop where
 k:r.kl.length<=80
 i:r.il.length<=80
 t:r.text.size<=101
def KSt (h0:ai)(c:KC)(s:Sl)(root:Int)(h:ai)(T:List aq)(P:ε)(R J:List aZ):Prop:=∃o O g,O.map aH.v=T/\T.length=P.length/\(∀r∈O,RO r J/\NSz r)/\Z h0 h (KQ c s root o O g++(R++J))
def Dn (N:List aq)(P:ε)(b:Int)(x':aq):Prop:=∃x,gt N (nth P b)=some x/\x'.kind=x.kind/\x'.text=x.text/\x'.ord=x.ord/\x'.keys.map (nth P)=x.keys/\x'.items.map (nth P)=x.items/\∀c,c∈x'.keys\/c∈x'.items->IR P.length c
theorem VI {P Q:ε}{c:Int}(h:IR P.length c):nth (P++Q) c=nth P c:=by
 obtain⟨h0,h1⟩:=h;unfold nth gt;rw[By h0,By h0,ahQ (by omega)]
def Gy {P Q:ε}{l:ε}(h:∀c∈l,IR P.length c):l.map (nth (P++Q))=l.map (nth P):=apk λc hc=>VI (h c hc)
def Dn.ext {P Q:ε}{b:Int}{x':aq}(h:Dn N P b x')(hb:IR P.length b):Dn N (P++Q) b x':=by
 obtain⟨x,h1,h2,h3,h4,h5,h6,h7⟩:=h;refine⟨x,by rw[VI hb];exact h1,h2,h3,h4,by rw[Gy λc hc=>h7 c (.inl hc)];exact h5,by rw[Gy λc hc=>h7 c (.inr hc)];exact h6,λc hc=>?_⟩;have:=h7 c hc;exact⟨this.1,by rw[aby];have:=this.2;omega⟩
structure Kp (N:List aq) (T:List aq) (P:ε) (T':List aq) (P' Q:ε):Prop where
 p:P'=P++Q
 l:T'.length=P'.length
 lA:∀b,b<P.length->T'[b]?=T[b]?
 new:∀(b:Nat) x',P.length<=b->T'[b]?=some x'->Dn N P' b x'
def Kp.refl {T:List aq}{P:ε}(h:T.length=P.length):Kp N T P T P []:=⟨by simp,h,λ_ _=>rfl,λb x' hb hx=>by
 have:=(List.getElem?_eq_some_iff.1 hx).1;omega⟩
theorem Kp.trans {T T1 T2:List aq}{P P1 P2 Q Q1:ε}(a:Kp N T P T1 P1 Q)(b:Kp N T1 P1 T2 P2 Q1):Kp N T P T2 P2 (Q++Q1):=by
 have p1:=a.p;have p2:=b.p;have l1:P1.length=P.length+Q.length:=by rw[p1,aby]
 refine⟨by rw[p2,p1,acX],b.l,λj hj=>by rw[b.lA j (by omega),a.lA j hj],λj x' hj hx=>?_⟩;by_cases h:j<P1.length
 .rw[b.lA j h] at hx;rw[p2];exact (a.new j x' hj hx).ext ⟨by omega,by omega⟩
 .exact b.new j x' (by omega) hx
section
variable {c:KC}{s:Sl}
def fuY (f:Nat):Nat:=f*200+100
def KyT (h0:ai)(c:KC)(s:Sl)(root:Int)(N:List aq)(H:Int->Nat)(f:Nat):Prop:=∀(n:Nat) (h:ai) (k:Int) (T:List aq) (P:ε) (R J:List aZ),fuY f<=n->KN N k->H k<f->P.length+cR N k<=4000->KSt h0 c s root h T P R J ->
 Wp (pU n k (ak c.x2) (ak c.x0) (ak c.x3)) h λr h'=>r=(P.length:Int)/\∃T' P' Q J',Kp N T P T' P' (k::Q)/\(k::Q).length<=cR N k/\(∀u∈Q,gf N k u)/\KSt h0 c s root h' T' P' R J'
def tV {K X J:List aZ}{o}:(K++((o::X)++J)).Perm (o::(K++(X++J))):=al2
theorem QT {H}{f}(V:KyT h0 c s root N H f){n}{T}{P}{v}{sl}{kl}{g}(hn:fuY f<=n)(kv:KN N v)(hH:H v<f)(hm:P.length+cR N v<=4000)(hkl:kl.length<=80)(st:KSt h0 c s root h T P (.sl sl 1 al (kl.map vi) g::R) J){γ}{F:Sl->M γ}{Q}
  (q:∀h' T' P' Q' J' sl' g',Kp N T P T' P' (v::Q')->(v::Q').length<=cR N v->(∀u∈Q',gf N v u)->KSt h0 c s root h' T' P' (.sl sl' 1 al ((kl++[(P.length:Int)]).map vi) g'::R) J'->Wp (F sl') h' Q) :
  Wp (sh (dL .raw (ak c.x3)) λ(x2:ξ)=>sh (lE (bK.at n) n x2 v) λx3=>sh (Ago.app false sl 1 al 1 [vi x3]) F) h Q:=by
 obtain⟨o,O,g0,h1,hl,h2,z⟩:=id st;refine z.ld 3 ?_;rw[ah];unfold lE;rw[By (by rfl),ah];refine iA (c:=((ak c.x2,ak c.x0,ak c.x3):Addr×Addr×Addr)) rfl ?_;refine (V n h v T P _ J hn kv hH hm st).mono λr h' hr=>?_;obtain⟨rfl,T',P',Q',J',kp,ql,qr,o',O',g',h1',hl',h2',z'⟩:=hr;have z1:=z'.perm tV;have hlen:sl.len=kl.length:=by
  have o:uq h' sl 1 al (kl.map vi) g:=z1.get 0 rfl;have:=o.1;grind
 refine Z.Oc z1 0 rfl (by decide) rfl (by grind [da]) λs' h2 g2 hs' z2 _=>?_;refine q h2 T' P' Q' J' s' g2 kp ql qr ⟨o',O',g',h1',hl',h2',?_⟩;rw[ahO];exact Z.perm z2 tV.symm
theorem alK {H}{f}(V:KyT h0 c s root N H f){src}{l}(il:IL h0 src l)(hl:l.length<=80)(hv:∀v∈l,KN N v/\H v<f) a2 a3 a5 :
  ∀n i T P sl (kl:ε) g h J ,fuY f+(l.length-i)+1<=n->i<=l.length->kl.length=i->(∀c∈kl,IR P.length c)->P.length+((l.drop i).map (cR N)).sum<=4000->KSt h0 c s root h T P (.sl sl 1 al (kl.map vi) g::R) J ->
   Wp (kA n (ak c.x2) (ak c.x3) a2 a3 sl a5 src (l.length:Int) (i:Int)) h λr h'=>∃(kl':ε) (g':Nat) (T':List aq) (P' Q:ε) (J':List aZ),kl'.length=l.length/\Kp N T P T' P' Q/\Q.length<=((l.drop i).map (cR N)).sum/\(∀u∈Q,∃v∈l,gf N v u)/\(∀c∈kl',IR P'.length c)/\kl'.map (nth P')=kl.map (nth P)++l.drop i/\KSt h0 c s root h' T' P' (.sl r 1 al (kl'.map vi) g'::R) J':=by
 intro n
 induction n with
 |zero=>intro i T P sl kl g h J h1;omega
 |succ n ih=>
  intro i T P sl kl g h J h1 h2 h3 hc h4 st;rw[Dh];unfold uF;by_cases hi:i<l.length
  .rw[By (by grind)];obtain⟨v,hvv⟩:=eC hi;obtain⟨kv,hH⟩:=hv v (IN hvv);rw[drop_cons hvv,acW,aoN] at h4;have hfr:Fr (λ_=>False) h0 h:=by obtain⟨_,_,_,_,_,_,z⟩:=st;exact z.fr
   refine (il.fr hfr).ix (by omega) (by simpa using hvv) λ_ _ cl=>cl.sL (l:=li) rfl rfl ?_;refine QT V (by omega) kv hH (by omega) (by omega) st λh' T1 P1 Q1 J' sl' g' kp ql qr st'=>?_;rw[wZ h2 (by omega)];have p1:=kp.p;have l1:P1.length=P.length+(v::Q1).length:=by rw[p1,aby]
   refine (ih (i+1) T1 P1 sl' (kl++[(P.length:Int)]) g' h' J' (by omega) (by omega) (by simp;omega) (λc hc'=>?_) (by omega) st').mono λr h2 hr=>?_
   .rcases List.mem_append.1 hc' with q|q
    .have:=hc c q;exact⟨this.1,by have:=this.2;omega⟩
    .rw[ac1] at q;subst q;exact⟨by omega,by rw[abK] at l1;omega⟩
   obtain⟨kl',g2,T2,P2,Q2,J2,q1,q2,q3,q4,q5,q6,q7⟩:=hr;refine⟨kl',g2,T2,P2,(v::Q1)++Q2,J2,q1,kp.trans q2,?_,λu hu=>?_,q5,?_,q7⟩
   .rw[drop_cons hvv,acW,aoN,aby];omega
   .rcases List.mem_append.1 hu with hu|hu
    .refine⟨v,IN hvv,?_⟩;rcases List.mem_cons.1 hu with rfl|hu
     .exact .refl
     .exact qr u hu
    .exact q4 u hu
   .rw[q6,ahO,p1,Gy hc,drop_cons hvv,acX]
    congr 1
    have:nth (P++v::Q1) (P.length:Int)=v:=jX (by simp);simp[this]
  .rw[AT (by grind),ag];obtain⟨_,_,_,_,tl,_,_⟩:=id st;exact⟨kl,g,T,P,[],J,by omega,.refl tl,by simp,by simp,hc,by rw[abY (by omega),afx],st⟩
theorem alL {H}{f}(V:KyT h0 c s root N H f){src}{l}(il:IL h0 src l)(hl:l.length<=80)(hv:∀v∈l,KN N v/\H v<f) a2 a3 :
  ∀n i T P sl (kl:ε) g h J ,fuY f+(l.length-i)+1<=n->i<=l.length->kl.length=i->(∀c∈kl,IR P.length c)->P.length+((l.drop i).map (cR N)).sum<=4000->KSt h0 c s root h T P (.sl sl 1 al (kl.map vi) g::R) J ->
   Wp (kr n (ak c.x2) (ak c.x3) a2 a3 sl src (l.length:Int) (i:Int)) h λr h'=>∃(kl':ε) (g':Nat) (T':List aq) (P' Q:ε) (J':List aZ),kl'.length=l.length/\Kp N T P T' P' Q/\Q.length<=((l.drop i).map (cR N)).sum/\(∀u∈Q,∃v∈l,gf N v u)/\(∀c∈kl',IR P'.length c)/\kl'.map (nth P')=kl.map (nth P)++l.drop i/\KSt h0 c s root h' T' P' (.sl r 1 al (kl'.map vi) g'::R) J':=by
 intro n
 induction n with
 |zero=>intro i T P sl kl g h J h1;omega
 |succ n ih=>
  intro i T P sl kl g h J h1 h2 h3 hc h4 st;rw[Df];unfold uE;by_cases hi:i<l.length
  .rw[By (by grind)];obtain⟨v,hvv⟩:=eC hi;obtain⟨kv,hH⟩:=hv v (IN hvv);rw[drop_cons hvv,acW,aoN] at h4;have hfr:Fr (λ_=>False) h0 h:=by obtain⟨_,_,_,_,_,_,z⟩:=st;exact z.fr
   refine (il.fr hfr).ix (by omega) (by simpa using hvv) λ_ _ cl=>cl.sL (l:=li) rfl rfl ?_;refine QT V (by omega) kv hH (by omega) (by omega) st λh' T1 P1 Q1 J' sl' g' kp ql qr st'=>?_;rw[wZ h2 (by omega)];have p1:=kp.p;have l1:P1.length=P.length+(v::Q1).length:=by rw[p1,aby]
   refine (ih (i+1) T1 P1 sl' (kl++[(P.length:Int)]) g' h' J' (by omega) (by omega) (by simp;omega) (λc hc'=>?_) (by omega) st').mono λr h2 hr=>?_
   .rcases List.mem_append.1 hc' with q|q
    .have:=hc c q;exact⟨this.1,by have:=this.2;omega⟩
    .rw[ac1] at q;subst q;exact⟨by omega,by rw[abK] at l1;omega⟩
   obtain⟨kl',g2,T2,P2,Q2,J2,q1,q2,q3,q4,q5,q6,q7⟩:=hr;refine⟨kl',g2,T2,P2,(v::Q1)++Q2,J2,q1,kp.trans q2,?_,λu hu=>?_,q5,?_,q7⟩
   .rw[drop_cons hvv,acW,aoN,aby];omega
   .rcases List.mem_append.1 hu with hu|hu
    .refine⟨v,IN hvv,?_⟩;rcases List.mem_cons.1 hu with rfl|hu
     .exact .refl
     .exact qr u hu
    .exact q4 u hu
   .rw[q6,ahO,p1,Gy hc,drop_cons hvv,acX]
    congr 1
    have:nth (P++v::Q1) (P.length:Int)=v:=jX (by simp);simp[this]
  .rw[AT (by grind),ag];obtain⟨_,_,_,_,tl,_,_⟩:=id st;exact⟨kl,g,T,P,[],J,by omega,.refl tl,by simp,by simp,hc,by rw[abY (by omega),afx],st⟩
theorem anv (d:Vd N root)(fw:kL N){r0}(G:ou h0 s N){H}(hH:∀u v,KN N u->Edge N u v->H v<H u) c:∀f,KyT h0 c s r0 N H f:=by
 intro f
 induction f with
 |zero=>intro n h k T P R J _ _ hk;omega
 |succ f V=>
  intro n h k T P R J hn kv hk hm st;have hfu:fuY (f+1)=fuY f+200:=by grind [fuY]
  rw[hfu] at hn;obtain⟨n,rfl⟩:∃n',n=n'+1:=⟨n-1,by omega⟩;obtain⟨x,hx⟩:=fj rfl (kv.ir d.ix);have hxm:=ax hx;obtain⟨hil,hkl⟩:=fw.map x hxm;have hc:=afL d hx kv;have hsum:(refs x).map (cR N)=x.keys.map (cR N)++x.items.map (cR N):=by unfold refs;grind
  rw[hsum,List.sum_append] at hc;have hv:∀v,v∈x.keys\/v∈x.items->KN N v/\H v<f:=λv hv=>by
   have e:Edge N k v:=⟨x,hx,hv⟩;have:=hH k v kv e;exact⟨.step kv e,by omega⟩
  obtain⟨o,O,g,h1,tl,h2,z⟩:=st;have ol0:O.length=P.length:=by rw[<-tl,<-h1,acL]
  rw[G8];unfold yL;have ol:o.len=P.length:=by
   have os:uq h o 5 av (O.flatMap aH.enc) g:=z.get 1 rfl;have:=os.1;rw[eG aH.jS] at this;omega
  refine z.ld 0 (x:=o) ?_;refine z.ld 2 (x:=s) ?_;refine G.at z (aB hx).1 (aB hx).2 λaa ks is nd ik ii=>nd.gh ?_;refine z.node λx4 h1' z=>?_;refine z.ld 1 (x:=o) ?_;refine z.ld 0 ?_;refine z.ld 0 ?_;refine z.ld 0 ?_;refine z.Oc 2 (new:=[vi x.kind,.string x.text,.bool x.ord,aE,aE]) rfl (by decide) rfl (by grind [da]) λo1 h2' g1 ho1 z _=>?_;refine z.st 1 (cs':=[aA o1,vi 0]) λh3 z=>?_;refine z.ld 0 (x:=ks) ?_;rw[ik.len,ol];have z:=z.add (Fr.refl z.wf) (o:=.sl ow 1 al [] 0) uq.nil (.inl rfl)
  let nr:aH:=⟨x.kind,x.text,x.ord,ow,[],0,ow,[],0⟩
  have st1:KSt h0 c s r0 h3 (T++[nr.v]) (P++[k]) (.sl ow 1 al (([]:ε).map vi) 0::.ar x4 [vi x.kind,.string x.text,.bool x.ord,aA ks,aA is] av::R) J:=by
   refine⟨o1,O++[nr],g1,by simp[h1],by simp[tl],λr hr=>?_,?_⟩
   .rcases List.mem_append.1 hr with hr|hr
    .grind
    .rw[ac1] at hr;subst hr;exact⟨⟨.inl ⟨rfl,rfl⟩,.inl ⟨rfl,rfl⟩⟩,⟨alg _,alg _,fw.txt x hxm⟩⟩
   .have e:(O++[nr]).flatMap aH.enc=O.flatMap aH.enc++[vi x.kind,.string x.text,.bool x.ord,aE,aE]:=(by rw[alX];rfl);unfold KQ;rw[e];exact Z.nK (pre:=[_,_,_,_,_,_]) z [2,3,4,5,0,1] (by simp only[abK,agt];decide)
  have pl:(P++[k]).length=P.length+1:=by simp
  rw[ah];refine (alK V ik hkl (λv hv'=>hv v (.inl hv')) _ _ _ n 0 _ _ ow [] 0 h3 J (by omega) (by omega) rfl (by simp) (by rw[pl,aiq];omega) st1).mono λksl h4 hr=>?_;obtain⟨kl,gk,T1,P1,Q1,J1,lk,kp1,ql1,qr1,ic1,im1,yW⟩:=hr;rw[aiq] at ql1 im1;rw[apD,afk] at im1;have p1:=kp1.p;have pl1:P1.length=P.length+1+Q1.length:=by rw[p1,aby,pl]
  obtain⟨o2,O2,g2,q1,tl2,q2,z⟩:=yW;have z1:=Z.perm z (tV.trans (List.Perm.cons _ tV));refine z1.ld 1 (x:=is) ?_;rw[ii.len];have z2:=z1.add (Fr.refl z1.wf) (o:=.sl ow 1 al [] 0) uq.nil (.inl rfl);have st3:KSt h0 c s r0 h4 T1 P1 (.sl ow 1 al (([]:ε).map vi) 0::.sl ksl 1 al (kl.map vi) gk::.ar x4 [vi x.kind,.string x.text,.bool x.ord,aA ks,aA is] av::R) J1:=
   ⟨o2,O2,g2,q1,tl2,q2,Z.perm z2 (tV.trans (List.Perm.cons _ (tV.trans (List.Perm.cons _ tV)))).symm⟩
  rw[ah];refine (alL V ii hil (λv hv'=>hv v (.inr hv')) _ _ n 0 T1 P1 ow [] 0 h4 J1 (by omega) (by omega) rfl (by simp) (by rw[aiq];omega) st3).mono λisl h5 hr=>?_;obtain⟨ilr,gi,T2,P2,Q2,J2,l2,kp2,ql2,qr2,ic2,im2,st4⟩:=hr;rw[aiq] at ql2 im2;rw[apD,afk] at im2;have p2:=kp2.p;have pl2:P2.length=P1.length+Q2.length:=by rw[p2,aby]
  have kp:=kp1.trans kp2;have im1':kl.map (nth P2)=x.keys:=by rw[p2,Gy ic1];exact im1
  obtain⟨o3,O3,g3,e3,tl3,p3,z⟩:=st4;have z3:=Z.perm z (tV.trans (List.Perm.cons _ (tV.trans (List.Perm.cons _ tV))));have ol3':O3.length=P2.length:=by rw[<-tl3,<-e3,acL]
  have os:uq h5 o3 5 av (O3.flatMap aH.enc) g3:=z3.get 4 rfl;have o3l:o3.len=P2.length:=by have:=os.1;rw[eG aH.jS] at this;omega
  obtain⟨b,base,e1,_,_⟩:=os.ar (by omega);obtain⟨oa,ol3,oc⟩:=o3;cases e1;have o3l:ol3=P2.length:=o3l;subst o3l;obtain⟨y,hy⟩:=eC (l:=O3) (i:=P.length) (by omega);obtain⟨y1,y2⟩:=p3 y (IN hy);have hlen3:(O3.flatMap aH.enc).length=O3.length*5:=eG aH.jS O3;have yv:y.v=nr.v:=by
   have h1:T2[P.length]?=some y.v:=by rw[<-e3,abh,hy];rfl
   rw[kp.lA P.length (by rw[pl];omega),agj (by omega),tl,amW] at h1;exact (acZ h1).symm
  let ya:aH:={ y with ks:=ksl,kl:=kl,kg:=gk }
  let yb:aH:={ ya with is:=isl,il:=ilr,ig:=gi }
  have s1:aM (O3.flatMap aH.enc) (P.length*5+3) [aA ksl]=(O3.set P.length ya).flatMap aH.enc:=sA aH.jS hy (by simp) (by unfold aM aH.enc;rfl);have hya:(O3.set P.length ya)[P.length]?=some ya:=al5 (by omega);have s2:aM ((O3.set P.length ya).flatMap aH.enc) (P.length*5+4) [aA isl]=(O3.set P.length yb).flatMap aH.enc:=by
   have:=sA aH.jS (x':=yb) hya (o:=4) (vs:=[aA isl]) (by simp) (by unfold aM aH.enc;rfl)
   simp_all
  refine z3.ld 3 (l:=.sl) (x:=⟨some ⟨b,0,none⟩,P2.length,oc⟩) ?_;refine GF (by omega) (by omega) ?_;rw[aba];refine z3.ld 3 (l:=.sl) (x:=⟨some ⟨b,0,none⟩,P2.length,oc⟩) ?_;refine xM (P:=λ_ h'=>Z h0 h' (.sl isl 1 al (ilr.map vi) gi::.sl ksl 1 al (kl.map vi) gk::.ar x4 [vi x.kind,.string x.text,.bool x.ord,aA ks,aA is] av::(KQ c s r0 ⟨some ⟨b,0,none⟩,P2.length,oc⟩ (O3.set P.length ya) g3++(R++J2)))) (λa ha=>?_) ((Ou z3 (i:=4) rfl (by omega) s1 (by grind) rfl).mono λ_ h' z=>z) λ_ h6 z=>?_
  .simp at ha;subst ha;exact⟨_,_,z3.get 3 rfl,λ_ h' z=>z.get 3 rfl⟩
  refine GF (by omega) (by omega) ?_;rw[aba,ah];refine (Ou z (i:=4) rfl (by omega) s2 (by rw[eG aH.jS,ah8];grind) rfl).mono λ_ h7 z=>?_;rw[ag];have pq:P2=P++k::(Q1++Q2):=by rw[p2,p1];simp
  refine⟨rfl,T2.set P.length yb.v,P2,Q1++Q2,.sl isl 1 al (ilr.map vi) gi::.sl ksl 1 al (kl.map vi) gk::J2,⟨pq,by rw[ah8];exact tl3,λj hj=>?_,λj x' hj hx'=>?_⟩,by simp;omega,λu hu=>?_,⟨some ⟨b,0,none⟩,P2.length,oc⟩,O3.set P.length yb,g3,by rw[an3,e3],by rw[ah8];exact tl3,λr hr=>?_,?_⟩
  .rw[anO (by omega),kp.lA j (by rw[pl];omega),ahQ (by omega)]
  .by_cases e:j=P.length
   .subst e;rw[al5 (by omega)] at hx';cases hx';refine⟨x,?_,?_,?_,?_,im1',im2,λc hc'=>?_⟩
    .rw[pq,show nth (P++k::(Q1++Q2)) (P.length:Int)=k from jX (by simp)];exact hx
    .have:=alZ aq.kind yv;exact this
    .have:=alZ aq.text yv;exact this
    .have:=alZ aq.ord yv;exact this
    .rcases hc' with hc' | hc'
     .have:=ic1 c hc';exact⟨this.1,by have:=this.2;omega⟩
     .exact ic2 c hc'
   .rw[anO (by omega)] at hx';exact kp.new j x' (by rw[pl];omega) hx'
  .rcases List.mem_append.1 hu with hu|hu
   .obtain⟨v,h1,h2⟩:=qr1 u hu;exact (gf.one ⟨x,hx,.inl h1⟩).trans h2
   .obtain⟨v,h1,h2⟩:=qr2 u hu;exact (gf.one ⟨x,hx,.inr h1⟩).trans h2
  .rcases al7 hr with hr|rfl
   .obtain⟨a1,a2⟩:=p3 r hr;exact⟨a1.mono λo ho=>BY _ (BY _ ho),a2⟩
   .exact⟨⟨.inr (BY _ IS),.inr IS⟩,⟨by grind,by grind,y2.t⟩⟩
  .have z9:Z h0 h7 (.sl isl 1 al (ilr.map vi) gi::.sl ksl 1 al (kl.map vi) gk::.ar x4 [vi x.kind,.string x.text,.bool x.ord,aA ks,aA is] av::(KQ c s r0 ⟨some ⟨b,0,none⟩,P2.length,oc⟩ (O3.set P.length yb) g3++(R++J2))):=z;have z9:=z9.sub (.cons₂ _ (.cons₂ _ (.cons _ (.refl _))));refine z9.perm ?_;have p1:=ahR [aZ.sl isl 1 al (ilr.map vi) gi,.sl ksl 1 al (kl.map vi) gk] (KQ c s r0 ⟨some ⟨b,0,none⟩,P2.length,oc⟩ (O3.set P.length yb) g3) (R++J2);have p2:=ahR [aZ.sl isl 1 al (ilr.map vi) gi,.sl ksl 1 al (kl.map vi) gk] R J2;exact p1.trans (aiw _ p2)
theorem alM (d:Vd N root)(fw:kL N){r0}(z:Z h0 h L)(G:ou h0 s N){a}(ka:KN N a){n}(hn:9000<=n) :
  Wp (wY n (s,r0) a) h λr h'=>r.2=0/\∃(O:List aH) (P:ε) (o:Sl) (g:Nat) (J:List aZ),r.1=o/\Jb N (O.map aH.v) P a/\O.length<=40/\(∀r∈O,RO r J/\NSz r)/\Z h0 h' (.sl o 5 av (O.flatMap aH.enc) g::(J++L)):=by
 obtain⟨H,hH1,hH2⟩:=d.Hx;have hl:=fw.len;have hcR:=MM (N:=N) a;unfold wY;refine z.new λx0 h1 z _=>z.new λx1 h2 z _=>z.new λx2 h3 z _=>z.new λx3 h4 z _=>z.st 0 λh5 z=>?_;refine z.ld 0 (x:=(⟨x2,x0,x3⟩:KC).fn) ?_;unfold Ak;rw[ah,By (by rfl),ah];refine iA (c:=(ak x2,ak x0,ak x3)) rfl ?_;have z:=z.add (Fr.refl z.wf) (o:=.sl ow 5 av [] 0) uq.nil (.inl rfl);have st:KSt h0 ⟨x2,x0,x3⟩ s r0 h5 [] [] (.ar x1 [aE,vi 0] aj::L) []:=⟨ow,[],0,rfl,rfl,(λr hr=>by cases hr),by
  rw[afx];exact Z.nK (pre:=[_,_,_,_,_]) z [2,0,4,1,3] (by grind)⟩
 refine (anv d fw G (λu v k e=>hH2 u v (.step k e) e) ⟨x2,x0,x3⟩ 41 n h5 a [] [] _ [] (by grind [fuY]) ka (by grind) (by simp;omega) st).mono λy h6 hy=>?_;obtain⟨rfl,T,P,Q,J,kp,ql,qr,o,O,g,e1,tl,e2,z⟩:=hy;have p:=kp.p;rw[afk] at p;refine z.gh 0 (ls:=[.sl,li]) (x:=(o,0)) ?_;have z:=z.perm tV;refine z.st 0 (cs':=[aA o,vi 0]) λh7 z=>?_;refine z.gh 0 (ls:=[.sl,li]) (x:=(o,0)) ?_;rw[ag];have pl:P.length<=cR N a:=by rw[p];exact ql
 have ol:O.length=P.length:=by rw[<-tl,<-e1,acL]
 have dn:∀b x',gt T b=some x'->Dn N P b x':=λb x' hx=>by
  obtain⟨h0',h1'⟩:=aB hx;have:=kp.new b.toNat x' (alg _) h1'
  rwa [Int.toNat_of_nonneg h0'] at this
 have cp:Jb N (O.map aH.v) P a:=by
  rw[e1];refine⟨tl,λx' hx'=>?_,λb x' hx=>?_,λu hu=>?_,by rw[p];rfl,pl⟩
  .obtain⟨j,hj⟩:=List.mem_iff_getElem?.1 hx';obtain⟨_,_,_,_,_,_,_,h7⟩:=dn (j:Int) x' (by unfold gt;rw[By (by omega),aba];exact hj);rw[tl];exact⟨λc hc=>h7 c (.inl hc),λc hc=>h7 c (.inr hc)⟩
  .obtain⟨x,h1,h2,h3,h4,h5,h6,_⟩:=dn b x' hx;exact⟨x,h1,h2,h3,h4,h5,h6⟩
  .rw[p] at hu;rcases List.mem_cons.1 hu with rfl|hu
   .exact .refl
   .exact qr u hu
 refine⟨rfl,O,P,o,g,J,rfl,cp,by omega,e2,?_⟩;have z:Z h0 h7 (.ar x1 [aA o,vi 0] aj::.ar x2 [aA o,vi 0] aj::.sl o 5 av (O.flatMap aH.enc) g::.ar x0 [aA s,vi r0] aj::.ar x3 [(⟨x2,x0,x3⟩:KC).fn] iK::(L++J)):=z;have z:=z.sub (.cons _ (.cons _ (.cons₂ _ (.cons _ (.cons _ (.refl _))))));exact z.perm (List.Perm.cons _ aiu)
end
end Go.Sh
namespace Go.Ago
open Go
variable {α β:Type}{h h' h0:ai}{L:List aZ}
def sG {γ:Type}{j k:Nat}(hn:j≠k)(a b:γ):cond (Nat.beq j k) a b=b:=by rw[bf,AT hn]
def Fr.Bt {X}(hw:WF h0)(a:Fr X h0 h){k}(hk:h0.next<=k)(hk2:k<h.next){kt}:Fr X h0 (h.Bt k kt):=by
 refine⟨⟨a.wf.get,λj hj=>?_,a.wf.jo,λj hj=>?_⟩,a.next,a.cells,a.qI,λj hj=>?_,a.none,λj x hj hx=>?_⟩
 .have hj:h.next<=j:=hj
  show cond (Nat.beq j k) true (h.used j)=false;rw[sG (by omega)];exact a.wf.used j hj
 .have hj:=cu hj;show cond (Nat.beq j k) _ (h.jz j)=Option.none;rw[sG hj.1];exact a.wf.maps j hj.2
 .show cond (Nat.beq j k) true (h.used j)=_;rw[sG (by omega)];exact a.used j hj
 .have:=hw.mlt hj;show cond (Nat.beq j k) _ (h.jz j)=_;rw[sG (by omega)];exact a.maps j x hj hx
def aZ.alN {o:aZ}{k}{kt}(hk:o.ok h)(hne:o.jo≠k+1):o.ok (h.Bt k kt):=by
 cases o with
 |ar b cs e=>exact⟨(show LB h b cs e from hk).get⟩
 |sl s sz e cs g=>exact hk
 |ps s sz e cs g=>exact hk
 |map m kt2 fn n=>
  obtain⟨c,es,h1,h2⟩:=MB.ex hk;refine⟨c,es,?_,h2⟩;show cond (Nat.beq m k) _ (h.jz m)=_;rw[sG (λe=>hne (by rw[e];rfl))];exact h1
 |free k2=>
  have hn:k2≠k:=λe=>hne (by rw[e];rfl);refine⟨?_,hk.2⟩;show cond (Nat.beq k2 k) true (h.used k2)=false;rw[sG hn];exact hk.1
 |fam F sz e g=>exact hk
theorem Z.alO (z:Z h0 h L) i {k}{kt}{f:Nat->M β}{Q}
  (q:∀h',Z h0 h' (L.set i (.map k kt (λ_=>none) 0))->Wp (f k) h' Q) (hi:L[i]?=some (.free k):=by rfl):Wp (sh (sP k kt) f) h Q:=by
 rw[ah];have hmem:=IN hi;have hf:FL h k:=(z.own _ hmem).1;refine⟨k,h.Bt k kt,by unfold sP;rw[By ⟨hf.1,hf.2.1,by rw[z.wf.maps k hf.1];rfl,by rw[hf.2.2];rfl⟩],q _ ?_⟩;have hg:h0.next<k+1:=(z.own _ hmem).2.resolve_left (by simp[aZ.jo])
 have ho:∀j y,L[j]?=some y->j≠i->y.jo≠k+1:=λj y hj hne e=>by
  have:=En qp z.yJ hj hi hne e
  grind
 refine⟨z.PT,z.fr.Bt z.PT (by omega) hf.2.1,λx hx=>?_,Em qp z.yJ λj y hj hne e2=>absurd e2.symm (ho j y hj hne)⟩;obtain⟨j,hj⟩:=List.mem_iff_getElem?.1 hx;rw[apw] at hj;split at hj
 .split at hj
  .cases hj;refine⟨⟨0,[],?_,trivial,λ_=>rfl,rfl⟩,.inr hg⟩;show cond (Nat.beq k k) _ (h.jz k)=_
   simp_all
  grind
 .rename_i hne;have hmy:=IN hj;exact⟨aZ.alN (z.own x hmy).1 (ho j x hj λe2=>hne e2.symm),(z.own x hmy).2⟩
def cA {a}{f:Addr->M β}{Q}(q:Wp (f a) h Q):Wp (sh (nn (some a)) f) h Q:=by
 rw[ah];exact⟨a,h,rfl,q⟩
end Go.Ago
namespace Go.Sh
open Go Go.Ago Go.Proofs
variable {α β:Type}{h h' h0:ai}{L R J:List aZ}{N N1 N2:List aq}{root:Int}{B:Nat}{Q:β->ai->Prop}
def Tz:Nat:=IJ (fuE 80) 80 41+80000
def anw {n}(h:Tz<=n):IJ (fuE 80) 80 41<=n/\KF+4*80+65600<n/\65600<=fuE 80:=by
 have h1:Tz=IJ (fuE 80) 80 41+80000:=rfl;have h3:KF=7000:=rfl;have h4:66000<=fuC 80 80:=aoX _ _;have h5:fuE 80=fuC 80 80+700+80:=rfl;omega
section
variable {H:Int->Nat}{P1 P2:ε}{k1 k2:Int}(K:KOr N H)(hb:∀u,H u<=N.length)(d:Vd N root)(g:GV N root)
include d
theorem Jb.Gi (C:Jb N N1 P1 k1)(kk:KN N k1){H0:Int->Nat}(hH:∀u v,KN N v->Edge N u v->H0 v<H0 u){u v:Int}(e:Edge N1 u v):H0 (nth P1 v)<H0 (nth P1 u):=by
 obtain⟨x',hx',hm⟩:=e;obtain⟨x,hx,_,_,_,a4,a5⟩:=C.nd u x' hx';have ix:=C.ix x' (ax hx');have hv:IR N1.length v:=hm.elim (ix.1 v) (ix.2 v);have kv:KN N (nth P1 v):=by
  obtain⟨H1,_,h1⟩:=d.Hx;exact (d.down h1 kk (C.rc _ (fG hv.1 (by rw[<-C.len];exact hv.2)))).1
 refine hH _ _ kv ⟨x,hx,?_⟩;rcases hm with hm|hm
 .exact .inl (by rw[<-a4];exact anE hm)
 .exact .inr (by rw[<-a5];exact anE hm)
theorem Jb.anx (C:Jb N N1 P1 k1)(kk:KN N k1):∀u v,Edge N1 u v->¬gf N1 v u:=by
 obtain⟨H0,_,hH⟩:=d.Hx;have le:∀{a b},gf N1 a b->H0 (nth P1 b)<=H0 (nth P1 a):=λ{a b} h=>by
  induction h with
  |refl=>exact abi _
  |step _ e ih=>have:=C.Gi d kk hH e;omega
 intro u v e h;have:=C.Gi d kk hH e;have:=le h;omega
include g
theorem Jb.valid (C:Jb N N1 P1 k1)(kk:KN N k1)(f1:kL N1):Sh.gc N1 0=0:=f1.gv.2 (by
 have hk:=kk.ir d.ix;have:=(C.iso d hk).gv g d hk
 rwa [C.at'] at this)
include K hb
theorem QU (C1:Jb N N1 P1 k1)(C2:Jb N N2 P2 k2)(kk1:KN N k1)(kk2:KN N k2){s1 s2}(z:Z h0 h L)(G1:ou h0 s1 N1)(G2:ou h0 s2 N2)(f1:kL N1)(f2:kL N2){n}(hn:Tz<=n) :
  Wp (vu n (s1,0) (s2,0)) h λr h'=>r.1=gZ N k1 k2/\Z h0 h' L:=by
 obtain⟨n1,n2,n3⟩:=anw hn;have l1:=f1.len;have l2:=f2.len;have e1:s1.len=N1.length:=G1.len;have e2:s2.len=N2.length:=G2.len;unfold vu;refine z.new λx0 h1 z _=>z.new λx1 h2 z _=>?_;refine z.gh 1 (ls:=[.sl,li]) (x:=(s1,0)) ?_;rw[ah];refine (rB z G1 f1.bd f1.ht (by omega) (f1.gc 0)).mono λy h3 hy=>?_;obtain⟨rfl,z⟩:=hy;have c1:=C1.valid d g kk1 f1;rw[AT (by grind)];refine z.gh 0 (ls:=[.sl,li]) (x:=(s2,0)) ?_;rw[ah];refine (rB z G2 f2.bd f2.ht (by omega) (f2.gc 0)).mono λy h3 hy=>?_;obtain⟨rfl,z⟩:=hy;have c2:=C2.valid d g kk2 f2;rw[AT (by grind)];have d1:=f1.Yu c1;have d2:=f2.Yu c2;obtain⟨dd1,a1,p1,q1⟩:=f1.anm c1;obtain⟨dd2,a2,p2,q2⟩:=f2.anm c2;refine z.gh 1 (ls:=[.sl,li]) (x:=(s1,0)) ?_;rw[ah];refine (ab7 z G1 f1.bd f1.ht (by omega) (f1.gc 0) (λ_=>p1)).mono λy h3 hy=>?_;obtain⟨hy1,z⟩:=hy;rw[AT (by grind)] at hy1;subst hy1;obtain rfl:a1=true:=q1.2 (C1.anx d kk1);rw[AT (by simp)];refine z.gh 0 (ls:=[.sl,li]) (x:=(s2,0)) ?_;rw[ah];refine (ab7 z G2 f2.bd f2.ht (by omega) (f2.gc 0) (λ_=>p2)).mono λy h3 hy=>?_;obtain⟨hy1,z⟩:=hy;rw[AT (by grind)] at hy1;subst hy1;obtain rfl:a2=true:=q2.2 (C2.anx d kk2);rw[AT (by simp)];have acy:=q1.1 rfl;unfold uX;refine z.dP [8] (by decide) (by decide) λnb h4 z=>?_;refine z.gh 2 (ls:=[.sl,li]) (x:=(s1,0)) ?_;refine z.ld 2 (x:=0) ?_;refine z.gh 1 (ls:=[.sl,li]) (x:=(s2,0)) ?_;refine z.ld 1 (x:=0) ?_;refine z.alO 0 λh5 z=>?_;have hch:∀{c:List θ} {P:θ->ai->Prop} {h5:ai} {X:List aZ},Z h0 h5 X->.ar x0 [aA s1,vi 0] aj∈X->.ar x1 [aA s2,vi 0] aj∈X->(∀a,some a∈c->a.block=x0\/a.block=x1) ->
   (∀r h',P r h'->∃X',Z h0 h' X'/\.ar x0 [aA s1,vi 0] aj∈X'/\.ar x1 [aA s2,vi 0] aj∈X')->∀a,some a∈c->∃cs e,LB h5 a.block cs e/\∀r h',P r h'->LB h' a.block cs e:=by
  intro c P h5 X z m0 m1 hc hP a ha;rcases hc a ha with e|e
  .refine⟨_,_,by rw[e];exact (z.own _ m0).1,λr h' hp=>?_⟩;obtain⟨X',z',q0,q1⟩:=hP r h' hp;rw[e];exact (z'.own _ q0).1
  .refine⟨_,_,by rw[e];exact (z.own _ m1).1,λr h' hp=>?_⟩;obtain⟨X',z',q0,q1⟩:=hP r h' hp;rw[e];exact (z'.own _ q1).1
 have hof1:=of_wp (root:=0) z (by rw[e1];grind [da]) (n:=n);refine xM (hch z (by simp) (by simp) (by intro a ha;simp at ha;rcases ha with rfl|rfl|rfl<;>simp[Addr.plus]) λr h' hp=>?_) hof1 λr h6 hr=>?_
 .grind
 obtain⟨x5,b4,rfl,z⟩:=hr;have hof2:=of_wp (root:=0) z (by rw[e2];grind [da]) (n:=n);refine xM (hch z (by simp) (by simp) (by intro a ha;simp at ha;rcases ha with rfl|rfl<;>simp[Addr.plus]) λr h' hp=>?_) hof2 λr h7 hr=>?_
 .obtain⟨x6,b6,_,z'⟩:=hp;exact⟨_,z',by simp,by simp⟩
 obtain⟨x6,b6,rfl,z⟩:=hr;rw[e1,e2] at z
 let t1:X6:=⟨x5,b4,s1,0⟩
 let t2:X6:=⟨x6,b6,s2,0⟩
 have hsm1:=f1.sm d1;have hsm2:=f2.sm d2;have T1:mu t1 N1 [.ar x5 [aA s1,vi 0,aA (arr b4 N1.length)] dA,.ar b4 (List.replicate N1.length aE) aF]:=Og IS (BY _ IS);have T2:mu t2 N2 [.ar x6 [aA s2,vi 0,aA (arr b6 N2.length)] dA,.ar b6 (List.replicate N2.length aE) aF]:=Og IS (BY _ IS);have main:=af6 (t:=t1) (t2:=t2) G1 G2 f1.bd f2.bd f1.ht f2.ht (λx hx hk=>d1.map hx hk) (λx hx hk=>d2.map hx hk) d1.ix d2.ix n3 (λi x hx=>Fc G1 d1 f1.bd f1.ht hsm1 hx) (λi x hx=>Fc G2 d2 f2.bd f2.ht hsm2 hx) (λu v e=>Cz d1.ix acy e) (V:=λi j=>gZ N (nth P1 i) (nth P2 j)) (λi j x y hx hy=>af5 K hb d g C1 C2 kk1 kk2 d1 d2 hx hy) 41 (some (nb+8)) 0 0 d1.rt d2.rt (by grind [MM]);rw[ah];have zz:Z h0 h7 ([.map (nb+8) wX (λ_=>none) 0]++(([.ar x1 [aA s2,vi 0] aj,.ar x0 [aA s1,vi 0] aj]++L)++([.ar x5 [aA s1,vi 0,aA (arr b4 N1.length)] dA,.ar b4 (List.replicate N1.length aE) aF]++[.ar x6 [aA s2,vi 0,aA (arr b6 N2.length)] dA,.ar b6 (List.replicate N2.length aE) aF]))):=by
  have z1:=Z.nK (pre:=[_,_,_,_,_,_,_]) z [4,5,6,2,3,0,1] (by simp only[abK,agt];decide);refine Z.perm z1 (List.Perm.cons _ (List.Perm.cons _ (List.Perm.cons _ ?_)));exact aiu
 refine (main n h7 [.map (nb+8) wX (λ_=>none) 0] _ _ _ n1 ⟨_,_,rfl,λi j w h=>by cases h⟩ T1 T2 zz).mono λr h8 hr=>ag.2 ?_;obtain⟨er,M',L1',L2',_,_,_,_,_,z⟩:=hr;refine⟨?_,z.sub (?_)⟩
 .show r=_;rw[er];show gZ N (nth P1 0) (nth P2 0)=_;rw[show nth P1 0=k1 from jX (i:=0) C1.P3,show nth P2 0=k2 from jX (i:=0) C2.P3]
 exact ((((ahy _ L).trans (ahy _ _)).trans (ang _ _)).trans (ahY _ _))
end
end Go.Sh
namespace Go.Sh
open Go Go.Ago Go.Proofs
variable {α β:Type}{h h' h0:ai}{L R J:List aZ}{N:List aq}{root:Int}{B:Nat}{Q:β->ai->Prop}{s:Sl}
structure KY where
 o:Sl
 O:List aH
 g:Nat
 J:List aZ
 P:ε
 k:Int
def KY.own (k:KY):List aZ:=.sl k.o 5 av (k.O.flatMap aH.enc) k.g::k.J
def KY.ok (N:List aq)(k:KY):Prop:=(k.O.length<=40/\∀r∈k.O,RO r k.J/\NSz r)/\Jb N (k.O.map aH.v) k.P k.k/\KN N k.k
def gc2:Option KY->δ
 |none=>[aE,vi 0]
 |some k=>[aA k.o,vi 0]
def Gz x:(gc2 x).length=2:=by cases x<;>rfl
def KY.few {k:KY}(hk:k.ok N):kL (k.O.map aH.v):=by
 refine⟨by rw[acL];exact hk.1.1,λx hx=>?_,λx hx=>?_⟩
 .obtain⟨r,hr,rfl⟩:=List.mem_map.1 hx;have:=(hk.1.2 r hr).2;exact⟨this.i,this.k⟩
 .obtain⟨r,hr,rfl⟩:=List.mem_map.1 hx;exact (hk.1.2 r hr).2.t
theorem KY.rd {k:KY}(hk:k.ok N){M}(z:Z h0 h M)(hm:∀o∈k.own,o∈M):ou h k.o (k.O.map aH.v):=by
 have os:uq h k.o 5 av (k.O.flatMap aH.enc) k.g:=(z.own _ (hm _ IS)).1;have one:∀{s:Sl} {kl:ε} {g:Nat},(s.len=0/\kl=[])\/aZ.sl s 1 al (kl.map vi) g∈k.J->IL h s kl:=λ{s kl g} hh=>by
  rcases hh with⟨e1,e2⟩|hj
  .subst e2;exact⟨0,vR.nil e1⟩
  .have o:uq h s 1 al (kl.map vi) g:=(z.own _ (hm _ (BY _ hj))).1;exact⟨g,o.GD⟩
 exact⟨k.O,k.g,rfl,os.GD,λr hr=>⟨one (hk.1.2 r hr).1.1,one (hk.1.2 r hr).1.2⟩⟩
theorem kL.ko (fw:kL N)(h0:Sh.gc N root=0):∃H:Int->Nat,KOr N H/\∀u,H u<=N.length:=
 anp (fw.Yu h0) (fw.sm (fw.Yu h0)) λx hx=>((fw.gv.1 h0).tw x hx).imp λh f q=>h ⟨f,q⟩
section
variable {H:Int->Nat}(KO:KOr N H)(hb:∀u,H u<=N.length)(d:Vd N root)(gv:GV N root)
include KO hb d gv
theorem af7 {K:List KY}(hok:∀k∈K,k.ok N){c9 bk m}(hm:m=K.length){M}(m1:.ar c9 [aA (arr bk m)] gP∈M)(m2:.ar bk ((K.map some).flatMap gc2) aj∈M)(m3:∀k∈K,∀o∈k.own,o∈M)
  {n} {P} {x y} {r} (hn:Tz<=n) (hr:LW (λa b=>gZ N (nth (K.map KY.k) a) (nth (K.map KY.k) b)) m x y=some r) (z:Z h0 h (P++M)) :
  Wp (oR n (Value.func (Fn.func uD) #[] #[Value.pointer (some (ak c9))]) x y) h λb h'=>b=r/\Z h0 h' (P++M):=by
 have hxy:(0<=x/\x<(m:Int))/\0<=y/\y<(m:Int):=by
  unfold LW at hr;split at hr
  .rename_i q;exact⟨⟨q.1,q.2.1⟩,q.2.2⟩
  .cases hr
 obtain⟨hx,hy⟩:=hxy;rw[Ff hx hy] at hr;cases hr;obtain⟨k1,a3⟩:=eC (l:=K) (i:=x.toNat) (by omega);obtain⟨k2,b3⟩:=eC (l:=K) (i:=y.toNat) (by omega);have ex:nth (K.map KY.k) x=k1.k:=by
  obtain⟨a,rfl⟩:∃a:Nat,x=a:=⟨x.toNat,by omega⟩;exact jX (by rw[abh,show K[a]?=some k1 from a3];rfl)
 have ey:nth (K.map KY.k) y=k2.k:=by
  obtain⟨a,rfl⟩:∃a:Nat,y=a:=⟨y.toNat,by omega⟩;exact jX (by rw[abh,show K[a]?=some k2 from b3];rfl)
 have l9:LB h c9 _ _:=(z.own _ (OF _ m1)).1;have lk:LB h bk _ _:=(z.own _ (OF _ m2)).1;have rk:vR h (arr bk m) 2 ((K.map some).flatMap gc2) (bk+1):=LB.GD lk (by rw[eG Gz,acL,hm]);unfold oR tM;rw[By (by rfl),ah];refine iA rfl ?_;unfold xG;refine (LB.cl l9).sL (x:=arr bk m) rfl rfl ?_;refine rk.ixN Gz hx.1 hx.2 (by rw[abh,a3];rfl) λp c1=>c1.gh (ls:=[.sl,li]) (x:=(k1.o,0)) rfl ?_;refine (LB.cl l9).sL (x:=arr bk m) rfl rfl ?_;refine rk.ixN Gz hy.1 hy.2 (by rw[abh,b3];rfl) λp c2=>c2.gh (ls:=[.sl,li]) (x:=(k2.o,0)) rfl ?_;have h1:=IN a3;have h2:=IN b3;have w:Z h h []:=Z.start z.wf;rw[ah];refine (QU KO hb d gv (hok k1 h1).2.1 (hok k2 h2).2.1 (hok k1 h1).2.2 (hok k2 h2).2.2 w (KY.rd (hok k1 h1) z λo ho=>OF _ (m3 k1 h1 o ho)) (KY.rd (hok k2 h2) z λo ho=>OF _ (m3 k2 h2 o ho)) (KY.few (hok k1 h1)) (KY.few (hok k2 h2)) hn).mono λy h3 w=>?_;refine ag.2 ⟨?_,z.pure w.2.fr⟩;rw[w.1,ex,ey]
end
def Yj {m b}(hm:m<1073741824) a0 a1 :
  ∀n i h L ,m-i<n->i<=m->Z h0 h (.ar b (((iota m).take i++List.replicate (m-i) 0).map vi) al::L) ->
   Wp (oT n a0 a1 (arr b m) (m:Int) (i:Int)) h λ_ h'=>Z h0 h' (.ar b ((iota m).map vi) al::L):=by
 intro n
 induction n with
 |zero=>intro i h L h1;omega
 |succ n ih=>
  intro i h L h1 h2 z;rw[Cn];unfold tO;have hl:=gD m;by_cases hi:i<m
  .rw[By (by grind)];refine E7 (by omega) (by omega) ?_;rw[aba];refine z.DV 0 (xs:=(iota m).take i++List.replicate (m-i) 0) (by grind) (λh3 z=>?_);have hf:=fill (qi hi);rw[hl] at hf;rw[hf] at z;rw[wZ h2 (by omega)];exact ih (i+1) h3 L (by omega) (by omega) z
  .rw[AT (by grind),ag]
   grind
theorem Yk (d:Vd N root)(fw:kL N){r0}(G:ou h0 s N){ks}{l}(ik:IL h0 ks l)(hl:l.length<=80)(hv:∀v∈l,KN N v){c9 bk x0} a1 :
  ∀n i h (K:List KY) L ,l.length-i+9000<n->i<=l.length->K.map KY.k=l.take i->(∀k∈K,k.ok N)->Z h0 h (.ar c9 [aA (arr bk l.length)] gP::.ar bk ((K.map some++List.replicate (l.length-i) none).flatMap gc2) aj::.ar x0 [aA s,vi r0] aj::(K.flatMap KY.own++L)) ->
   Wp (oS n (ak x0) a1 (ak c9) ks (l.length:Int) (i:Int)) h λ_ h'=>∃K:List KY,K.map KY.k=l/\(∀k∈K,k.ok N)/\Z h0 h' (.ar c9 [aA (arr bk l.length)] gP::.ar bk ((K.map some).flatMap gc2) aj::.ar x0 [aA s,vi r0] aj::(K.flatMap KY.own++L)):=by
 intro n
 induction n with
 |zero=>intro i h K L h1;omega
 |succ n ih=>
  intro i h K L h1 h2 hK' hok z;have hK:K.length=i:=by have:=alZ List.length hK';rw[acL,ahT] at this;omega
  rw[Cm];unfold tN;by_cases hi:i<l.length
  .rw[By (by grind)];obtain⟨v,hvv⟩:=eC hi;refine (ik.fr z.fr).ix (by omega) (by simpa using hvv) λa g cl=>cl.sL rfl rfl ?_;refine z.ld 0 (x:=arr bk l.length) ?_;refine z.gh 2 (ls:=[.sl,li]) (x:=(s,r0)) ?_;refine xM (λa' ha'=>?_) (alM d fw z G (hv v (IN hvv)) (by omega)) λr h3 hr=>?_
   .simp at ha';subst ha';refine⟨_,_,z.get 0 rfl,λr1 h3 hr1=>?_⟩;obtain⟨_,O,P,o,g,J,_,_,_,_,z⟩:=hr1;exact (z.own _ (BY _ (OF _ IS))).1
   obtain⟨hr2,O,P,o,g,J,hr1,hcp,hO,hOk,z⟩:=hr;obtain⟨r1,r2⟩:=r;have hr1:r1=o:=hr1;have hr2:r2=0:=hr2;subst hr2;subst hr1
   let k:KY:=⟨r1,O,g,J,P,v⟩
   have z:Z h0 h3 (.ar c9 [aA (arr bk l.length)] gP::.ar bk ((K.map some++List.replicate (l.length-i) none).flatMap gc2) aj::.ar x0 [aA s,vi r0] aj::(k.own++(K.flatMap KY.own++L))):=by
    refine z.perm ?_;exact ahR (aZ.sl r1 5 av (O.flatMap aH.enc) g::J) [_,_,_] (K.flatMap KY.own++L)
   refine GF (by omega) (by omega) ?_;have hg:(K.map some++List.replicate (l.length-i) none)[i]?=some none:=by
    grind
   have hset:(K.map some++List.replicate (l.length-i) none).set i (some k)=(K++[k]).map some++List.replicate (l.length-(i+1)) none:=by
    have e:l.length-i=(l.length-(i+1))+1:=(by omega);rw[al8 _ _ (by grind),acL,hK,amW,e,amV,amc,ahO];simp
   have hsp:=sA Gz hg (x':=some k) (o:=0) (vs:=[aA r1,vi 0]) (by simp) rfl;rw[hset,ak4] at hsp;rw[aba];refine z.st 1 (λh4 z=>?_) rfl hsp (by rw[eG Gz,aby,acL,af2];grind) rfl;rw[wZ h2 (by omega)];refine ih (i+1) h4 (K++[k]) L (by omega) (by omega) (by rw[ahO,hK',aov,hvv];rfl) (λk' hk'=>?_) (z.perm (List.Perm.cons _ (List.Perm.cons _ (List.Perm.cons _ ?_))))
   .rcases List.mem_append.1 hk' with hk' | hk'
    .grind
    .rw[ac1] at hk';subst hk';exact⟨⟨hO,hOk⟩,hcp,hv v (IN hvv)⟩
   grind [List.append_assoc,List.flatMap_singleton,List.perm_append_comm_assoc]
  .rw[AT (by grind),ag];have e2:l.length-i=0:=by omega
   rw[al4 (by omega)] at hK';rw[e2,List.replicate_zero,afx] at z;exact⟨K,hK',hok,z⟩
def H5:Nat:=Tz+10000
def HD (fw:kL N)(hc0:Sh.gc N root=0){r0}(z:Z h0 h L)(G:ou h0 s N){a}{x}(hx:gt N a=some x){n}(hn:H5<=n) :
  Wp (om n (s,r0) a) h λy h'=>∃b:Nat,y=arr b x.items.length/\Z h0 h' (.ar b ((cd N a).map vi) al::L):=by
 have d:=fw.Yu hc0;have gv:=fw.gv.1 hc0;obtain⟨H,KO,hbH⟩:=kL.ko fw hc0;have oa:cd N a=jy (gZ N) x:=by unfold cd;rw[hx]
 obtain⟨g1,g2⟩:=aB hx;have hxm:=ax hx;obtain⟨hil,hkl⟩:=fw.map x hxm;have hn1:Tz+10000<=n:=hn;have hz:80000<=Tz:=aoo _ _;unfold om;refine z.new λx0 h1 z _=>?_;refine z.ld 0 (x:=s) ?_;refine G.at z g1 g2 λaa ks is nd ik ii=>nd.gh ?_;refine z.node λx4 h2 z=>?_;refine z.ld 0 (x:=is) ?_;rw[ii.len];refine z.Mi (ald _) (by grind [da]) λb h3 z _=>?_;rw[aba] at z⊢;rw[pI] at z;rw[ah];refine (Yj (m:=x.items.length) (by omega) (ak x0) (ak x4) n 0 h3 _ (by omega) (by omega) (by simpa using z)).mono λ_ h4 z=>?_;refine z.ld 1 ?_;have fin:∀{h4:ai},Z h0 h4 (.ar b ((iota x.items.length).map vi) al::.ar x4 [vi x.kind,.string x.text,.bool x.ord,aA ks,aA is] av::.ar x0 [aA s,vi r0] aj::L)->Wp (AI (arr b x.items.length)) h4 λy h'=>∃b:Nat,y=arr b x.items.length/\Z h0 h' (.ar b ((iota x.items.length).map vi) al::L):=λz=>by
  rw[ag];exact⟨b,rfl,z.sub (List.Sublist.cons₂ _ (List.Sublist.cons _ (ahy _ _)))⟩
 by_cases k1:x.kind=10
 rotate_left
 .rw[By (by grind),oa,sF (λq=>k1 q.1)];exact fin z
 rw[AT (by grind)];refine z.ld 1 ?_;cases ho:x.ord with
 |true=>rw[By rfl,oa,sF (λq=>by rw[ho] at q;cases q.2)];rw[ho] at fin z;exact fin z
 |false=>
 rw[AT (by simp)];have hki:=d.map hxm k1;unfold wb;refine z.ld 1 (x:=ks) ?_;rw[ik.len];refine z.Mi (ald _) (by grind [da]) λbk h5 z _=>?_;rw[aba] at z⊢;refine z.new λc9 h6 z _=>z.st 0 λh7 z=>?_;refine z.ld 3 (x:=ks) ?_;have z:Z h0 h7 (.ar c9 [aA (arr bk x.keys.length)] gP::.ar bk (List.replicate x.keys.length [aE,vi 0]).flatten aj::.ar x0 [aA s,vi r0] aj::.ar b ((iota x.items.length).map vi) al::.ar x4 [vi x.kind,.string x.text,.bool x.ord,aA ks,aA is] av::L):=Z.nK (pre:=[_,_,_,_,_]) z [0,1,4,2,3] (by grind);have erep:(List.replicate x.keys.length [aE,vi 0]).flatten=(([]:List KY).map some++List.replicate (x.keys.length-0) none).flatMap gc2:=by
  rw[apD,afk,apB,List.flatMap,am0];rfl
 rw[erep] at z;rw[ik.len,ah];refine (Yk d fw G ik hkl (λv hv=>.key hxm hv) (arr b x.items.length) n 0 h7 [] _ (by omega) (by omega) rfl (λk hk=>by cases hk) z).mono λ_ h8 hy=>?_;obtain⟨K,hK',hok,z⟩:=hy;have hK:K.length=x.keys.length:=by rw[<-hK',acL]
 rw[ah];have hmid:Z h0 h8 (.ar b ((iota x.items.length).map vi) al::([]++(.ar c9 [aA (arr bk x.keys.length)] gP::.ar bk ((K.map some).flatMap gc2) aj::.ar x0 [aA s,vi r0] aj::(K.flatMap KY.own++(.ar x4 [vi x.kind,.string x.text,.bool x.ord,aA ks,aA is] av::L))))):=by
  refine z.perm ?_;have p1:(.ar c9 [aA (arr bk x.keys.length)] gP::.ar bk ((K.map some).flatMap gc2) aj::.ar x0 [aA s,vi r0] aj::(K.flatMap KY.own++(.ar b ((iota x.items.length).map vi) al::.ar x4 [vi x.kind,.string x.text,.bool x.ord,aA ks,aA is] av::L))).Perm (([.ar c9 [aA (arr bk x.keys.length)] gP,.ar bk ((K.map some).flatMap gc2) aj,.ar x0 [aA s,vi r0] aj]++K.flatMap KY.own)++(.ar b ((iota x.items.length).map vi) al::.ar x4 [vi x.kind,.string x.text,.bool x.ord,aA ks,aA is] av::L)):=by simp
  grind [List.perm_middle]
 have il:=gD x.items.length;have hm50:=fw.sm d x hxm k1;have so:=KO.so hxm k1 (f:=N.length+1) λk _=>by have:=hbH k;omega
 have hms:=af4 so hm50 (k:=x.items.length+1) (by omega);have mg:=acB (lt:=LW (λa b=>gZ N (nth x.keys a) (nth x.keys b)) x.items.length)
  (λ{n h P u v r} hn hr z=>af7 KO hbH d gv hok (m:=x.keys.length) hK.symm IS (BY _ IS) (λk hk o ho=>BY _ (BY _ (BY _ (acC _ (List.mem_flatMap.2 ⟨k,hk,ho⟩))))) hn (by rw[hki,hK'];exact hr) z)
  (x.items.length+1) n (iota x.items.length) (Gm (λa b=>gZ N (nth x.keys a) (nth x.keys b)) x.items.length) b (x.items.length+1) h8 [] (by omega) (by omega) hms hmid
 rw[il] at mg;refine mg.mono λ_ h9 z=>?_;have oe:jy (gZ N) x=Gm (λa b=>gZ N (nth x.keys a) (nth x.keys b)) x.items.length:=By ⟨k1,ho⟩;rw[ag,oa,oe];refine⟨b,rfl,z.sub (List.Sublist.cons₂ _ ?_)⟩;exact ((((ahy _ L).trans (ahY _ _)).trans (ahy _ _)).trans (ahy _ _)).trans (ahy _ _)
def TA (hc0:Sh.gc N root=0)(fw:kL N){r0}(z:Z h0 h L)(G:ou h0 s N){a}{x}(hx:gt N a=some x){n}(hn:H5<=n) :
  Wp (om n (s,r0) a) h λy h'=>∃(b:Nat) (r:ε),y=arr b x.items.length/\r.Perm (iota x.items.length)/\Z h0 h' (.ar b (r.map vi) al::L):=
 (HD fw hc0 z G hx hn).mono λy h' hy=>by
  obtain⟨b,e,z⟩:=hy;have oa:cd N a=jy (gZ N) x:=by unfold cd;rw[hx]
  exact⟨b,cd N a,e,by rw[oa];exact w6 _ x,z⟩
end Go.Sh
namespace Go.Sh
open Go Go.Ago Go.Proofs
variable {N N':List aq}{root:Int}{F:ε}
def IE (N:List aq)(u v:Int):Prop:=∃x,gt N u=some x/\v∈x.items
inductive tW (N:List aq) (u:Int):Int->Prop
 |refl:tW N u u
 |step {v w:Int}:tW N u v->IE N v w->tW N u w
def CyA (N:List aq)(root:Int):Prop:=∃H:Int->Nat,∀u,tW N root u->∀v,IE N u v->H v<H u
theorem CyA.no (h:CyA N root){u w}(hu:tW N root u)(r:tW N u w)(e:IE N w u):False:=by
 obtain⟨H,hH⟩:=h;have h1:∀{w:Int},tW N u w->tW N root w/\H w<=H u:=λr=>by
  induction r with
  |refl=>grind
  |step _ e ih=>exact⟨ih.1.step e,by grind⟩
 grind
def Yl (N:List aq)(F:ε):Prop:=∀(i:Nat) (u v:Int),F[i]?=some u->IE N u v->∃j,j<i/\F[j]?=some v
theorem Yl.add (h:Yl N F){a}(ha:∀v,IE N a v->v∈F):Yl N (F++[a]):=λi u v hu e=>by
 by_cases hi:i<F.length
 .rw[ahQ hi] at hu;obtain⟨j,j1,j2⟩:=h i u v hu e;exact⟨j,j1,by grind⟩
 .rw[agj (by omega)] at hu;have hi2:=(List.getElem?_eq_some_iff.1 hu).1;rw[ahX] at hi2;have hz:i-F.length=0:=by omega
  rw[hz] at hu;cases hu;obtain⟨j,hj⟩:=List.mem_iff_getElem?.1 (ha v e);have:=aJ hj;exact⟨j,by omega,by grind⟩
theorem acE:∀{F:ε} {j} {v},F[j]?=some v->F.idxOf v<=j
 |[],j,v,h=>by simp at h
 |a::F,0,v,h=>by grind
 |a::F,j+1,v,h=>by
  have:=acE (by simpa using h)
  grind
theorem Yl.cya (h:Yl N F)(hr:root∈F):CyA N root:=by
 have up:∀{u},u∈F->∀v,IE N u v->v∈F/\F.idxOf v<F.idxOf u:=λ{u} hu v e=>by
  have h1:F[F.idxOf u]?=some u:=by
   grind
  obtain⟨j,j1,j2⟩:=h _ u v h1 e;have:=acE j2
  grind
 have all:∀{u},tW N root u->u∈F:=λ{u} r=>by
  induction r with
  |refl=>exact hr
  |step _ e ih=>grind
 exact⟨λu=>F.idxOf u,λu hu v e=>(up (all hu) v e).2⟩
structure YG (N:List aq) (root:Int) (ms os F:ε):Prop where
 l1:ms.length=N.length
 p:os.length+ms.count 0<=N.length
 v:∀j w,gt ms j=some w->w=0\/w=1\/w=2
 op:∀j,gt ms j=some 1↔j∈os
 fi:∀j,gt ms j=some 2↔j∈F
 ok:Yl N F
 ch:∀(i:Nat) u w,os[i]?=some u->os[i+1]?=some w->IE N u w
 r:∀u∈os,tW N root u
def YG.way {ms os}(g:YG N root ms os F):∀(k i:Nat) u w ,os[i]?=some u->os[i+k]?=some w->tW N u w
 |0,i,u,w,hu,hw=>by rw[ak4,hu] at hw;cases hw;exact .refl
 |k+1,i,u,w,hu,hw=>by
  have hlt:=aJ hw;obtain⟨m,hm⟩:=eC (l:=os) (i:=i+k) (by omega);exact (g.way k i u m hu hm).step (g.ch (i+k) m w hm hw)
theorem CE {ms:ε}{i}{v w}(h:ms[i]?=some w)(hv:v≠0):(ms.set i v).count 0+(if w=0 then 1 else 0)=ms.count 0:=by
 grind
theorem qH {α}{ms:List α}{i j}{v}(hi:0<=i)(hl:i.toNat<ms.length):gt (ms.set i.toNat v) j=if j=i then some v else gt ms j:=by
 grind [gt]
theorem YG.push {ms os}(g:YG N root ms os F){a}(ha:gt ms a=some 0)(hr:tW N root a)(hl:∀u,os.getLast?=some u->IE N u a):YG N root (ms.set a.toNat 1) (os++[a]) F:=by
 obtain⟨a1,a2⟩:=aB ha;have a3:=aJ a2;have hc:=CE (v:=1) a2 (by decide);rw[By rfl] at hc;have hp:=g.p;refine⟨by simp[g.l1],by grind,λj w hj=>?_,λj=>?_,λj=>?_,g.ok,λi u w hu hw=>?_,λu hu=>?_⟩
 .rw[qH a1 a3] at hj;split at hj
  .grind
  .exact g.v j w hj
 .rw[qH a1 a3,afK,ac1,<-g.op]
  grind
 .rw[qH a1 a3,<-g.fi]
  grind
 .have hlt:=aJ hw;rw[aby,ahX] at hlt;rw[ahQ (by omega)] at hu;by_cases h2:i+1<os.length
  .rw[ahQ h2] at hw;exact g.ch i u w hu hw
  grind
 .rcases List.mem_append.1 hu with hu|hu
  .exact g.r u hu
  grind
theorem YG.pop {ms os}{a}(g:YG N root ms (os++[a]) F)(ha:a∉os)(hd:∀v,IE N a v->v∈F):YG N root (ms.set a.toNat 2) os (F++[a]):=by
 have h1:gt ms a=some 1:=(g.op a).2 (OF _ IS);obtain⟨a1,a2⟩:=aB h1;have a3:=aJ a2;have hc:=CE (v:=2) a2 (by decide);rw[AT (by decide)] at hc;have hp:=g.p;rw[aby,ahX] at hp;refine⟨by simp[g.l1],by omega,λj w hj=>?_,λj=>?_,λj=>?_,g.ok.add hd,λi u w hu hw=>?_,λu hu=>g.r u (acC _ hu)⟩
 .rw[qH a1 a3] at hj;split at hj
  .grind
  .exact g.v j w hj
 .rw[qH a1 a3];split
  .grind
  .rename_i e;rw[g.op,afK,ac1];simp[e]
 .rw[qH a1 a3,afK,ac1,<-g.fi]
  grind
 .have h2:=aJ hu;have h3:=aJ hw;exact g.ch i u w (by grind) (by grind)
theorem YG.cyc {ms os}{a q}(g:YG N root ms (os++[a]) F)(hq:gt ms q=some 1)(e:IE N a q):¬CyA N root:=λhc=>by
 obtain⟨i,hi⟩:=List.mem_iff_getElem?.1 ((g.op q).1 hq);have hlt:=aJ hi;rw[aby,ahX] at hlt;refine hc.no (g.r q ((g.op q).1 hq)) (g.way (os.length-i) i q a hi ?_) e
 grind
end Go.Sh
namespace Go.Sh
open Go Go.Ago Go.Proofs
variable {α β:Type}{h h' h0:ai}{L:List aZ}{Q:β->ai->Prop}{s:Sl}{root:Int}{N:List aq}
def Lc {m}{x}(hx:x∈iota m):0<=x/\x<(m:Int):=by have:=(ic m).2 x hx;omega
theorem acF {l:List α}{i:Nat}:gt l (i:Int)=l[i]?:=by unfold gt;grind
def HG {a:Int}{x:aq}(hx:gt N a=some x):(cd N a).Perm (iota x.items.length):=by
 have oa:cd N a=jy (gZ N) x:=by unfold cd;rw[hx]
 rw[oa];exact w6 (gZ N) x
structure OC where
 x7:Nat
 bm:Nat
 x9:Nat
 x0:Nat
 x3:Nat
 be:Nat
 dZ:Nat
def OC.fn (c:OC):ξ:=Value.func (Fn.func rC) #[] #[pv c.x7,pv c.x9,pv c.x0,pv c.x3,pv c.dZ]
def OC.own (c:OC)(N:List aq)(s:Sl)(root:Int)(ms:List Bool)(os:ε)(es:List Sl)(so:Sl)(g:Nat):List aZ:=
 [.ar c.x7 [aA (arr c.bm N.length)] wW,.ar c.bm (ms.map .bool) Ep,.ar c.x9 [aA so] aF,.sl so 1 al (os.map vi) g,.ar c.x0 [aA s,vi root] aj,.ar c.x3 [aA (arr c.be N.length)] nB,.ar c.be (es.map aA) aF,.ar c.dZ [c.fn] uC]
def EnO (N:List aq)(es:List Sl)(M:List aZ)(j:Int):Prop:=∃x b,gt N j=some x/\gt es j=some (arr b x.items.length)/\aZ.ar b ((cd N j).map vi) al∈M
structure OI (N:List aq) (c:Nat) (ms:List Bool) (os:ε) (es:List Sl) (so:Sl) (M:List aZ):Prop where
 l1:ms.length=N.length
 l2:es.length=N.length
 l3:so.len=os.length
 rng:∀x∈os,0<=x/\x<(N.length:Int)
 gC:os.length+ms.count false<=N.length
 c:ms.count false<=c
 mem:∀j,gt ms j=some true->j∈os
 en:∀j,gt ms j=some true->EnO N es M j
structure OD (N:List aq) (ms ms':List Bool):Prop where
 mo:∀j,gt ms j=some true->gt ms' j=some true
 cl:∀u,gt ms' u=some true->gt ms u=some true\/∀v,IE N u v->gt ms' v=some true
theorem OD.anz {ms}:OD N ms ms:=⟨λ_ h=>h,λ_ h=>.inl h⟩
theorem OD.trans {a b c}(h:OD N a b)(h':OD N b c):OD N a c:=
 ⟨λj x=>h'.mo j (h.mo j x),λu x=>(h'.cl u x).elim (λy=>(h.cl u y).elim .inl λz=>.inr λv e=>h'.mo v (z v e)) .inr⟩
def acG (C:OC)(N:List aq)(s:Sl)(root:Int)(c:Nat)(ms0:List Bool)(T:List Bool->Prop)(h0:ai)(L:List aZ)(h':ai):Prop:=
 ∃ms os es so g J,OI N c ms os es so (J++L)/\OD N ms0 ms/\T ms/\Z h0 h' (C.own N s root ms os es so g++(J++L))
def OI.mono {c c'}{ms}{os}{es}{so}{M M':List aZ}(I:OI N c ms os es so M)(hc:c<=c')(hM:∀o∈M,o∈M'):OI N c' ms os es so M':=⟨I.l1,I.l2,I.l3,I.rng,I.gC,acY I.c hc,I.mem,λj hj=>let ⟨x,b,h1,h2,h3⟩:=I.en j hj;⟨x,b,h1,h2,hM _ h3⟩⟩
theorem count_set {ms:List Bool}{i}(h:ms[i]?=some false):(ms.set i true).count false+1=ms.count false:=by
 grind
def Ov (z:Z h0 h L)(G:ou h0 s N){x0 i:Nat}(hi:L[i]?=some (.ar x0 [aA s,vi root] aj)){a p q}{x}(hx:gt N a=some x)(hp:gt x.items p=some q){f:Int->M β}(hq:Wp (f q) h Q) :
  Wp (sh (dL .sl ((ak x0).plus 0)) λ(y:Sl)=>sh (mz y a 5) λb=>sh (dL .sl (b.plus 4)) λ(y:Sl)=>sh (mz y p 1) λb=>sh (dL li b) f) h Q:=by
 obtain⟨g1,g2⟩:=aB hx;obtain⟨p1,p2⟩:=aB hp;refine z.ld i (x:=s) ?_ hi;refine G.at z g1 g2 λaa ks is nd ik ii=>nd.Lq ?_;exact (ii.fr z.fr).ix p1 p2 λa1 g c=>c.sL rfl rfl hq
def PO (C:OC)(N:List aq)(s:Sl)(root:Int)(c:Nat)(h0:ai):Prop:=
 ∀(n:Nat) (a:Int) (ms:List Bool) (os:ε) (es:List Sl) (so:Sl) (g:Nat) (h:ai) (L:List aZ),c*200+H5+200<=n->gt ms a=some false->OI N c ms os es so L->Z h0 h (C.own N s root ms os es so g++L) ->
  Wp (ml n a (ak C.x7) (ak C.x9) (ak C.x0) (ak C.x3) (ak C.dZ)) h λ_ h'=>acG C N s root c ms (λms'=>gt ms' a=some true) h0 L h'
def QO (C:OC)(N:List aq)(s:Sl)(root:Int)(c:Nat)(h0:ai):Prop:=
 ∀(n i:Nat) (a:Int) (x:aq) (b:Nat) (r:ε) (ms:List Bool) (os:ε) (es:List Sl) (so:Sl) (g:Nat) (h:ai) (L:List aZ),c*200+H5+200+(r.length-i)+1<=n->i<=r.length->r.length<=80->(∀p∈r,0<=p/\p<(x.items.length:Int))->gt N a=some x->OI N c ms os es so (.ar b (r.map vi) al::L) ->
  Z h0 h (C.own N s root ms os es so g++.ar b (r.map vi) al::L) ->
  Wp (fA n a (ak C.x7) (ak C.x0) (ak C.dZ) (arr b r.length) (r.length:Int) (i:Int)) h λ_ h'=>acG C N s root c ms (λms'=>∀(j:Nat) (p q:Int),i<=j->r[j]?=some p->gt x.items p=some q->gt ms' q=some true) h0 (.ar b (r.map vi) al::L) h'
theorem acH (G:ou h0 s N)(hI:pC N N.length){C}{c}(hP:PO C N s root c h0):QO C N s root c h0:=by
 intro n
 induction n with
 |zero=>intro i a x b r ms os es so g h L h1;omega
 |succ n ih=>
  intro i a x b r ms os es so g h L hn hi hr hp hx I z;rw[Bl];unfold sf;by_cases hlt:i<r.length
  .rw[By (by grind)];obtain⟨p,hpi⟩:=eC hlt;have hpr:=hp p (IN hpi);obtain⟨q,hq⟩:=eC (l:=x.items) (i:=p.toNat) (by omega);have hgq:gt x.items p=some q:=by unfold gt;grind
   obtain⟨y1,y3⟩:=(hI x (ax hx)).2 q (IN hq);obtain⟨mb,hmb⟩:=eC (l:=ms) (i:=q.toNat) (by have:=I.l1;omega);have hgm:gt ms q=some mb:=by unfold gt;grind
   have next:∀{h2:ai} {ms':List Bool} {os':ε} {es':List Sl} {so':Sl} {g':Nat} {J:List aZ},OD N ms ms'->gt ms' q=some true->OI N c ms' os' es' so' (J++.ar b (r.map vi) al::L)->Z h0 h2 (C.own N s root ms' os' es' so' g'++(J++.ar b (r.map vi) al::L)) ->
     Wp (fA n a (ak C.x7) (ak C.x0) (ak C.dZ) (arr b r.length) (r.length:Int) ((i+1:Nat):Int)) h2 λ_ h'=>acG C N s root c ms (λms'=>∀(j:Nat) (p q:Int),i<=j->r[j]?=some p->gt x.items p=some q->gt ms' q=some true) h0 (.ar b (r.map vi) al::L) h':=λ{_ _ _ _ _ _ J} hd hq2 I' z=>by
    refine (ih (i+1) a x b r _ _ _ _ _ _ (J++L) (by omega) (by omega) hr hp hx (I'.mono (abi _) λo ho=>List.perm_middle.mem_iff.1 ho) (z.perm (aiw _ al2))).mono λ_ h3 hy=>?_;obtain⟨ms2,os2,es2,so2,g2,J2,I2,hd2,hT,z⟩:=hy;have pm:(J2++.ar b (r.map vi) al::(J++L)).Perm ((J2++J)++.ar b (r.map vi) al::L):=by
     rw[acX];exact aiw _ List.perm_middle.symm
    refine⟨ms2,os2,es2,so2,g2,J2++J,I2.mono (abi _) λo ho=>pm.mem_iff.1 ho,hd.trans hd2,λj p' q' hj hjr hgx=>?_,z.perm (aiw _ pm)⟩;by_cases e:j=i
    .subst e;rw[hpi] at hjr;cases hjr;rw[hgq] at hgx;cases hgx;exact hd2.mo q hq2
    .exact hT j p' q' (by omega) hjr hgx
   refine E7 (by omega) (by omega) ?_;refine z.ld 8 ?_ rfl (by rw[aba,abh,hpi];rfl) rfl;refine z.ld 0 (x:=arr C.bm N.length) ?_;refine Ov z G (i:=4) rfl hx hgq ?_;refine E7 y1 (by omega) ?_;refine z.ld 1 ?_ rfl (by rw[abh,hmb];rfl) rfl;rw[wZ hi (by omega)];cases mb with
   |true=>
    rw[AT (by simp)];exact next (J:=[]) .anz hgm I z
   |false=>
    rw[By (by rfl)];refine z.ld 7 ?_;refine Ov z G (i:=4) rfl hx hgq ?_;unfold qQ;rw[By (by rfl),ah,ah];refine iA (c:=(ak C.x7,ak C.x9,ak C.x0,ak C.x3,ak C.dZ)) rfl ?_;refine (hP n q ms os es so g h _ (by omega) hgm I z).mono λ_ h2 hy=>?_;obtain⟨ms',os',es',so',g',J,I',hd,hq2,z⟩:=hy;exact next hd hq2 I' z
  .rw[AT (by grind),ag];exact⟨ms,os,es,so,g,[],I,.anz,λj p q hj hjr _=>by grind,z⟩
theorem Ym (G:ou h0 s N)(d:Vd N root)(hg:Sh.gc N root=0)(fw:kL N){C}{c}(hQ:QO C N s root c h0):PO C N s root (c+1) h0:=by
 have hN:=fw.len;intro n a ms os es so g h L hn ha I z;obtain⟨a1,a2⟩:=aB ha;have a3:=aJ a2;have hl1:=I.l1;have hl2:=I.l2;have hl3:=I.l3;have hc1:=I.gC;have hc2:=I.c;have hcs:=count_set a2;obtain⟨x,hx⟩:=eC (l:=N) (i:=a.toNat) (by omega);have hgx:gt N a=some x:=by unfold gt;grind
 have hbd:=fw.map x (IN hx);obtain⟨n,rfl⟩:∃m,n=m+1:=⟨n-1,by omega⟩;rw[ER];unfold wc;refine z.ld 0 (x:=arr C.bm N.length) ?_;refine E7 a1 (by omega) ?_;refine z.DV 1 (by omega) λh2 z=>?_;refine z.ld 2 (x:=so) ?_;refine z.Oc 3 (new:=[vi a]) rfl (by decide) rfl (by grind [da]) λso' h3 g' hs' z _=>?_;refine z.st 2 λh4 z=>?_;refine z.ld 5 (x:=arr C.be N.length) ?_;refine z.gh 4 (ls:=[.sl,li]) (x:=(s,root)) ?_;have z:Z h0 h4 (C.own N s root (ms.set a.toNat true) (os++[a]) es so' g'++L):=by rw[OC.own,ahO];exact z
 refine xM ?_ (HD fw hg z G hgx (by omega)) λy h5 hy=>?_
 .intro a' ha';simp at ha';subst ha';refine⟨_,_,z.get 5 rfl,λr1 h3 hr1=>?_⟩;obtain⟨b,_,z⟩:=hr1;exact z.get 6 rfl
 obtain⟨b,rfl,z⟩:=hy;have hr:=HG hgx;obtain⟨r,er⟩:∃r,r=cd N a:=⟨_,rfl⟩;rw[<-er] at hr z;have hrl:r.length=x.items.length:=by rw[hr.length_eq,gD]
 refine E7 a1 (by omega) ?_;refine z.DV 7 (xs:=es) (by omega) λh6 z=>?_;refine z.ld 6 (x:=arr C.be N.length) ?_;refine E7 a1 (by omega) ?_;refine z.ld 7 (x:=arr b x.items.length) ?_ rfl (by rw[abh,al5 (by omega)];rfl) rfl;have z:Z h0 h6 (C.own N s root (ms.set a.toNat true) (os++[a]) (es.set a.toNat (arr b x.items.length)) so' g'++.ar b (r.map vi) al::L):=Z.perm (L:=.ar b (r.map vi) al::(C.own N s root (ms.set a.toNat true) (os++[a]) (es.set a.toNat (arr b x.items.length)) so' g'++L)) z List.perm_middle.symm;rw[ah,<-hrl];rw[<-hrl] at z;refine (hQ n 0 a x b r _ _ _ so' g' h6 L (by omega) (by omega) (by omega) (λp hp=>Lc (hr.mem_iff.1 hp)) hgx ⟨by grind,by grind,by grind,λq hq=>?_,?_,by omega,λj hj=>?_,λj hj=>?_⟩ z).mono λ_ h7 hy=>?_
 .rcases List.mem_append.1 hq with hq|hq
  .exact I.rng q hq
  grind
 .grind
 .rw[qH a1 a3] at hj;split at hj
  .grind
  .exact acC _ (I.mem j hj)
 .rw[qH a1 a3] at hj;by_cases e:j=a
  .subst e;exact⟨x,b,hgx,by rw[qH a1 (by omega),By rfl,hrl],by rw[<-er];exact IS⟩
  .rw[AT e] at hj;obtain⟨x',b',e1,e2,e3⟩:=I.en j hj;exact⟨x',b',e1,by rw[qH a1 (by omega),AT e];exact e2,BY _ e3⟩
 .obtain⟨ms',os',es',so2,g2,J,I',hd,hT,z⟩:=hy;rw[ag];have ha2:gt ms' a=some true:=hd.mo a (by rw[qH a1 a3,By rfl]);have pm:(J++.ar b (r.map vi) al::L)=(J++[.ar b (r.map vi) al])++L:=by simp
  refine⟨ms',os',es',so2,g2,J++[.ar b (r.map vi) al],I'.mono (by omega) λo ho=>by rw[<-pm];exact ho,⟨λj hj=>hd.mo j ?_,λu hu=>?_⟩,ha2,by rw[<-pm];exact z⟩
  .grind [qH]
  .rcases hd.cl u hu with h8|h8
   .rw[qH a1 a3] at h8;split at h8
    .rename_i e;refine .inr λv hv=>?_;obtain⟨x',hx',hvm⟩:=hv;rw[e,hgx] at hx';cases hx';obtain⟨j,hj⟩:=List.mem_iff_getElem?.1 hvm;have hjl:=aJ hj;have hji:(j:Int)∈r:=hr.mem_iff.2 (IN (qi hjl));obtain⟨k,hk⟩:=List.mem_iff_getElem?.1 hji;exact hT k (j:Int) v (alg _) hk (by grind [acF])
    grind
   grind
theorem af8 (G:ou h0 s N)(d:Vd N root)(hg:Sh.gc N root=0)(fw:kL N) C:∀c,PO C N s root c h0:=by
 intro c
 induction c with
 |zero=>
  intro n a ms os es so g h L hn ha I z;have:=count_set (aB ha).2;have:=I.c;omega
 |succ c ih=>exact Ym G d hg fw (acH G d.ix ih)
theorem acI (fw:kL N)(z:Z h0 h L)(G:ou h0 s N)(hg:gc N root=0){n}(hn:H5+9000<=n) :
  Wp (sE n (s,root)) h λy h'=>∃(os:ε) (g:Nat),(∀x∈os,0<=x/\x<(N.length:Int))/\os.length<=N.length/\(∀v,tW N root v->v∈os)/\y.1.len=os.length/\∃be es J,y.2=arr be N.length/\es.length=N.length/\(∀v,tW N root v->EnO N es (J++L) v)/\Z h0 h' (.sl y.1 1 al (os.map vi) g::.ar be (es.map aA) aF::(J++L)):=by
 have d:=fw.Yu hg;have hN:=fw.len;unfold sE;refine z.new λx0 h1 z _=>?_;refine z.ld 0 ?_;rw[G.len];refine z.Mi (ald _) (by grind [da]) λbe h2 z f2=>?_;rw[aba] at z⊢;rw[show (List.replicate N.length [aE]).flatten=(List.replicate N.length ow).map aA from pI (enc:=aA) (x:=ow) _] at z;refine z.new λx3 h3 z _=>z.st 0 λh4 z=>?_;refine z.ld 2 (x:=s) ?_;rw[G.len];refine z.Mi (ald _) (by grind [da]) λbm h5 z f2=>?_;rw[aba] at z⊢;rw[pI] at z;refine z.new λx7 h6 z _=>z.st 0 λh7 z=>?_;refine z.new λx9 h8 z _=>?_;refine z.new λdZ h9 z _=>z.st 0 λh10 z=>?_;refine z.ld 0 (x:=(⟨x7,bm,x9,x0,x3,be,dZ⟩:OC).fn) ?_;refine z.ld 6 (x:=root) ?_;have z:=z.add (Fr.refl z.wf) (o:=.sl ⟨none,0,0⟩ 1 al [] 0) uq.nil (.inl rfl);have z:Z h0 h10 ((⟨x7,bm,x9,x0,x3,be,dZ⟩:OC).own N s root (List.replicate N.length false) [] (List.replicate N.length ow) ow 0++L):=Z.nK (pre:=[_,_,_,_,_,_,_,_]) z [3,4,2,0,7,5,6,1] (by simp only[abK,agt];decide);obtain⟨g1,g2⟩:=d.rt;rw[ah];unfold we;rw[By (by rfl),ah];refine iA (c:=(ak x7,ak x9,ak x0,ak x3,ak dZ)) rfl ?_;have grep:∀{j:Int},gt (List.replicate N.length false) j≠some true:=λ{j} hj=>by
  obtain⟨j1,j2⟩:=aB hj
  grind
 refine (af8 G d hg fw _ N.length n root (List.replicate N.length false) [] (List.replicate N.length ow) ow 0 h10 L (by omega) (by grind [gt]) ⟨af2,af2,rfl,(λx hx=>by cases hx),by simp,by simp,λj hj=>(grep hj).elim,λj hj=>(grep hj).elim⟩ z).mono λ_ h11 hy=>?_;obtain⟨ms,os,es,so,g,J,I,hd,hrt,z⟩:=hy;refine z.ld 2 (x:=so) ?_;refine z.ld 5 (x:=arr be N.length) ?_;rw[ag];have:=I.gC;have mt:∀v,tW N root v->gt ms v=some true:=λv hv=>by
  induction hv with
  |refl=>exact hrt
  |step _ e ih=>exact (hd.cl _ ih).elim (λx=>(grep x).elim) λx=>x _ e
 exact⟨os,g,I.rng,by omega,λv hv=>I.mem v (mt v hv),I.l3,be,es,J,rfl,I.l2,λv hv=>I.en v (mt v hv),z.drop.drop.drop.sub (.cons₂ _ (.cons _ (.cons _ (.cons₂ _ (.cons _ (.refl _))))))⟩
end Go.Sh
namespace Go.Ago
open Go
variable {α β:Type}{h h' h0:ai}{L:List aZ}{Q:β->ai->Prop}
theorem Z.anA (z:Z h0 h L)(i:Nat){s}{e}{cs}{g}(hi:L[i]?=some (.ps s 1 e cs g)){k}(hk:k<cs.length){f}
  (q:∀s',s'.len=cs.length-k->Ago.Jd s' 1 h=some (cs.drop k,h)->Wp (f s') h Q):Wp (sh (iM s (k:Int) (s.len:Int) e 1) f) h Q:=by
 have o:zb h s 1 e cs g:=z.get i hi;obtain⟨h1,h2⟩:=o;rcases h2 with⟨rfl,_⟩|⟨g1,g2,c0,b,base,c,ha,hg,ht⟩
 .simp at h1;subst h1;simp at hk
 have hle:cs.length<=c.length:=by grind
 rw[ah];refine sB (by omega) (by omega) (by omega) (by unfold lO;simp_all) (q _ (by grind) ?_);have e1:(k:Int).toNat*1=k:=by omega
 have e2:((s.len:Int).toNat-(k:Int).toNat)*1=cs.length-k:=by omega
 obtain⟨m,hm⟩:∃m,(s.len:Int).toNat-(k:Int).toNat=m+1:=⟨cs.length-k-1,by omega⟩;unfold Ago.Jd bu;simp only[ha,amS,Addr.plus,hg,e1,hm,adr];rw[By (by omega)]
 grind [List.drop_take]
end Go.Ago
namespace Go.Sh
open Go Go.Ago Go.Proofs
variable {α β:Type}{h h' h0:ai}{L:List aZ}{Q:β->ai->Prop}{s:Sl}{root:Int}{N:List aq}
structure CY where
 x5:Nat
 bm:Nat
 x7:Nat
 x0:Nat
 x8:Nat
 x9:Nat
def CY.fn (c:CY):ξ:=Value.func (Fn.func qt) #[] #[pv c.x5,pv c.x7,pv c.x0,pv c.x8,pv c.x9]
def CY.own (c:CY)(N:List aq)(s:Sl)(root:Int)(ms os:ε)(so:Sl)(g:Nat):List aZ:=
 [.ar c.x5 [aA (arr c.bm N.length)] aF,.ar c.bm (ms.map vi) al,.ar c.x7 [aA so] aF,.ps so 1 al (os.map vi) g,.ar c.x0 [aA s,vi root] aj,.ar c.x9 [c.fn] BH,.ar c.x8 [aA ow] aF]
def YR {γ:Type}(C:CY)(N:List aq)(s:Sl)(root:Int)(ms os F:ε)(T:ε->Prop)(h0:ai)(L:List aZ)(t f:γ)(y:γ)(h':ai):Prop:=
 (y=t/\¬CyA N root/\∃v8,Z h0 h' (.ar C.x8 [aA v8] aF::L)) \/
 (y=f/\∃ms' so g F',YG N root ms' os F'/\(∀u∈F,u∈F')/\ms'.count 0<=ms.count 0/\T F'/\Z h0 h' (C.own N s root ms' os so g++L))
def PY (C:CY)(N:List aq)(s:Sl)(root:Int)(c:Nat)(h0:ai):Prop:=
 ∀(n:Nat) (a:Int) (ms os F:ε) (so:Sl) (g:Nat) (h:ai) (L:List aZ),c*200+H5+200<=n->gt ms a=some 0->ms.count 0<=c->YG N root ms os F->tW N root a->(∀u,os.getLast?=some u->IE N u a)->Z h0 h (C.own N s root ms os so g++L) ->
  Wp (kJ n a (ak C.x5) (ak C.x7) (ak C.x0) (ak C.x8) (ak C.x9)) h λy h'=>YR C N s root ms os F (λF'=>a∈F') h0 L true false y h'
def QY (C:CY)(N:List aq)(s:Sl)(root:Int)(c:Nat)(h0:ai):Prop:=
 ∀(n i:Nat) (a:Int) (x:aq) (b:Nat) (r ms os F:ε) (so:Sl) (g:Nat) (h:ai) (L:List aZ),c*200+H5+200+(r.length-i)+1<=n->i<=r.length->r.length<=80->(∀p∈r,0<=p/\p<(x.items.length:Int))->gt N a=some x->tW N root a->ms.count 0<=c->YG N root ms (os++[a]) F ->
  Z h0 h (C.own N s root ms (os++[a]) so g++.ar b (r.map vi) al::L) ->
  Wp (eR n a (ak C.x5) (ak C.x7) (ak C.x0) (ak C.x8) (ak C.x9) (arr b r.length) (r.length:Int) (i:Int)) h λy h'=>YR C N s root ms (os++[a]) F (λF'=>∀(j:Nat) (p q:Int),i<=j->r[j]?=some p->gt x.items p=some q->q∈F') h0 (.ar b (r.map vi) al::L) (.inr true) (.inl ()) y h'
theorem alP {C:CY}{ms os}{so}{g}{q}(z:Z h0 h (C.own N s root ms os so g++L))(hb:os.length<1073741824) a1 :
  ∀n i ,i+1<=n->i<os.length->(∃j,j<=i/\os[j]?=some q)->Wp (gW n (ak C.x7) a1 q (i:Int)) h λk h'=>h'=h/\∃k':Nat,k=(k':Int)/\k'<=i:=by
 intro n
 induction n with
 |zero=>intro i h1;omega
 |succ n ih=>
  intro i h1 hi hj;rw[At];unfold qR;obtain⟨w,hw⟩:=eC hi;have hps:zb h so 1 al (os.map vi) g:=z.get 3 rfl;refine z.ld 2 (x:=so) ?_;refine hps.GD.Ys (by omega) (by simpa using hw) λa cl=>cl.sL rfl rfl ?_;by_cases c:w=q
  .rw[AT (by grind),ag]
   grind
  .rw[By (by grind)];obtain⟨j,j1,j2⟩:=hj;have hne:j≠i:=λe=>by grind
   have e1:IntKind.i64.wrap ((i:Int)-1)=((i-1:Nat):Int):=by
    rw[IntWalk.i64_in _ ⟨by omega,by omega⟩];omega
   rw[e1];refine (ih (i-1) (by omega) (by omega) ⟨j,by omega,j2⟩).mono λk h' hy=>?_
   grind
theorem acJ (G:ou h0 s N)(hI:pC N N.length)(hN:N.length<=40){C}{c}(hP:PY C N s root c h0):QY C N s root c h0:=by
 intro n
 induction n with
 |zero=>intro i a x b r ms os F so g h L h1;omega
 |succ n ih=>
  intro i a x b r ms os F so g h L hn hi hr hp hx hra hc I z;rw[Au];unfold qS;by_cases hlt:i<r.length
  .rw[By (by grind)];obtain⟨p,hpi⟩:=eC hlt;have hpr:=hp p (IN hpi);obtain⟨q,hq⟩:=eC (l:=x.items) (i:=p.toNat) (by omega);have hqm:=IN hq;have hgq:gt x.items p=some q:=by grind [gt]
   obtain⟨y1,y3⟩:=(hI x (ax hx)).2 q hqm;have hie:IE N a q:=⟨x,hx,hqm⟩;have hl1:=I.l1;have hpp:=I.p;obtain⟨mb,hmb⟩:=eC (l:=ms) (i:=q.toNat) (by omega);have hgm:gt ms q=some mb:=by unfold gt;grind
   refine E7 (by omega) (by omega) ?_;refine z.ld 7 ?_ rfl (by rw[aba,abh,hpi];rfl) rfl;refine Ov z G (i:=4) rfl hx hgq ?_;refine z.ld 0 (x:=arr C.bm N.length) ?_;refine E7 y1 (by omega) ?_;refine z.ld 1 ?_ rfl (by rw[abh,hmb];rfl) rfl;have hps:zb h so 1 al ((os++[a]).map vi) g:=z.get 3 rfl;have hsl:so.len=os.length+1:=by rw[hps.GD.Aa,aby];rfl
   rw[aby,ahX] at hpp;have next:∀{h2:ai} {ms' F':ε} {so':Sl} {g':Nat},ms'.count 0<=ms.count 0->(∀u∈F,u∈F')->q∈F'->YG N root ms' (os++[a]) F'->Z h0 h2 (C.own N s root ms' (os++[a]) so' g'++.ar b (r.map vi) al::L) ->
     Wp (eR n a (ak C.x5) (ak C.x7) (ak C.x0) (ak C.x8) (ak C.x9) (arr b r.length) (r.length:Int) ((i+1:Nat):Int)) h2 λy h'=>YR C N s root ms (os++[a]) F (λF'=>∀(j:Nat) (p q:Int),i<=j->r[j]?=some p->gt x.items p=some q->q∈F') h0 (.ar b (r.map vi) al::L) (.inr true) (.inl ()) y h':=λhc' hF hqF I' z'=>by
    refine (ih (i+1) a x b r _ os _ _ _ _ L (by omega) (by omega) hr hp hx hra (by omega) I' z').mono λy h3 hy=>?_;rcases hy with hy|⟨rfl,ms2,so2,g2,F2,I2,hF2,hc2,hT,z⟩
    .exact .inl hy
    .refine .inr ⟨rfl,ms2,so2,g2,F2,I2,λu hu=>hF2 u (hF u hu),by omega,λj p' q' hj hjr hgx=>?_,z⟩
     grind
   rcases I.v q mb hgm with rfl|rfl|rfl
   ·-- fresh
    rw[AT (by simp)];refine z.ld 0 (x:=arr C.bm N.length) ?_;refine E7 y1 (by omega) ?_;refine z.ld 1 (x:=0) ?_ rfl (by rw[abh,hmb];rfl) rfl;rw[wZ hi (by omega)];rw[By (by rfl)];refine z.ld 5 ?_;unfold qh;rw[By (by rfl),ah,ah];refine iA (c:=(ak C.x5,ak C.x7,ak C.x0,ak C.x8,ak C.x9)) rfl ?_;refine (hP n q ms (os++[a]) F so g h _ (by omega) hgm hc I (hra.step hie) (λu hu=>?_) z).mono λy h2 hy=>?_
    .grind
    rcases hy with⟨rfl,hcy,v8,z⟩|⟨rfl,ms',so',g',F',I',hF',hc',hqF,z⟩
    .rw[By rfl,ag];exact .inl ⟨rfl,hcy,v8,z⟩
    .rw[AT (by simp)];exact next hc' hF' hqF I' z
   ·-- on the way: a cycle
    rw[By (by rfl)];refine z.ld 2 (x:=so) ?_;have e1:IntKind.i64.wrap ((so.len:Int)-1)=((os.length:Nat):Int):=by
     rw[hsl,IntWalk.i64_in _ ⟨by omega,by omega⟩];omega
    rw[e1,ah];obtain⟨j,hj⟩:=List.mem_iff_getElem?.1 ((I.op q).1 hgm);have hjl:=aJ hj;rw[aby,ahX] at hjl;have hlen:(os++[a]).length=os.length+1:=(by simp);refine (alP z (by omega) (ak C.x8) n os.length (by omega) (by omega) ⟨j,by omega,hj⟩).mono λk h2 hy=>?_;obtain⟨rfl,k,rfl,hk⟩:=hy;refine z.new λx12 h3 z _=>?_;refine z.ld 3 (x:=so) ?_;refine z.anA 4 rfl (by rw[acL];omega) λs' hs' hrd=>?_;rw[ah];refine⟨_,_,hrd,?_⟩;rw[acL] at hs';refine z.alG 0 rfl (by omega) (by rw[alx,acL];omega) (by unfold da;omega) λb' h4 z=>?_;refine z.st 8 λh5 z=>?_;rw[ag];exact .inl ⟨rfl,I.cyc hgm hie,_,z.drop.drop.drop.drop.drop.drop.drop.drop⟩
   ·-- done
    rw[AT (by simp)];refine z.ld 0 (x:=arr C.bm N.length) ?_;refine E7 y1 (by omega) ?_;refine z.ld 1 (x:=2) ?_ rfl (by rw[abh,hmb];rfl) rfl;rw[wZ hi (by omega)];rw[AT (by simp)];exact next (abi _) (λ_ hu=>hu) ((I.fi q).1 hgm) I z
  .rw[AT (by grind),ag];exact .inr ⟨rfl,ms,so,g,F,I,λ_ hu=>hu,abi _,λj p q hj hjr _=>by grind,z⟩
theorem Yn (G:ou h0 s N)(d:Vd N root)(hg:gc N root=0)(fw:kL N){C}{c}(hQ:QY C N s root c h0):PY C N s root (c+1) h0:=by
 have hN:=fw.len;intro n a ms os F so g h L hn ha hc I hra hla z;obtain⟨a1,a2⟩:=aB ha;have a3:=aJ a2;have hl1:=I.l1;have hc2:=I.p;have hcs:=CE (v:=1) a2 (by decide);rw[By rfl] at hcs;obtain⟨x,hx⟩:=eC (l:=N) (i:=a.toNat) (by omega);have hgx:gt N a=some x:=by unfold gt;grind
 have hbd:=fw.map x (IN hx);have hao:a∉os:=λhm=>by have:=(I.op a).2 hm;grind
 obtain⟨n,rfl⟩:∃m,n=m+1:=⟨n-1,by omega⟩;rw[DH];unfold u0;refine z.ld 0 (x:=arr C.bm N.length) ?_;refine E7 a1 (by omega) ?_;refine z.DV 1 (by omega) λh2 z=>?_;refine z.ld 2 (x:=so) ?_;have hso:so.len=os.length:=(zb.GD (z.get 3 rfl)).Aa;refine z.V9 3 (new:=[vi a]) rfl (by decide) rfl (by grind [da]) λso' h3 g' hs' z _=>?_;refine z.st 2 λh4 z=>?_;refine z.gh 4 (ls:=[.sl,li]) (x:=(s,root)) ?_;have z:Z h0 h4 (C.own N s root (ms.set a.toNat 1) (os++[a]) so' g'++L):=by rw[CY.own,ahO];exact z
 rw[ah];refine (TA hg fw z G hgx (by omega)).mono λy h5 hy=>?_;obtain⟨b,r,rfl,hr,z⟩:=hy;have hrl:r.length=x.items.length:=by rw[hr.length_eq,gD]
 have z:Z h0 h5 (C.own N s root (ms.set a.toNat 1) (os++[a]) so' g'++.ar b (r.map vi) al::L):=z.perm List.perm_middle.symm;rw[ah,<-hrl];refine (hQ n 0 a x b r _ os F so' g' h5 L (by omega) (by omega) (by omega) (λp hp=>Lc (hr.mem_iff.1 hp)) hgx hra (by omega) (I.push ha hra hla) z).mono λy h6 hy=>?_;rcases hy with⟨rfl,hcy,v8,z⟩|⟨rfl,ms',so2,g2,F',I',hF',hc',hT,z⟩
 .show Wp (AI true) _ _;rw[ag];exact .inl ⟨rfl,hcy,v8,z.sub (List.Sublist.cons₂ _ (ahy _ _))⟩
 have hl':=I'.l1;have hpp:=I'.p;rw[aby,ahX] at hpp;have hps:zb h6 so2 1 al ((os++[a]).map vi) g2:=z.get 3 rfl;have hsl:so2.len=os.length+1:=by rw[hps.GD.Aa,aby];rfl
 have e1:IntKind.i64.wrap ((so2.len:Int)-1)=((so2.len:Nat):Int)-1:=IntWalk.i64_in _ ⟨by omega,by omega⟩;obtain⟨w,hw⟩:=eC (l:=ms') (i:=a.toNat) (by omega);have hcw:=CE (v:=2) hw (by decide);show Wp (sh (dL .sl (ak C.x5)) _) _ _;refine z.ld 0 (x:=arr C.bm N.length) ?_;refine E7 a1 (by omega) ?_;refine z.DV 1 (xs:=ms') (by omega) λh7 z=>?_;refine z.ld 2 (x:=so2) ?_;refine z.ld 2 (x:=so2) ?_;rw[e1];refine z.adJ 3 (by show some (aZ.ps so2 1 al ((os++[a]).map vi) g2)=_;rw[ahO];rfl) λso3 hs3 z=>?_;refine z.st 2 λh8 z=>?_;rw[ag];refine .inr ⟨rfl,ms'.set a.toNat 2,so3,g2,F'++[a],I'.pop hao λv hv=>?_,λu hu=>acC _ (hF' u hu),by grind,by simp,?_⟩
 .obtain⟨x',hx',hvm⟩:=hv;rw[hgx] at hx';cases hx';obtain⟨j,hj⟩:=List.mem_iff_getElem?.1 hvm;have hjl:=aJ hj;have hji:(j:Int)∈r:=hr.mem_iff.2 (IN (qi hjl));obtain⟨k,hk⟩:=List.mem_iff_getElem?.1 hji;exact hT k (j:Int) v (alg _) hk (by grind [acF])
 .exact z.sub (apJ (ahy _ _) _)
theorem af9 (G:ou h0 s N)(d:Vd N root)(hg:gc N root=0)(fw:kL N) C:∀c,PY C N s root c h0:=by
 intro c
 induction c with
 |zero=>
  intro n a ms os F so g h L hn ha hc I hra hla z;have h7:=CE (v:=1) (aB ha).2 (by decide);rw[By rfl] at h7;omega
 |succ c ih=>exact Yn G d hg fw (acJ G d.ix fw.len ih)
theorem aoV (fw:kL N)(z:Z h0 h L)(G:ou h0 s N)(hg:gc N root=0){n}(hn:H5+9000<=n) :
  Wp (tP n (s,root)) h λy h'=>(y.2=true↔¬CyA N root)/\Z h0 h' L:=by
 have d:=fw.Yu hg;have hN:=fw.len;have hz:80000<=Tz:=aoo _ _;have hD:H5=Tz+10000:=rfl;have hK:KF=7000:=rfl;unfold tP;refine z.new λx0 h1 z _=>?_;refine z.gh 0 (ls:=[.sl,li]) (x:=(s,root)) ?_;rw[ah];refine (rB z G fw.bd fw.ht (by omega) (fw.gc root)).mono λy h2 hy=>?_;obtain⟨rfl,z⟩:=hy;rw[AT (by grind)];refine z.ld 0 (x:=s) ?_;rw[G.len];refine z.Mi (ald _) (by grind [da]) λbm h3 z _=>?_;rw[aba] at z⊢;rw[pI] at z;refine z.new λx5 h4 z _=>z.st 0 λh5 z=>?_;refine z.new λx7 h6 z _=>?_;refine z.new λx8 h7 z _=>?_;refine z.new λx9 h8 z _=>z.st 0 λh9 z=>?_;refine z.ld 0 (x:=(⟨x5,bm,x7,x0,x8,x9⟩:CY).fn) ?_;refine z.ld 5 (x:=root) ?_;have z:=z.add (Fr.refl z.wf) (o:=.ps ⟨none,0,0⟩ 1 al [] 0) zb.nil (.inl rfl);have z:Z h0 h9 ((⟨x5,bm,x7,x0,x8,x9⟩:CY).own N s root (List.replicate N.length 0) [] ow 0++L):=Z.nK (pre:=[_,_,_,_,_,_,_]) z [4,5,3,0,6,1,2] (by simp only[abK,agt];decide);obtain⟨g1,g2⟩:=d.rt;rw[ah];unfold u6;rw[By (by rfl),ah];refine iA (c:=(ak x5,ak x7,ak x0,ak x8,ak x9)) rfl ?_;have grep:∀{j w:Int},gt (List.replicate N.length (0:Int)) j=some w->w=0:=λ{j w} hj=>by
  obtain⟨j1,j2⟩:=aB hj
  grind
 have I0:YG N root (List.replicate N.length 0) [] []:=by
  refine⟨af2,by simp,λj w hj=>.inl (grep hj),λj=>⟨λhj=>?_,λhj=>?_⟩,λj=>⟨λhj=>?_,λhj=>?_⟩,λi u v hu=>?_,λi u w hu=>?_,λu hu=>?_⟩
  .grind
  .cases hj
  .grind
  .cases hj
  .cases hu
  .cases hu
  grind
 refine (af9 G d hg fw _ N.length n root (List.replicate N.length 0) [] [] ow 0 h9 _ (by omega) (by grind [gt]) (by simp) I0 .refl (λu hu=>(by cases hu)) z).mono λy h10 hy=>?_;rcases hy with⟨rfl,hcy,v8,z⟩|⟨rfl,ms',so',g',F',I',_,_,hrF,z⟩
 .refine z.ld 0 (x:=v8) ?_;rw[ag];exact⟨⟨λ_=>hcy,λ_=>rfl⟩,z.drop⟩
 .refine z.ld 6 (x:=ow) ?_;rw[ag];exact⟨⟨λe=>(by cases e),λhn=>(hn (I'.ok.cya hrF)).elim⟩,z.drop.drop.drop.drop.drop.drop.drop⟩
end Go.Sh
namespace Go.Sh
open Go Go.Ago Go.Proofs
variable {α β:Type}{h h' h0:ai}{L:List aZ}{Q:β->ai->Prop}{s:Sl}{root:Int}{N:List aq}
def MT:∀a b c ,mZ (a++b) c=(mZ a c).bind (mZ b)
 |[],b,c=>rfl
 |x::a,b,c=>by
  rw[acV,mZ,mZ];cases bump c x with
  |none=>rfl
  |some c1=>exact MT a b c1
theorem alQ {b cap}{e}{sl}{xs}(il:IL h0 sl xs){B}(hB:B<1073741824)(hl:xs.length<=B) a1 a2 a3 :
  ∀n i c r h L ,xs.length-i<n->i<=xs.length->mZ (xs.drop i) c=some r->Z h0 h (.ar b (c.map vi) e::L) ->
   Wp (oG n ⟨some ⟨b,0,none⟩,c.length,cap⟩ a1 a2 a3 sl (sl.len:Int) (i:Int)) h λ_ h'=>Z h0 h' (.ar b (r.map vi) e::L):=by
 intro n
 induction n with
 |zero=>intro i c r h L h1;omega
 |succ n ih=>
  intro i c r h L h1 h2 hb z;rw[BZ];unfold tn;rw[il.len];by_cases hi:i<xs.length
  .rw[By (by grind)];obtain⟨x,hx⟩:=eC hi;rw[drop_cons hx,mZ] at hb;cases hb1:bump c x with
   |none=>rw[hb1] at hb;cases hb
   |some c1=>
    rw[hb1] at hb;refine (il.fr z.fr).ix (by omega) (by simpa using hx) λa g cl=>cl.sL rfl rfl ?_;refine Gf (i:=0) z rfl hb1 rfl λh2 z=>?_;have:=ih (i+1) c1 r h2 L (by omega) (by omega) hb z;rw[wZ (anK hi) (by omega)];rw[il.len,zE hb1] at this;exact this
  .rw[AT (by grind),ag];have:xs.drop i=[]:=abY (by omega);rw[this] at hb;cases hb;exact z
theorem alR (G:ou h0 s N){B}(hB:Bd N B){b cap}{e} :
  ∀n i c r h L ,N.length-i+B+5<n->i<=N.length->mZ ((N.drop i).flatMap aq.items) c=some r->Z h0 h (.ar b (c.map vi) e::L) ->
   Wp (oH n ⟨some ⟨b,0,none⟩,c.length,cap⟩ s (s.len:Int) (i:Int)) h λ_ h'=>Z h0 h' (.ar b (r.map vi) e::L):=by
 intro n
 induction n with
 |zero=>intro i c r h L h1;omega
 |succ n ih=>
  intro i c r h L h1 h2 hb z;rw[B0];unfold tq;rw[G.len];by_cases hi:i<N.length
  .rw[By (by grind)];obtain⟨x,hx⟩:=eC hi;rw[drop_cons hx,acD,MT] at hb;have hbd:=hB.2.2 x (IN hx);cases hb2:mZ x.items c with
   |none=>rw[hb2] at hb;cases hb
   |some c2=>
    rw[hb2] at hb;simp at hb;refine G.at z (by omega) (by simpa using hx) λa ks is nd ik ii=>nd.gh ?_;refine z.node λx2 h2' z=>?_;refine z.ld 0 ?_;have z:=z.perm (List.Perm.swap _ _ _);rw[ah];refine (alQ ii hB.2.1 hbd.2 _ _ _ n 0 c c2 _ _ (by omega) (by omega) (by grind) z).mono λ_ h4 z=>?_;have z:=(z.perm (List.Perm.swap _ _ _)).drop;have:=ih (i+1) c2 r h4 L (by omega) (by omega) hb z;rw[wZ (anK hi) (by have:=hB.1;have:=hB.2.1;omega)];rw[G.len,vd hb2] at this;exact this
  .rw[AT (by grind),ag];have:N.drop i=[]:=abY (by omega);rw[this] at hb;cases hb;exact z
def aga (N:List aq)(root:Int):Option ε:=mZ (root::N.flatMap aq.items) (List.replicate N.length 0)
theorem TB (z:Z h0 h L)(G:ou h0 s N){B}(hB:Bd N B){n}(hn:2*B+6<n){r}(hr:aga N root=some r) :
  Wp (wH n (s,root)) h λx h'=>∃b:Nat,x=arr b N.length/\r.length=N.length/\Z h0 h' (.ar b (r.map vi) al::L):=by
 unfold wH;unfold aga at hr;rw[mZ] at hr;cases h1:bump (List.replicate N.length 0) root with
 |none=>rw[h1] at hr;cases hr
 |some c1=>
  rw[h1] at hr;simp at hr;refine z.new λx0 h1' z f1=>?_;refine z.ld 0 ?_;rw[G.len];refine z.Mi (by omega) (by have:=hB.1;have:=hB.2.1;grind [da]) λb h2 z f2=>?_;rw[aba] at z⊢;rw[pI] at z;refine z.ld 1 ?_;refine Gf (i:=0) z rfl h1 (by simp) λh3 z=>?_;refine z.ld 1 ?_;rw[ah];have hl:=zE h1;rw[af2] at hl;have:=alR G hB (cap:=N.length+1) n 0 c1 r h3 (.ar x0 [aA s,vi root] aj::L) (by have:=hB.1;omega) (by omega) (by grind) z;rw[hl] at this;refine this.mono λ_ h4 z=>?_;rw[ag];exact⟨b,rfl,by rw[vd hr,hl],(z.perm (List.Perm.swap _ _ _)).drop⟩
theorem alS {b m:Nat}{r}(hm:r.length=m){so}{os:ε}{g}(hr:∀x∈os,0<=x/\x<(m:Int))(hb:os.length<1000000) :
  ∀n i a1 ls g1 h L ,os.length-i<n->i<=os.length->ls.length<=i->Z h0 h (.sl a1 1 al (ls.map vi) g1::.ar b (r.map vi) al::.sl so 1 al (os.map vi) g::L) ->
   Wp (oU n (arr b m) a1 so (os.length:Int) (i:Int)) h λy h'=>∃(l2:ε) (g2:Nat),y.len=l2.length/\(l2=[]↔ls=[]/\∀j q v ,i<=j->os[j]?=some q->gt r q=some v->v<=1)/\Z h0 h' (.sl y 1 al (l2.map vi) g2::.ar b (r.map vi) al::.sl so 1 al (os.map vi) g::L):=by
 intro n
 induction n with
 |zero=>intro i a1 ls g1 h L h1;omega
 |succ n ih=>
  intro i a1 ls g1 h L h1 h2 h3 z;have hal:a1.len=ls.length:=by
   have o:uq h a1 1 al (ls.map vi) g1:=z.get 0 rfl;have:=o.1;grind
  rw[Cp];unfold tQ;by_cases hi:i<os.length
  .rw[By (by grind)];obtain⟨q,hq⟩:=eC hi;have hq2:=hr q (IN hq);obtain⟨v,hv⟩:=eC (l:=r) (i:=q.toNat) (by omega);have hgv:gt r q=some v:=by grind [gt]
   have os1:uq h so 1 al (os.map vi) g:=z.get 2 rfl;refine (uq.GD os1).Ys (by omega) (by simpa using hq) λa cl=>cl.sL rfl rfl ?_;refine E7 hq2.1 (by omega) ?_;refine z.ld 1 ?_ rfl (by rw[abh,hv];rfl) rfl;rw[wZ h2 (by omega)];by_cases hv1:1<v
   .rw[By (by grind)];refine z.Oc 0 (new:=[vi q]) rfl (by decide) rfl (by grind [da]) λs' h4 g' hs' z _=>?_;have z:Z h0 h4 (.sl s' 1 al ((ls++[q]).map vi) g'::.ar b (r.map vi) al::.sl so 1 al (os.map vi) g::L):=(by grind);refine (ih (i+1) s' (ls++[q]) g' h4 L (by omega) (by omega) (by grind) z).mono λy h5 hy=>?_
    grind
   .rw[AT (by grind)];refine (ih (i+1) a1 ls g1 h L (by omega) (by omega) (by omega) z).mono λy h5 hy=>?_
    grind
  .rw[AT (by grind),ag]
   grind
def TrB (N:List aq)(root:Int):Prop:=(root::N.flatMap aq.items).Nodup
def gf.way {u w}(r:gf N u w):tW N u w\/KN N w:=by
 induction r with
 |refl=>exact .inl .refl
 |step _ e ih=>
  rcases ih with ih|ih
  .obtain⟨x,hx,hk|hi⟩:=e
   .exact .inr (.key (ax hx) hk)
   .exact .inl (ih.step ⟨x,hx,hi⟩)
  .exact .inr (ih.step e)
theorem acK (d:Vd N root)(fw:kL N):∃r,aga N root=some r/\∀v,IR N.length v->gt r v=some (((root::N.flatMap aq.items).count v:Nat):Int):=by
 have hlen:(root::N.flatMap aq.items).length<4611686018427387904:=by
  have h1:(N.flatMap aq.items).length<=(N.flatMap refs).length:=by
   have:∀X:List aq,(X.flatMap aq.items).length<=(X.flatMap refs).length:=λX=>by
    induction X with
    |nil=>grind
    |cons x X ih=>grind [List.length_append,refs]
   grind
  have h2:=Vl fw.bd.2.2;have h3:=ag8 (2*80) fw.len
  grind
 have hin:∀v∈root::N.flatMap aq.items,IR N.length v:=λv hv=>by
  rcases List.mem_cons.1 hv with rfl|hv
  .exact d.rt
  .obtain⟨x,hx,hv⟩:=List.mem_flatMap.1 hv;exact (d.ix x hx).2 v hv
 have h0:List.replicate N.length (0:Int)=CC N.length []:=by
  unfold CC;refine amv λj=>?_
  grind
 refine⟨CC N.length (root::N.flatMap aq.items),?_,λv hv=>Vk hv⟩
 grind [aga,CU,List.length_nil]
theorem anB (fw:kL N)(z:Z h0 h L)(G:ou h0 s N)(hg:gc N root=0){n}(hn:H5+9000<=n) :
  Wp (oo n (s,root)) h λy h'=>(y.len=0↔TrB N root)/\Z h0 h' L:=by
 have d:=fw.Yu hg;have hN:=fw.len;have hz:80000<=Tz:=aoo _ _;have hD:H5=Tz+10000:=rfl;have hK:KF=7000:=rfl;have gv:=fw.gv.1 hg;obtain⟨r,hr,hrv⟩:=acK d fw;unfold oo;refine z.new λx0 h2 z _=>z.gh 0 (ls:=[.sl,li]) (x:=(s,root)) ?_;rw[ah];refine (rB z G fw.bd fw.ht (by omega) (fw.gc root)).mono λy h3 hy=>?_;obtain⟨rfl,z⟩:=hy;rw[AT (by grind)];refine z.gh 0 (ls:=[.sl,li]) (x:=(s,root)) ?_;rw[ah];refine (acI fw z G hg hn).mono λy h4 hy=>?_;obtain⟨os,g,o1,o2,o4,o3,be,es,J,_,_,_,z⟩:=hy;have z:=z.sub (.cons₂ _ (.cons _ (ahY J _)));refine z.gh 1 (ls:=[.sl,li]) (x:=(s,root)) ?_;rw[ah];refine (TB z G fw.bd (by omega) hr).mono λy2 h5 hy=>?_;obtain⟨b,rfl,hrl,z⟩:=hy;have z:=z.add (Fr.refl z.wf) (o:=.sl ow 1 al [] 0) uq.nil (.inl rfl);rw[o3,ah];refine (alS hrl o1 (by omega) n 0 ow [] 0 h5 _ (by omega) (by omega) (by simp) z).mono λy3 h6 hy=>?_;obtain⟨l2,g2,e1,e2,z⟩:=hy;rw[ag];refine⟨?_,z.drop.drop.drop.drop⟩;rw[e1,List.length_eq_zero_iff,e2];unfold TrB;rw[ap0];refine⟨λe v=>?_,λe=>⟨rfl,λj q v _ hj hv=>?_⟩⟩
 .by_cases hv:v∈root::N.flatMap aq.items
  .have hir:IR N.length v:=by
    rcases List.mem_cons.1 hv with rfl|hv
    .exact d.rt
    .obtain⟨x,hx,hv⟩:=List.mem_flatMap.1 hv;exact (d.ix x hx).2 v hv
   rcases (gv.Q6 v hir).way with w|w
   .grind [List.mem_iff_getElem?]
   .have h1:=d.one v w;have h2:(root::N.flatMap aq.items).count v<=(root::N.flatMap refs).count v:=by
     rw[agw,agw];have:∀X:List aq,(X.flatMap aq.items).count v<=(X.flatMap refs).count v:=λX=>by
      induction X with
      |nil=>grind
      |cons x X ih=>grind [refs]
     grind
    omega
  grind
 .obtain⟨q1,q2⟩:=o1 q (IN hj);rw[hrv q ⟨q1,q2⟩] at hv
  grind
theorem anC (fw:kL N)(z:Z h0 h L)(G:ou h0 s N)(hg:gc N root=0){n}(hn:H5+9000<=n) :
  Wp (sq n (s,root)) h λx h'=>(x=true↔TrB N root)/\Z h0 h' L:=by
 have d:=fw.Yu hg;have hN:=fw.len;have hz:80000<=Tz:=aoo _ _;have hD:H5=Tz+10000:=rfl;have hK:KF=7000:=rfl;unfold sq;refine z.new λx0 h2 z _=>z.gh 0 (ls:=[.sl,li]) (x:=(s,root)) ?_;rw[ah];refine (rB z G fw.bd fw.ht (by omega) (fw.gc root)).mono λy h3 hy=>?_;obtain⟨rfl,z⟩:=hy;rw[By (by grind)];refine z.gh 0 (ls:=[.sl,li]) (x:=(s,root)) ?_;rw[ah];refine (anB fw z G hg hn).mono λy h4 hy=>?_;obtain⟨hy,z⟩:=hy;rw[ag];refine⟨?_,z.drop⟩
 grind
end Go.Sh
namespace Go.Sh
open Go Go.Ago Go.Proofs
variable {N:List aq}{root:Int}
def Jc (d:Vd N root)(all:∀v,IR N.length v->gf N root v):CyA N root↔∀u v,Edge N u v->¬gf N v u:=by
 refine⟨λhc u v e r=>?_,λha=>⟨cR N,λu _ v hv=>?_⟩⟩
 .obtain⟨H,_,hH⟩:=d.Hx;have nk:¬KN N v:=λkv=>by
   have h1:=d.down hH kv r;have h2:=hH u v kv e;omega
  have nu:¬KN N u:=λku=>nk (.step ku e);obtain⟨x,hx,hm⟩:=id e;have hi:v∈x.items:=hm.elim (λq=>absurd (.key (ax hx) q) nk) id;have iv:IR N.length v:=(d.ix x (ax hx)).2 v hi;have r1:tW N root v:=(all v iv).way.elim id λq=>absurd q nk;have r2:tW N v u:=r.way.elim id λq=>absurd q nu;exact hc.no r1 r2 ⟨x,hx,hi⟩
 .obtain⟨x,hx,hm⟩:=hv;exact Cz d.ix ha ⟨x,hx,.inr hm⟩
def HH (d:Vd N root)(all:∀v,IR N.length v->gf N root v)(h:TrB N root):CyA N root:=
 (Jc d all).2 (af1 d ((Oq d all).2 h))
def QV (d:Vd N root)(all:∀v,IR N.length v->gf N root v)(hc:CyA N root):(tr N (N.length+1) root).length<=N.length↔TrB N root:=by
 have ha:=(Jc d all).1 hc;have hH:∀u v,Edge N u v->cR N v<cR N u:=λu v e=>Cz d.ix ha e;have hr:cR N root<N.length+1:=apy (MM root);rw[VE d all hH hr];refine⟨λnd=>(Oq d all).1 (anr d all hH hr nd),λh=>QR d hH hr ((Oq d all).2 h)⟩
def agb (d:Vd N root)(all:∀v,IR N.length v->gf N root v)(h:TrB N root):KT N root=uf N (N.length+1) root 0:=by
 have ha:=(Jc d all).1 (HH d all h);have hH:∀u v,Edge N u v->cR N v<cR N u:=λu v e=>Cz d.ix ha e;have hr:cR N root<N.length+1:=apy (MM root);exact af3 d all hH hr (QR d hH hr ((Oq d all).2 h))
end Go.Sh
namespace Go.Sh
open Go Go.Ago Go.Proofs
variable {α β:Type}{h h' h0:ai}{L R J:List aZ}{N:List aq}{root:Int}{B:Nat}{Q:β->ai->Prop}{F:Int->Nat->List aq}{x:aq}
def TD:∀l b,(wv F x l b).1.1.length<=l.length/\(wv F x l b).1.2.length<=l.length
 |[],_=>⟨abi _,abi _⟩
 |a::l,b=>by
  unfold wv;by_cases k:x.kind=10
  .rw[By k];have:=TD l (b+(F (nth x.keys a) b).length+(F (nth x.items a) (b+(F (nth x.keys a) b).length)).length);simp only[abK];omega
  .rw[AT k];have:=TD l (b+(F (nth x.items a) b).length);simp only[abK];omega
structure UC where
 o:Nat
 m:Nat
 g:Nat
 e:Nat
 f:Nat
 be:Nat
abbrev UC.fn (c:UC):ξ:=Value.func (Fn.func qu) #[] #[Value.pointer (some (ak c.o)),Value.pointer (some (ak c.m)),Value.pointer (some (ak c.g)),Value.pointer (some (ak c.e)),Value.pointer (some (ak c.f))]
def UQ (c:UC)(n:Nat)(s:Sl)(root:Int)(m:Nat)(es:List Sl)(o:Sl)(O:List aH)(g:Nat):List aZ:=
 [.ar c.o [aA o,vi 0] aj,.sl o 5 av (O.flatMap aH.enc) g,.ar c.g [aA s,vi root] aj,.ar c.m [vi (m:Int)] al,.ar c.e [aA (arr c.be n)] nB,.ar c.f [c.fn] jf,.ar c.be (es.map aA) aF]
section
variable {c:UC}{s:Sl}{m:Nat}{es:List Sl}
def Yo (h0:ai)(c:UC)(n:Nat)(s:Sl)(root:Int)(m:Nat)(es:List Sl)(h:ai)(T:List aq)(R J:List aZ):Prop:=
 ∃o O g,O.map aH.v=T/\(∀r∈O,RO r J/\NSz r)/\Z h0 h (UQ c n s root m es o O g++(R++J))
def fuU (f:Nat):Nat:=f*200+H5+300
theorem anD {f}:fuU (f+1)=fuU f+200/\H5+300<=fuU f:=by grind [fuU]
def UfT (h0:ai)(c:UC)(s:Sl)(root:Int)(m:Nat)(es:List Sl)(N:List aq)(H:Int->Nat)(f:Nat):Prop:=
 ∀(n:Nat) (h:ai) (a:Int) (ik:Bool) (T:List aq) (R J:List aZ),fuU f<=n->IR N.length a->H a<f->(ik=true->KN N a)->(ik=false->tW N root a)->(∀v,tW N root v->EnO N es R v)->Yo h0 c N.length s root m es h T R J ->
 Wp (kK n a ik (ak c.o) (ak c.m) (ak c.g) (ak c.e) (ak c.f)) h λr h'=>
  (T.length+(tr N f a).length<=m/\r=((T.length:Int),true)/\∃J',Yo h0 c N.length s root m es h' (T++uf N f a T.length) R J') \/
  (m<T.length+(tr N f a).length/\r=(0,false)/\Z h0 h' R)
theorem EnO.mono {M M':List aZ}{j:Int}(h:EnO N es M j)(hM:∀o∈M,o∈M'):EnO N es M' j:=
 let ⟨x,b,h1,h2,h3⟩:=h;⟨x,b,h1,h2,hM _ h3⟩
def acM {H}{f}(V:UfT h0 c s root m es N H f){n}{a:Int}{ik:Bool}{T}(hn:fuU f<=n)(ha:IR N.length a)(hH:H a<f)(k1:ik=true->KN N a)(k2:ik=false->tW N root a)(en:∀v,tW N root v->EnO N es R v)(st:Yo h0 c N.length s root m es h T R J){γ}{F:Int×Bool->M γ}{Q}
  (q1:∀h' J',T.length+(tr N f a).length<=m->Yo h0 c N.length s root m es h' (T++uf N f a T.length) R J'->Wp (F ((T.length:Int),true)) h' Q)
  (q2:∀h',m<T.length+(tr N f a).length->Z h0 h' R->Wp (F (0,false)) h' Q) :
  Wp (sh (ja (aO.at n) n c.fn a ik) F) h Q:=by
 rw[ah];unfold ja;rw[By (by rfl),ah];refine iA (c:=((ak c.o,ak c.m,ak c.g,ak c.e,ak c.f):Addr×Addr×Addr×Addr×Addr)) rfl ?_;refine (V n h a ik T R J hn ha hH k1 k2 en st).mono λr h' hr=>?_;rcases hr with⟨e1,rfl,J',e2⟩|⟨e1,rfl,e2⟩
 .exact q1 h' J' e1 e2
 .exact q2 h' e1 e2
abbrev Yv (x5:Nat)(x:aq)(ks is:Sl):aZ:=.ar x5 [vi x.kind,.string x.text,.bool x.ord,aA ks,aA is] av
def acN {x:aq}{a:Int}{l:ε}{G:Int->ε}:((kX x (a::l)).flatMap G).length=(if x.kind=10 then (G (nth x.keys a)).length else 0)+(G (nth x.items a)).length+((kX x l).flatMap G).length:=by
 rw[o6];split<;>simp<;>omega
theorem aoW {H}{f}(V:UfT h0 c s root m es N H f)(hm:m<=40){ik:Bool}{x:aq}{ks0 is0:Sl}(k0:IL h0 ks0 x.keys)(i0:IL h0 is0 x.items)
  (hk:∀p:Int,0<=p->p<x.items.length->x.kind=10->∃k,x.keys[p.toNat]?=some k/\nth x.keys p=k/\IR N.length k/\H k<f/\KN N k)
  (hi:∀p:Int,0<=p->p<x.items.length->∃v,x.items[p.toNat]?=some v/\nth x.items p=v/\IR N.length v/\H v<f/\(ik=true->KN N v)/\(ik=false->tW N root v))
  {b:Nat} {l:ε} (hl:∀p∈l,0<=p/\p<(x.items.length:Int)) (hl8:l.length<=80) {a3:Int} {x5:Nat} :
  ∀n i T ks is (kl il:ε) g1 g2 h R J,fuU f+(l.length-i)+1<=n->i<=l.length->kl.length<=i->il.length=i->T.length<=m->aZ.ar b (l.map vi) al∈R->(∀v,tW N root v->EnO N es R v) ->
   Yo h0 c N.length s root m es h T (.sl ks 1 al (kl.map vi) g1::.sl is 1 al (il.map vi) g2::Yv x5 x ks0 is0::R) J ->
   Wp (gY n ik (ak c.o) (ak c.f) a3 (ak x5) ks is (arr b l.length) (l.length:Int) (i:Int)) h λr h'=>
    (T.length+((kX x (l.drop i)).flatMap (tr N f)).length<=m/\∃ks' is' g1' g2' J',r=.inl (ks',is')/\Yo h0 c N.length s root m es h' (T++(wv (uf N f) x (l.drop i) T.length).2) (.sl ks' 1 al ((kl++(wv (uf N f) x (l.drop i) T.length).1.1).map vi) g1'::.sl is' 1 al ((il++(wv (uf N f) x (l.drop i) T.length).1.2).map vi) g2'::Yv x5 x ks0 is0::R) J') \/
    (m<T.length+((kX x (l.drop i)).flatMap (tr N f)).length/\r=.inr (0,false)/\Z h0 h' R):=by
 intro n
 induction n with
 |zero=>intro i T ks is kl il g1 g2 h R J h1;omega
 |succ n ih=>
  intro i T ks is kl il g1 g2 h R J h1 h2 hkl hil hT mb en st;have fin:∀{h2:ai},Z h0 h2 (.sl ks 1 al (kl.map vi) g1::.sl is 1 al (il.map vi) g2::Yv x5 x ks0 is0::R)->Z h0 h2 R:=λz=>z.drop.drop.drop;rw[show gY (n+1)=qT (aO.at n) n from rfl];unfold qT;by_cases hlt:i<l.length
  .rw[By (by simp;omega)];obtain⟨p,hp⟩:=eC hlt;obtain⟨p0,p1⟩:=hl p (IN hp);obtain⟨v,v1,v2,v3,v4,v5,v6⟩:=hi p p0 p1;have en3:∀{A B C:aZ} v,tW N root v->EnO N es (A::B::C::R) v:=λv hv=>(en v hv).mono λo ho=>.tail _ (.tail _ (.tail _ ho));rw[drop_cons hp,acN,v2];obtain⟨o,O,g,e1,e2,z⟩:=id st;have lb:LB h b (l.map vi) al:=(z.own _ (OF _ (acC _ (.tail _ (.tail _ (.tail _ mb)))))).1;have rb:vR h (arr b l.length) 1 (l.map vi) (b+1):=LB.GD lb (by simp);refine rb.Ys (by omega) (by simpa using hp) λ_ cl=>cl.sL (l:=li) rfl rfl ?_;refine z.ld 9 (x:=x.kind) ?_;have J0:∀{h3:ai} {T1:List aq} {ks1:Sl} {kl1:ε} {g3:Nat} {J1:List aZ},kl1.length<=i+1->T1.length<=m->Yo h0 c N.length s root m es h3 T1 (.sl ks1 1 al (kl1.map vi) g3::.sl is 1 al (il.map vi) g2::Yv x5 x ks0 is0::R) J1 ->
     Wp (gX (aO.at n) n ik (ak c.o) (ak c.f) a3 (ak x5) ks1 is p (arr b l.length) (l.length:Int) (i:Int)) h3 λr h'=>
      (T1.length+((tr N f v).length+((kX x (l.drop (i+1))).flatMap (tr N f)).length)<=m/\∃ks' is' g1' g2' J',r=.inl (ks',is')/\Yo h0 c N.length s root m es h' (T1++(uf N f v T1.length++(wv (uf N f) x (l.drop (i+1)) (T1.length+(uf N f v T1.length).length)).2))
       (.sl ks' 1 al ((kl1++(wv (uf N f) x (l.drop (i+1)) (T1.length+(uf N f v T1.length).length)).1.1).map vi) g1'::.sl is' 1 al ((il++(T1.length:Int)::(wv (uf N f) x (l.drop (i+1)) (T1.length+(uf N f v T1.length).length)).1.2).map vi) g2'::Yv x5 x ks0 is0::R) J') \/
      (m<T1.length+((tr N f v).length+((kX x (l.drop (i+1))).flatMap (tr N f)).length)/\r=.inr (0,false)/\Z h0 h' R):=by
    intro h3 T1 ks1 kl1 g3 J1 hkl1 hT1 st1;obtain⟨o,O,g,e1,e2,z⟩:=id st1;unfold gX;refine z.ld 5 (x:=c.fn) ?_;refine z.ld 9 (x:=is0) ?_;refine (i0.fr z.fr).ix p0 v1 λ_ _ cl=>cl.sL (l:=li) rfl rfl ?_;refine acM V (by omega) v3 v4 v5 v6 en3 st1 (λh4 J2 q yW=>?_) λh4 q z=>?_
    .rw[AT (by simp)];obtain⟨o,O,g,e1,e2,z⟩:=id yW;have hsl:is.len=il.length:=by
      have o:uq h4 is 1 al (il.map vi) g2:=z.get 8 rfl;have:=o.1;grind
     refine z.Oc 8 (new:=[vi (T1.length:Int)]) rfl (by decide) rfl (by grind [da]) λis1 h5 g4 _ z _=>?_;have st3:Yo h0 c N.length s root m es h5 (T1++uf N f v T1.length) (.sl ks1 1 al (kl1.map vi) g3::.sl is1 1 al ((il++[(T1.length:Int)]).map vi) g4::Yv x5 x ks0 is0::R) J2:=
      ⟨o,O,g,e1,e2,by rw[ahO];exact z⟩
     have Aa:(T1++uf N f v T1.length).length=T1.length+(uf N f v T1.length).length:=aby;have ul:=CB (N:=N) f v T1.length;rw[wZ h2 (by omega)];refine (ih (i+1) _ ks1 is1 kl1 (il++[(T1.length:Int)]) g3 g4 h5 R J2 (by omega) (by omega) hkl1 (by simp[hil]) (by rw[Aa];omega) mb en st3).mono λr h6 hr=>?_;rw[Aa] at hr;rcases hr with⟨w,ks',is',g1',g2',J',e,st4⟩|⟨w,e,z⟩
     .refine .inl ⟨by omega,ks',is',g1',g2',J',e,?_⟩;rw[acX,acX] at st4;exact st4
     .exact .inr ⟨by omega,e,z⟩
    .rw[By (by rfl),ag];exact .inr ⟨by omega,rfl,z.drop.drop.drop⟩
   by_cases k10:x.kind=10
   .rw[By (by simpa using k10),By k10];obtain⟨k,w1,w2,w3,w4,w5⟩:=hk p p0 p1 k10;rw[w2];refine z.ld 5 (x:=c.fn) ?_;refine z.ld 9 (x:=ks0) ?_;refine (k0.fr z.fr).ix p0 w1 λ_ _ cl=>cl.sL (l:=li) rfl rfl ?_;refine acM V (by omega) w3 w4 (λ_=>w5) (λq=>by cases q) en3 st (λh4 J2 q yW=>?_) λh4 q z=>?_
    .rw[AT (by simp)];obtain⟨o,O,g,e1,e2,z⟩:=id yW;have hsl:ks.len=kl.length:=by
      have o:uq h4 ks 1 al (kl.map vi) g1:=z.get 7 rfl;have:=o.1;grind
     refine z.Oc 7 (new:=[vi (T.length:Int)]) rfl (by decide) rfl (by grind [da]) λks1 h5 g4 _ z _=>?_;have st3:Yo h0 c N.length s root m es h5 (T++uf N f k T.length) (.sl ks1 1 al ((kl++[(T.length:Int)]).map vi) g4::.sl is 1 al (il.map vi) g2::Yv x5 x ks0 is0::R) J2:=
      ⟨o,O,g,e1,e2,by rw[ahO];exact z⟩
     have Aa:(T++uf N f k T.length).length=T.length+(uf N f k T.length).length:=aby;have ul:=CB (N:=N) f k T.length;refine (J0 (kl1:=kl++[(T.length:Int)]) (by simp;omega) (by rw[Aa];omega) st3).mono λr h6 hr=>?_;rw[Aa] at hr;have eL:wv (uf N f) x (p::l.drop (i+1)) T.length=(((T.length:Int)::(wv (uf N f) x (l.drop (i+1)) (T.length+(uf N f k T.length).length+(uf N f v (T.length+(uf N f k T.length).length)).length)).1.1,((T.length+(uf N f k T.length).length:Nat):Int)::(wv (uf N f) x (l.drop (i+1)) (T.length+(uf N f k T.length).length+(uf N f v (T.length+(uf N f k T.length).length)).length)).1.2),
       uf N f k T.length++(uf N f v (T.length+(uf N f k T.length).length)++(wv (uf N f) x (l.drop (i+1)) (T.length+(uf N f k T.length).length+(uf N f v (T.length+(uf N f k T.length).length)).length)).2)):=by
      rw[wv,By k10];simp only[w2,v2]
     rw[eL];rcases hr with⟨w,ks',is',g1',g2',J',e,st4⟩|⟨w,e,z⟩
     .refine .inl ⟨by omega,ks',is',g1',g2',J',e,?_⟩;rw[acX,acX] at st4;exact st4
     .exact .inr ⟨by omega,e,z⟩
    .rw[By (by rfl),ag];exact .inr ⟨by omega,rfl,fin z⟩
   .rw[AT (by simpa using k10),AT k10];have eL:wv (uf N f) x (p::l.drop (i+1)) T.length=(((wv (uf N f) x (l.drop (i+1)) (T.length+(uf N f v T.length).length)).1.1,(T.length:Int)::(wv (uf N f) x (l.drop (i+1)) (T.length+(uf N f v T.length).length)).1.2),
      uf N f v T.length++(wv (uf N f) x (l.drop (i+1)) (T.length+(uf N f v T.length).length)).2):=by
     rw[wv,AT k10];simp only[v2]
    rw[eL];refine (J0 (by omega) hT st).mono λr h6 hr=>?_;rcases hr with⟨w,q⟩|⟨w,q⟩
    .exact .inl ⟨by omega,q⟩
    .exact .inr ⟨by omega,q⟩
  .rw[AT (by simp;omega),ag];have e0:l.drop i=[]:=abY (by omega);rw[e0];exact .inl ⟨by simpa[kX] using hT,ks,is,g1,g2,J,rfl,by simpa[wv] using st⟩
end
end Go.Sh
namespace Go.Sh
open Go Go.Ago Go.Proofs
variable {α β:Type}{h h' h0:ai}{L R J:List aZ}{N:List aq}{root:Int}{B:Nat}{Q:β->ai->Prop}{x:aq}{c:UC}{s:Sl}{m:Nat}{es:List Sl}
attribute [local irreducible] fuU H5
theorem agc (G:ou h0 s N)(d:Vd N root)(hg:Sh.gc N root=0)(fw:kL N){H:Int->Nat}(hH:∀u v,Edge N u v->H v<H u)(hm:m<=40)(hes:es.length=N.length){f}(V:UfT h0 c s root m es N H f):UfT h0 c s root m es N H (f+1):=by
 intro n h a ik T R J hn ha hHa hkn hir en st;obtain⟨hfu,hfd⟩:=anD (f:=f);rw[hfu] at hn;clear hfu;obtain⟨n,rfl⟩:∃n',n=n'+1:=⟨n-1,by omega⟩;have hU:fuU f<=n:=by clear hfd;omega
 have hD:H5<=n:=acY (acY (aoX _ 300) hfd) hU;obtain⟨x,hx⟩:=fj rfl ha;have hxm:=ax hx;obtain⟨hil,hkl⟩:=fw.map x hxm;obtain⟨g1,g2⟩:=aB hx;have a3:=aJ g2;have hpm:=HG hx;have hpl:(cd N a).length=x.items.length:=by rw[hpm.length_eq,gD]
 have hpr:∀p∈cd N a,0<=p/\p<(x.items.length:Int):=λp hp=>Lc (hpm.mem_iff.1 hp);have etr:tr N (f+1) a=a::(kX x (cd N a)).flatMap (tr N f):=by show (match gt N a with|some x=>_|none=>_)=_;rw[hx]
 have euf:uf N (f+1) a T.length=⟨x.kind,x.text,x.ord,(wv (uf N f) x (cd N a) (T.length+1)).1.1,(wv (uf N f) x (cd N a) (T.length+1)).1.2⟩::(wv (uf N f) x (cd N a) (T.length+1)).2:=by show (match gt N a with|some x=>_|none=>_)=_;rw[hx]
 rw[etr,euf,abK];generalize hl:cd N a=l at *
 have hk:∀p:Int,0<=p->p<x.items.length->x.kind=10->∃k,x.keys[p.toNat]?=some k/\nth x.keys p=k/\IR N.length k/\H k<f/\KN N k:=λp p0 p1 k10=>by
  have hki:=d.map hxm k10;obtain⟨k,hk⟩:=eC (l:=x.keys) (i:=p.toNat) (by omega);have km:=IN hk;have e:Edge N a k:=⟨x,hx,.inl km⟩;have:=hH a k e;obtain⟨q,rfl⟩:∃q:Nat,p=q:=⟨p.toNat,by omega⟩;exact⟨k,hk,jX hk,(d.ix x hxm).1 k km,by omega,.key hxm km⟩
 have hi:∀p:Int,0<=p->p<x.items.length->∃v,x.items[p.toNat]?=some v/\nth x.items p=v/\IR N.length v/\H v<f/\(ik=true->KN N v)/\(ik=false->tW N root v):=λp p0 p1=>by
  obtain⟨v,hv⟩:=eC (l:=x.items) (i:=p.toNat) (by omega);have vm:=IN hv;have e:Edge N a v:=⟨x,hx,.inr vm⟩;have:=hH a v e;obtain⟨q,rfl⟩:∃q:Nat,p=q:=⟨p.toNat,by omega⟩;exact⟨v,hv,jX hv,(d.ix x hxm).2 v vm,by omega,λq=>.step (hkn q) e,λq=>(hir q).step ⟨x,hx,vm⟩⟩
 obtain⟨o,O,g,e1,e2,z⟩:=st;have ol0:O.length=T.length:=by rw[<-e1,acL]
 rw[show kK (n+1)=u5 (aO.at n) n from rfl];unfold u5;have ol:o.len=T.length:=by
  have os:uq h o 5 av (O.flatMap aH.enc) g:=z.get 1 rfl;have:=os.1;rw[eG aH.jS] at this;omega
 refine z.ld 0 (x:=o) ?_;refine z.ld 3 (x:=(m:Int)) ?_;rw[ol];by_cases hmt:m<=T.length
 .rw[By (by simp;omega),ag];exact .inr ⟨by omega,rfl,z.sub ((ang R J).trans (ahY _ _))⟩
 rw[AT (by simp;omega)];refine z.ld 2 (x:=s) ?_;refine G.at z g1 g2 λaa ks0 is0 nd ik0 ii0=>nd.gh ?_;refine z.node λx5 h1' z=>?_;refine z.ld 1 (x:=o) ?_;refine z.ld 0 ?_;refine z.ld 0 ?_;refine z.ld 0 ?_;refine z.Oc 2 (new:=[vi x.kind,.string x.text,.bool x.ord,aE,aE]) rfl (by decide) rfl (by grind [da]) λo1 h2' g3 ho1 z _=>?_;refine z.st 1 (cs':=[aA o1,vi 0]) λh3 z=>?_;refine z.ld 5 (x:=arr c.be N.length) ?_;obtain⟨ea,hea⟩:=eC (l:=es) (i:=a.toNat) (by omega);refine E7 g1 (by omega) ?_;refine z.ld 7 (x:=ea) ?_ rfl (by rw[abh,hea];rfl) rfl
 let nr:aH:=⟨x.kind,x.text,x.ord,ow,[],0,ow,[],0⟩
 have rest:∀{h3:ai} {b:Nat} {R':List aZ},(∀o∈R,o∈R')->aZ.ar b (l.map vi) al∈R'->R.Sublist R'->Z h0 h3 (UQ c N.length s root m es o1 (O++[nr]) g3++((Yv x5 x ks0 is0::R')++J)) ->
   Wp (jP (aO.at n) n ik (ak c.o) (ak c.f) (T.length:Int) (ak x5) (arr b x.items.length)) h3 λr h'=>
    (T.length+((((kX x l).flatMap (tr N f)).length)+1)<=m/\r=((T.length:Int),true)/\∃J',Yo h0 c N.length s root m es h' (T++⟨x.kind,x.text,x.ord,(wv (uf N f) x l (T.length+1)).1.1,(wv (uf N f) x l (T.length+1)).1.2⟩::(wv (uf N f) x l (T.length+1)).2) R J') \/
    (m<T.length+((((kX x l).flatMap (tr N f)).length)+1)/\r=(0,false)/\Z h0 h' R):=by
  intro h3 b R' hRR hb hsub z;have z:=z.add (Fr.refl z.wf) (o:=.sl ow 1 al [] 0) uq.nil (.inl rfl);have z:=z.add (Fr.refl z.wf) (o:=.sl ow 1 al [] 0) uq.nil (.inl rfl);have st1:Yo h0 c N.length s root m es h3 (T++[nr.v]) (.sl ow 1 al (([]:ε).map vi) 0::.sl ow 1 al (([]:ε).map vi) 0::Yv x5 x ks0 is0::R') J:=
   ⟨o1,O++[nr],g3,by simp[e1],λr hr=>by
    rcases List.mem_append.1 hr with hr|hr
    .exact e2 r hr
    .rw[ac1] at hr;subst hr;exact⟨⟨.inl ⟨rfl,rfl⟩,.inl ⟨rfl,rfl⟩⟩,⟨alg _,alg _,fw.txt x hxm⟩⟩,z.perm (List.perm_middle.trans (List.Perm.cons _ al2)).symm⟩
  have tl1:(T++[nr.v]).length=T.length+1:=by simp
  unfold jP;rw[ah,<-hpl];refine (aoW V hm (ik:=ik) ik0 ii0 hk hi (b:=b) (l:=l) hpr (by omega) (a3:=(T.length:Int)) (x5:=x5) n 0 (T++[nr.v]) ow ow [] [] 0 0 h3 R' J (by omega) (by omega) (abi _) rfl (by rw[tl1];omega) hb (λv hv=>(en v hv).mono hRR) st1).mono λr h4 hr=>?_;rw[aiq,tl1,afk,afk] at hr;rcases hr with⟨w,ksl,isl,gk,gi,J2,rfl,yW⟩|⟨w,rfl,z⟩
  rotate_left
  .simp only[dW,ag];exact .inr ⟨by omega,by trivial,z.sub hsub⟩
  simp only[dW];obtain⟨le1,le2⟩:=TD (F:=uf N f) (x:=x) l (T.length+1);have leT:(wv (uf N f) x l (T.length+1)).2.length=((kX x l).flatMap (tr N f)).length:=Ja (CB f) l _;generalize (wv (uf N f) x l (T.length+1)).1.1=kl at *
  generalize (wv (uf N f) x l (T.length+1)).1.2=il at *
  generalize (wv (uf N f) x l (T.length+1)).2=L2 at *
  obtain⟨o3,O3,g4,e3,p3,z⟩:=yW;have ol3':O3.length=T.length+1+L2.length:=by rw[<-acL (f:=aH.v),e3];simp;omega
  have os:uq h4 o3 5 av (O3.flatMap aH.enc) g4:=z.get 1 rfl;have o3l:o3.len=O3.length:=by have:=os.1;rw[eG aH.jS] at this;omega
  obtain⟨bo,base,e4,_,_⟩:=os.ar (by omega);obtain⟨oa,ol3,oc⟩:=o3;cases e4;have o3l:ol3=O3.length:=o3l;subst o3l;obtain⟨y,hy⟩:=eC (l:=O3) (i:=T.length) (by omega);obtain⟨y1,y2⟩:=p3 y (IN hy);have yv:y.v=nr.v:=by
   have h1:(O3.map aH.v)[T.length]?=some y.v:=by rw[abh,hy];rfl
   rw[e3,acX,agj (abi _),amW] at h1;exact (acZ h1).symm
  let ya:aH:={ y with ks:=ksl,kl:=kl,kg:=gk }
  let yb:aH:={ ya with is:=isl,il:=il,ig:=gi }
  have s1:aM (O3.flatMap aH.enc) (T.length*5+3) [aA ksl]=(O3.set T.length ya).flatMap aH.enc:=sA aH.jS hy (by simp) (by unfold aM aH.enc;rfl);have hya:(O3.set T.length ya)[T.length]?=some ya:=al5 (by omega);have s2:aM ((O3.set T.length ya).flatMap aH.enc) (T.length*5+4) [aA isl]=(O3.set T.length yb).flatMap aH.enc:=by
   have:=sA aH.jS (x':=yb) hya (o:=4) (vs:=[aA isl]) (by simp) (by unfold aM aH.enc;rfl)
   simp_all
  have hlt3:(T.length:Int)<(O3.length:Int):=Int.ofNat_lt.2 (by rw[ol3'];exact amX (ais _) (aoX _ _));have hlen3:(O3.flatMap aH.enc).length=O3.length*5:=eG aH.jS O3;refine z.ld 0 (l:=.sl) (x:=⟨some ⟨bo,0,none⟩,O3.length,oc⟩) ?_;refine GF (ald _) hlt3 ?_;rw[aba];refine z.ld 0 (l:=.sl) (x:=⟨some ⟨bo,0,none⟩,O3.length,oc⟩) ?_;refine xM (P:=λ_ h'=>Z h0 h' (UQ c N.length s root m es ⟨some ⟨bo,0,none⟩,O3.length,oc⟩ (O3.set T.length ya) g4++((.sl ksl 1 al (kl.map vi) gk::.sl isl 1 al (il.map vi) gi::Yv x5 x ks0 is0::R')++J2))) (λa ha=>?_) ((Ou z (i:=1) rfl (by omega) s1 (by rw[hlen3];simp;omega) rfl).mono λ_ h' z=>z) λ_ h6 z=>?_
  .simp at ha;subst ha;exact⟨_,_,z.get 0 rfl,λ_ h' z=>z.get 0 rfl⟩
  refine GF (ald _) hlt3 ?_;rw[aba,ah];refine (Ou z (i:=1) rfl (by omega) s2 (by rw[eG aH.jS,ah8];simp;omega) rfl).mono λ_ h7 z=>?_;rw[ag];refine .inl ⟨by omega,rfl,.sl ksl 1 al (kl.map vi) gk::.sl isl 1 al (il.map vi) gi::J2,⟨some ⟨bo,0,none⟩,O3.length,oc⟩,O3.set T.length yb,g4,?_,λr hr=>?_,?_⟩
  .rw[an3,e3,acX,al8 _ _ (abi _),amW];have:yb.v=⟨x.kind,x.text,x.ord,kl,il⟩:=by
    have q1:y.kind=x.kind:=alZ aq.kind yv;have q2:y.text=x.text:=alZ aq.text yv;have q3:y.ord=x.ord:=alZ aq.ord yv;show (⟨y.kind,y.text,y.ord,kl,il⟩:aq)=_;rw[q1,q2,q3]
   rw[this];rfl
  .rcases al7 hr with hr|rfl
   .obtain⟨a1,a2⟩:=p3 r hr;exact⟨a1.mono λo ho=>BY _ (BY _ ho),a2⟩
   .exact⟨⟨.inr IS,.inr (BY _ IS)⟩,⟨by show kl.length<=80;omega,by show il.length<=80;omega,y2.t⟩⟩
  .have z9:Z h0 h7 (UQ c N.length s root m es ⟨some ⟨bo,0,none⟩,O3.length,oc⟩ (O3.set T.length yb) g4++((.sl ksl 1 al (kl.map vi) gk::.sl isl 1 al (il.map vi) gi::Yv x5 x ks0 is0::R')++J2)):=z;have z9:=z9.sub (apJ (.cons₂ _ (.cons₂ _ (.cons _ (hsub.append_right J2)))) _);refine z9.perm (aiw _ ?_);exact (ahR [aZ.sl ksl 1 al (kl.map vi) gk,.sl isl 1 al (il.map vi) gi] R J2)
 have e5:(O++[nr]).flatMap aH.enc=O.flatMap aH.enc++[vi x.kind,.string x.text,.bool x.ord,aE,aE]:=by rw[alX];rfl
 have z:Z h0 h3 (Yv x5 x ks0 is0::(UQ c N.length s root m es o1 (O++[nr]) g3++(R++J))):=by
  unfold UQ;rw[e5];exact z
 cases ik with
 |true=>
  rw[By rfl];refine z.gh 3 (ls:=[.sl,li]) (x:=(s,root)) ?_;rw[ah];refine (HD fw hg z G hx hD).mono λy h4 hy=>?_;obtain⟨b,rfl,z⟩:=hy;rw[hl] at z;refine rest (b:=b) (R':=.ar b (l.map vi) al::R) (λo ho=>.tail _ ho) IS (ahy _ _) (z.perm ?_);refine (List.Perm.swap _ _ _).trans ?_;exact (List.perm_middle.trans (List.Perm.cons _ al2)).symm
 |false=>
  rw[AT (by simp)];obtain⟨x',b,q1,q2,q3⟩:=en a (hir rfl);rw[hx] at q1;cases q1;rw[hl] at q3;have eb:ea=arr b x.items.length:=by
   rw[(aB q2).2] at hea;exact (acZ hea).symm
  rw[eb];exact rest (λo ho=>ho) q3 (anZ _) (z.perm List.perm_middle.symm)
theorem anF (G:ou h0 s N)(d:Vd N root)(hg:Sh.gc N root=0)(fw:kL N){H:Int->Nat}(hH:∀u v,Edge N u v->H v<H u)(hm:m<=40)(hes:es.length=N.length):∀f,UfT h0 c s root m es N H f:=by
 intro f
 induction f with
 |zero=>intro n h a ik T R J _ _ hk;omega
 |succ f V=>exact agc G d hg fw hH hm hes V
end Go.Sh
namespace Go.Sh
open Go Go.Ago Go.Proofs
variable {α β:Type}{h h' h0:ai}{L R J:List aZ}{N:List aq}{root:Int}{s:Sl}
def Fits (N:List aq)(root:Int):Prop:=CyA N root/\(tr N (N.length+1) root).length<=N.length
def anG {n f:Nat}(hn:H5+9000<=n)(hf:f<=41):fuU f<=n:=by
 have:fuU f=f*200+H5+300:=rfl;have:f*200<=41*200:=ag8 _ hf;generalize H5=D at *
 omega
def agd (fw:kL N)(z:Z h0 h L)(G:ou h0 s N)(hg:Sh.gc N root=0){n}(hn:H5+9000<=n) :
  Wp (qG n (s,root) (N.length:Int)) h λy h'=>
   (Fits N root/\y.2=0/\y.1.2=0/\∃(O:List aH) (J:List aZ) (g:Nat),O.map aH.v=uf N (N.length+1) root 0/\(∀r∈O,RO r J/\NSz r)/\Z h0 h' (.sl y.1.1 5 av (O.flatMap aH.enc) g::(J++L))) \/
   (¬Fits N root/\y.2≠0/\Z h0 h' L):=by
 have d:=fw.Yu hg;have hN:=fw.len;have hnK:KF+4*80+65600<n:=by
  have hz:80000<=Tz:=aoo _ _;have hD:H5=Tz+10000:=rfl;have hK:KF=7000:=rfl;omega
 have gv:=fw.gv.1 hg;unfold qG;refine z.new λx0 h1 z _=>z.new λx1 h2 z _=>z.new λx2 h3 z _=>?_;refine z.gh 2 (ls:=[.sl,li]) (x:=(s,root)) ?_;rw[ah];refine (rB z G fw.bd fw.ht hnK (fw.gc root)).mono λy h4 hy=>?_;obtain⟨rfl,z⟩:=hy;rw[AT (by simp[hg])];refine z.gh 2 (ls:=[.sl,li]) (x:=(s,root)) ?_;rw[ah];refine (aoV fw z G hg hn).mono λy h5 hy=>?_;obtain⟨hc,z⟩:=hy;obtain⟨y1,y2⟩:=y;by_cases c:CyA N root
 rotate_left
 .obtain rfl:y2=true:=hc.2 c;rw[By rfl];refine z.st 0 λh6 z=>?_;refine z.gh 0 (ls:=[.sl,li]) (x:=(ow,0)) ?_;rw[ag];exact .inr ⟨λq=>c q.1,by decide,z.drop.drop.drop⟩
 obtain rfl:y2=false:=by
  cases y2 with
  |false=>rfl
  |true=>exact absurd c (hc.1 rfl)
 rw[AT (by simp)];refine z.ld 1 (l:=li) (x:=(N.length:Int)) ?_;rw[AT (by omega)];refine z.st 1 λh6 z=>?_;refine z.gh 2 (ls:=[.sl,li]) (x:=(s,root)) ?_;rw[ah];refine (acI fw z G hg hn).mono λy h7 hy=>?_;obtain⟨os,g,o1,o2,o4,o3,be,es,J,e2,el,en,z⟩:=hy;obtain⟨y1,y2⟩:=y;obtain rfl:y2=arr be N.length:=e2;refine z.new λx11 h8 z _=>z.st 0 λh9 z=>?_;refine z.new λx13 h10 z _=>z.new λfJ h11 z _=>z.st 0 λh12 z=>?_
 let C:UC:=⟨x13,x1,x0,x11,fJ,be⟩
 have z:=z.add (Fr.refl z.wf) (o:=.sl ow 5 av [] 0) uq.nil (.inl rfl);have z:Z h0 h12 ([.sl ow 5 av [] 0,.ar fJ [C.fn] jf,.ar x13 [aE,vi 0] aj,.ar x11 [aA (arr be N.length)] nB,.sl y1 1 al (os.map vi) g,.ar be (es.map aA) aF]++(J++([.ar x2 [aE,vi 0] aj,.ar x1 [vi (N.length:Int)] al,.ar x0 [aA s,vi root] aj]++L))):=z;have z:=z.perm (aiw _ (ahR _ _ _));have z:Z h0 h12 ([.sl ow 5 av [] 0,.ar fJ [C.fn] jf,.ar x13 [aE,vi 0] aj,.ar x11 [aA (arr be N.length)] nB,.sl y1 1 al (os.map vi) g,.ar be (es.map aA) aF,.ar x2 [aE,vi 0] aj,.ar x1 [vi (N.length:Int)] al,.ar x0 [aA s,vi root] aj]++(J++L)):=z;have z:=Z.nK z [2,0,8,7,3,1,5,4,6] (by simp only[abK,agt];decide);have stU:Yo h0 C N.length s root N.length es h12 [] (.sl y1 1 al (os.map vi) g::.ar x2 [aE,vi 0] aj::(J++L)) []:=
  ⟨ow,[],0,rfl,(λr hr=>by cases hr),by rw[afx];exact z⟩
 have en':∀v,tW N root v->EnO N es (.sl y1 1 al (os.map vi) g::.ar x2 [aE,vi 0] aj::(J++L)) v:=λv hv=>by
  obtain⟨x,b,q1,q2,q3⟩:=en v hv;refine⟨x,b,q1,q2,.tail _ (.tail _ ?_)⟩;rcases List.mem_append.1 q3 with q|q
  .exact acC _ q
  .rcases List.mem_cons.1 q with e|q
   .injection e with _ _ e3
    exact absurd e3 (by decide)
   rcases List.mem_cons.1 q with e|q
   .injection e with _ e3 _
    have hp:=HG q1;have e4:(cd N v).map vi=[(N.length:Int)].map vi:=e3;have e5:cd N v=[(N.length:Int)]:=by
     have inj:∀a b:ε,a.map vi=b.map vi->a=b:=λa b h=>(List.map_inj_right (λp q h=>by injection h)).1 h;exact inj _ _ e4
    rw[e5] at hp;have hl:=hp.length_eq;rw[gD] at hl;have hmem:=(ic x.items.length).2 (N.length:Int) (hp.mem_iff.1 (by simp));have hv1:=nF q1;have:=hv1.1;have:=hv1.2;simp at hl;omega
   rcases List.mem_cons.1 q with e|q
   .injection e with _ _ e3
    exact absurd e3 (by decide)
   .exact OF _ q
 have ha:=(Jc d gv.Q6).1 c;obtain⟨o,O,g',e1,e2,zU⟩:=id stU;refine zU.ld 5 (x:=C.fn) ?_;refine zU.ld 2 (x:=root) ?_;rw[ah];unfold u7;rw[By (by rfl),ah];refine iA (c:=((ak x13,ak x1,ak x0,ak x11,ak fJ):Addr×Addr×Addr×Addr×Addr)) rfl ?_;refine (anF (c:=C) G d hg fw (H:=cR N) (λu v e=>Cz d.ix ha e) hN el (N.length+1) n h12 root false [] _ [] (anG hn (by omega)) d.rt (apy (MM root)) (λq=>by cases q) (λ_=>.refl) en' stU).mono λr h13 hr=>?_;rcases hr with⟨w,rfl,J',o,O,g',e1,e2,z⟩|⟨w,rfl,z⟩
 .rw[AT (by simp)];refine z.gh 0 (ls:=[.sl,li]) (x:=(o,0)) ?_;refine z.st 8 (cs':=[aA o,vi 0]) λh14 z=>?_;refine z.gh 8 (ls:=[.sl,li]) (x:=(o,0)) ?_;rw[ag];refine .inl ⟨⟨c,by simpa using w⟩,rfl,rfl,O,J',g',by simpa using e1,e2,?_⟩;have z:=z.sub (.cons _ (.cons₂ _ (.cons _ (.cons _ (.cons _ (.cons _ (.cons _ (.cons _ (.cons _ ((ahY J L).append_right J'))))))))));exact z.perm (List.Perm.cons _ aiu)
 .rw[By (by rfl)];refine z.st 1 λh14 z=>?_;refine z.gh 1 (ls:=[.sl,li]) (x:=(ow,0)) ?_;rw[ag];refine .inr ⟨λq=>?_,by decide,z.sub (.cons _ (.cons _ (ahY J L)))⟩;have:=q.2;simp at w;omega
end Go.Sh
namespace Go.Sh
open Go Go.Ago Go.Proofs
variable {α β:Type}{h h' h0:ai}{L:List aZ}{Q:β->ai->Prop}
def age {s1 s2:Sl}{xs:ε}(i1:IL h s1 xs)(i2:IL h s2 xs)(hl:xs.length<1073741824) :
  ∀(n i:Nat),xs.length-i<n->i<=xs.length->Wp (iP n s1 s2 (i:Int)) h λy h'=>y=.inl ()/\h'=h:=by
 intro n
 induction n with
 |zero=>intro i h1;omega
 |succ n ih=>
  intro i h1 h2;rw[xU];unfold nT;rw[i1.len];by_cases hi:i<xs.length
  .rw[By (by simp;omega)];obtain⟨x,hx⟩:=eC hi;refine i1.ix (by omega) (by simpa using hx) λa1 g1 c1=>?_;refine i2.ix (by omega) (by simpa using hx) λa2 g2 c2=>?_;refine c1.sL (l:=li) rfl rfl (c2.sL (l:=li) rfl rfl ?_);rw[AT (by simp),wZ h2 (by omega)];exact ih (i+1) (by omega) (by omega)
  .rw[AT (by simp;omega),ag];exact⟨rfl,rfl⟩
def VJ {s1 s2:Sl}{xs:ε}(i1:IL h s1 xs)(i2:IL h s2 xs)(hl:xs.length<1073741824){n:Nat}(hn:xs.length<n):Wp (ji n s1 s2) h λy h'=>y=true/\h'=h:=by
 unfold ji;rw[i1.len,i2.len,AT (by simp),ah];refine (age i1 i2 hl n 0 (by omega) (by omega)).mono λy h' hy=>?_;obtain⟨rfl,rfl⟩:=hy;exact ag.2 ⟨rfl,rfl⟩
def anH {s1 s2:Sl}{r:Int}{N:List aq}(G1:ou h0 s1 N)(G2:ou h0 s2 N){B:Nat}(hB:Bd N B){b0 b1:Nat} :
  ∀(n i:Nat) (h:ai) (L:List aZ),N.length-i+B+2<n->i<=N.length->Z h0 h (.ar b1 [aA s2,vi r] aj::.ar b0 [aA s1,vi r] aj::L) ->
   Wp (kC n (ak b0) (ak b1) (i:Int)) h λy h'=>y=.inl ()/\Z h0 h' (.ar b1 [aA s2,vi r] aj::.ar b0 [aA s1,vi r] aj::L):=by
 have hBB:=hB.2.1;have hNB:=hB.1;intro n
 induction n with
 |zero=>intro i h L h1;omega
 |succ n ih=>
  intro i h L h1 h2 z;rw[zm];unfold pZ;refine z.ld 1 (o:=0) (l:=.sl) (x:=s1) ?_;rw[G1.len];by_cases hi:i<N.length
  .rw[By (by simp;omega)];obtain⟨x,hx⟩:=eC hi;have hb:=hB.2.2 x (IN hx);refine z.dP [10,11] (by decide) (by decide) λnb h3 z=>?_;refine z.ld 3 (o:=0) (l:=.sl) (x:=s1) ?_;refine G1.P3 z (by omega) (by simpa using hx) λa1 k1 j1 n1=>(n1.fr z.fr).gh ?_;refine z.ld 2 (o:=0) (l:=.sl) (x:=s2) ?_;refine G2.P3 z (by omega) (by simpa using hx) λa2 k2 j2 n2=>(n2.fr z.fr).gh ?_;refine z.newAt 0 λh4 z=>z.newAt 1 λh5 z=>?_;refine z.stC 0 ?_ λh6 z=>z.st 1 λh7 z=>?_
   .intro a' ha';simp only[aok,acU,List.not_mem_nil,or_false] at ha';rcases ha' with rfl|rfl
    .exact z.nbO 0 2 rfl rfl (by decide)
    .obtain⟨g,c⟩:=n2.cl;exact z.nb0 0 c rfl
   refine z.ld 0 (o:=0) (l:=li) (x:=x.kind) ?_;refine z.ld 1 (o:=0) (l:=li) (x:=x.kind) ?_;rw[AT (by simp)];refine z.ld 0 (o:=1) (l:=.str) (x:=x.text) ?_;refine z.ld 1 (o:=1) (l:=.str) (x:=x.text) ?_;rw[Gh,AT (by simp)];refine z.ld 0 (o:=2) (l:=.bool) (x:=x.ord) ?_;refine z.ld 1 (o:=2) (l:=.bool) (x:=x.ord) ?_;rw[AT (by simp)];refine z.ld 0 (o:=3) (l:=.sl) (x:=k1) ?_;refine z.ld 1 (o:=3) (l:=.sl) (x:=k2) ?_;rw[ah];refine (VJ (n1.keys.fr z.fr) (n2.keys.fr z.fr) (by omega) (by omega)).mono λy h8 hy=>?_;obtain⟨rfl,rfl⟩:=hy;rw[AT (by simp)];refine z.ld 0 (o:=4) (l:=.sl) (x:=j1) ?_;refine z.ld 1 (o:=4) (l:=.sl) (x:=j2) ?_;rw[ah];refine (VJ (n1.items.fr z.fr) (n2.items.fr z.fr) (by omega) (by omega)).mono λy h9 hy=>?_;obtain⟨rfl,rfl⟩:=hy;rw[AT (by simp),wZ h2 (by omega)];exact ih (i+1) h9 L (by omega) (by omega) z.drop.drop
  .rw[AT (by simp;omega),ag];exact⟨rfl,z⟩
def anI {s1 s2:Sl}{r:Int}{N:List aq}(z:Z h0 h L)(G1:ou h0 s1 N)(G2:ou h0 s2 N){B:Nat}(hB:Bd N B){n:Nat}(hn:2*B+3<n) :
  Wp (oI n (s1,r) (s2,r)) h λy h'=>y=true/\Z h0 h' L:=by
 have hNB:=hB.1;unfold oI;refine z.new λb0 h1 z _=>z.new λb1 h2 z _=>?_;refine z.ld 1 (o:=1) (l:=li) (x:=r) ?_;refine z.ld 0 (o:=1) (l:=li) (x:=r) ?_;rw[AT (by simp)];refine z.ld 1 (o:=0) (l:=.sl) (x:=s1) ?_;refine z.ld 0 (o:=0) (l:=.sl) (x:=s2) ?_;rw[G1.len,G2.len,AT (by simp),ah];refine (anH G1 G2 hB n 0 h2 L (by omega) (by omega) z).mono λy h3 hy=>?_;obtain⟨rfl,z⟩:=hy;exact ag.2 ⟨rfl,z.drop.drop⟩
end Go.Sh
namespace Go.Sh
open Go Go.Ago Go.Proofs
variable {α β:Type}{h h' h0:ai}{L:List aZ}{N:List aq}{Ue:Sl}{root:Int}{Q:β->ai->Prop}
abbrev GB (b:Nat)(Ue:Sl)(root:Int):aZ:=.ar b [aA Ue,vi root] aj
theorem alT (G:ou h0 Ue N){x0:Nat}(hN:N.length<=40) :
  ∀(n i:Nat) (p q:Int) (h:ai),N.length-i<n->i<=N.length->(∀(j:Nat) (x:aq),j<i->N[j]?=some x->x.text.size<=100/\x.keys.length<=80/\x.items.length<=80)->Z h0 h (GB x0 Ue root::L) ->
   Wp (hY n (ak x0) p q (i:Int)) h λy h'=>(∀w,y=.inl w->∀(j:Nat) (x:aq),N[j]?=some x->x.text.size<=100/\x.keys.length<=80/\x.items.length<=80)/\(∀b,y=.inr b->b=false)/\Z h0 h' (GB x0 Ue root::L):=by
 intro n
 induction n with
 |zero=>intro i p q h h1;omega
 |succ n ih=>
  intro i p q h h1 h2 hf z;rw[yM];unfold pf;refine z.ld 0 (o:=0) (l:=.sl) (x:=Ue) ?_;rw[G.len];by_cases hi:i<N.length
  .rw[By (by simp;omega)];obtain⟨x,hx⟩:=eC hi;refine z.ld 0 (o:=0) (l:=.sl) (x:=Ue) ?_;refine G.at z (by omega) (by simpa using hx) λa ks is nd ik ii=>nd.gh ?_;refine z.node λx2 h2' z=>?_;have fin:Wp (AI (Sum.inr false:(Int×Int)⊕Bool)) h2' λy h'=>(∀w,y=.inl w->∀(j:Nat) (x:aq),N[j]?=some x->x.text.size<=100/\x.keys.length<=80/\x.items.length<=80)/\(∀b,y=.inr b->b=false)/\Z h0 h' (GB x0 Ue root::L):=by
    rw[ag]
    grind [z.drop]
   refine z.ld 0 (o:=1) (l:=.str) (x:=x.text) ?_;by_cases c1:(100:Int)<x.text.size
   .rw[By (by simpa using c1)];exact fin
   rw[AT (by simpa using c1)];refine z.ld 0 (o:=3) (l:=.sl) (x:=ks) ?_;rw[ik.len];by_cases c2:(80:Int)<x.keys.length
   .rw[By (by simpa using c2)];exact fin
   rw[AT (by simpa using c2)];refine z.ld 0 (o:=4) (l:=.sl) (x:=is) ?_;rw[ii.len];by_cases c3:(80:Int)<x.items.length
   .rw[By (by simpa using c3)];exact fin
   rw[AT (by simpa using c3)];unfold lY;refine z.ld 0 (o:=3) (l:=.sl) (x:=ks) (z.ld 0 (o:=4) (l:=.sl) (x:=is) (z.ld 0 (o:=1) (l:=.str) (x:=x.text) ?_));rw[wZ (B:=40) (by omega) (by omega)];refine ih (i+1) _ _ h2' (by omega) (by omega) (λj y hj hy=>?_) z.drop
   grind
  .rw[AT (by simp;omega),ag]
   grind
theorem acO (G:ou h0 Ue N)(z:Z h0 h L){n:Nat}(hn:50<n):Wp (mO n (Ue,root)) h λy h'=>(y=true->kL N/\∀x∈N,x.text.size<=100)/\Z h0 h' L:=by
 unfold mO;refine z.new λx0 h1 z _=>?_;refine z.ld 0 (o:=0) (l:=.sl) (x:=Ue) ?_;rw[G.len];by_cases c1:(40:Int)<N.length
 .rw[By (by simpa using c1),ag];exact⟨λh=>(by cases h),z.drop⟩
 rw[AT (by simpa using c1),ah];refine (alT G (by omega) n 0 0 0 h1 (by omega) (by omega) (λj x hj=>by omega) z).mono λy h2 hy=>?_;obtain⟨f1,f2,z⟩:=hy;cases y with
 |inl w=>
  have ft:∀x∈N,x.text.size<=100:=λx hx=>by obtain⟨j,hj⟩:=List.mem_iff_getElem?.1 hx;exact (f1 w rfl j x hj).1
  have fg:kL N/\∀x∈N,x.text.size<=100:=⟨⟨by omega,λx hx=>by
   obtain⟨j,hj⟩:=List.mem_iff_getElem?.1 hx
   grind,λx hx=>by have:=ft x hx;omega⟩,ft⟩
  show Wp (if _ then _ else _) h2 _;split
  .rw[ag];exact⟨λ_=>fg,z.drop⟩
  .rw[ag];exact⟨λ_=>fg,z.drop⟩
 |inr b=>
  show Wp (AI b) h2 _;rw[ag];exact⟨λh=>(by rw[f2 b rfl] at h;cases h),z.drop⟩
end Go.Sh
namespace Go.Sh
open Go Go.Ago Go.Proofs
variable {h h' h0:ai}{L:List aZ}{N:List aq}{s:Sl}{root:Int}
theorem acP {o:Sl}{O:List aH}{g:Nat}{J:List aZ}(hr:∀r∈O,RO r J/\NSz r)(z:Z h0 h (.sl o 5 av (O.flatMap aH.enc) g::(J++L))):ou h o (O.map aH.v):=by
 have os:uq h o 5 av (O.flatMap aH.enc) g:=z.get 0 rfl;have one:∀{s:Sl} {kl:ε} {g:Nat},(s.len=0/\kl=[])\/aZ.sl s 1 al (kl.map vi) g∈J->IL h s kl:=λ{s kl g} hh=>by
  rcases hh with⟨e1,e2⟩|hj
  .subst e2;exact⟨0,vR.nil e1⟩
  .have o:uq h s 1 al (kl.map vi) g:=(z.own _ (BY _ (acC _ hj))).1;exact⟨g,o.GD⟩
 exact⟨O,g,rfl,os.GD,λr hr'=>⟨one (hr r hr').1.1,one (hr r hr').1.2⟩⟩
def fuT:Nat:=H5+fuN+90000
def ahZ {n}(h:fuT<=n):H5+9000<=n/\fuN<=n/\KF+66000<n/\KF+4*80+65600<n/\2*80+3<n/\50<n:=by
 have hK:KF=7000:=rfl;have e:fuT=H5+fuN+90000:=rfl;rw[e] at h;generalize H5=a at *
 generalize fuN=b at *
 omega
def acQ {x0:Nat}(z:Z h0 h (.ar x0 [aA s,vi root] aj::L))(G:ou h0 s N)(fw:kL N)(hg:Sh.gc N root=0){n:Nat}(hn:fuT<=n) :
  Wp (hS n (ak x0)) h λy _=>y=true:=by
 obtain⟨n1,n2,n3,n4,n5,_⟩:=ahZ hn;have d:=fw.Yu hg;have gv:=fw.gv.1 hg;have fit:Fits N root↔TrB N root:=⟨λq=>(QV d gv.Q6 q.1).1 q.2,λq=>⟨HH d gv.Q6 q,(QV d gv.Q6 (HH d gv.Q6 q)).2 q⟩⟩;unfold hS;refine z.gh 0 (ls:=[.sl,li]) (x:=(s,root)) ?_;rw[ah];refine (anC fw z G hg n1).mono λb h1 hb=>?_;obtain⟨hb,z⟩:=hb;refine z.gh 0 (ls:=[.sl,li]) (x:=(s,root)) ?_;rw[ah];refine (anB fw z G hg n1).mono λy h2 hy=>?_;obtain⟨hy,z⟩:=hy;have e1:b=decide ((y.len:Int)=0):=by
  rw[ao3,hb,<-hy,aca];omega
 rw[AT (by rw[<-e1];simp)];refine z.gh 0 (ls:=[.sl,li]) (x:=(s,root)) ?_;refine z.ld 0 (x:=s) ?_;rw[G.len,ah];refine (agd fw z G hg n1).mono λu h3 hu=>?_;obtain⟨⟨us,ur⟩,ue⟩:=u;rcases hu with⟨f,e2,e3,O,J,g,e4,e5,z⟩|⟨f,e2,z⟩
 .obtain rfl:ue=0:=e2;obtain rfl:ur=0:=e3;have ht:=fit.1 f;obtain rfl:b=true:=hb.2 ht;refine z.new λx7 h4 z _=>z.st 0 (o:=0) (cs':=[aA us,vi 0]) λh5 z=>?_;have z:Z h0 h5 (.ar x7 [aA us,vi 0] aj::.sl us 5 av (O.flatMap aH.enc) g::(J++(.ar x0 [aA s,vi root] aj::L))):=z;have z:=Z.nK (pre:=[_,_,_]) (z.perm (.cons _ (.cons _ al2))) [2,0,1] (by simp only[abK,agt];decide);have z:Z h0 h5 (.ar x0 [aA s,vi root] aj::.ar x7 [aA us,vi 0] aj::.sl us 5 av (O.flatMap aH.enc) g::(J++L)):=z;refine z.gh 0 (ls:=[.sl,li]) (x:=(s,root)) ?_;rw[ah];refine (MK z G fw fw.k0 (fw.gc root) n2 n3).mono λr h6 hr=>?_;obtain⟨⟨rs,r0⟩,re⟩:=r;rw[By hg] at hr;obtain⟨h7,h8,m⟩:=hr;obtain rfl:re=0:=h7;obtain rfl:r0=0:=h8;refine m.on λX z back=>?_;refine z.new λx11 h9 z _=>z.st 0 (o:=0) (cs':=[aA rs,vi 0]) λh10 z=>?_;rw[By (by rfl),By (by rfl)];refine z.gh 2 (ls:=[.sl,li]) (x:=(us,0)) ?_;refine z.gh 0 (ls:=[.sl,li]) (x:=(rs,0)) ?_;have zz:Z h0 h10 (.sl us 5 av (O.flatMap aH.enc) g::(J++(L++X))):=by
   have q:Z h0 h10 ((.sl us 5 av (O.flatMap aH.enc) g::(J++L))++X):=z.drop.drop.drop;rw[acV,acX] at q;exact q
  have Gu:=acP e5 zz;have Gn:=(back h10 (_::_::_::_::(J++L)) z).read;rw[e4,<-agb d gv.Q6 ht] at Gu;rw[ah];refine (anI (Z.start z.wf) Gu Gn (afJ d fw.bd) n5).mono λy h11 hy=>?_;rw[hy.1,ag];rfl
 .have nt:¬TrB N root:=λq=>f (fit.2 q);obtain rfl:b=false:=by
   cases b with
   |false=>rfl
   |true=>exact absurd (hb.1 rfl) nt
  refine z.new λx7 h4 z _=>z.st 0 (o:=0) (cs':=[aA us,vi ur]) λh5 z=>?_;refine z.gh 1 (ls:=[.sl,li]) (x:=(s,root)) ?_;rw[ah];refine (MK z G fw fw.k0 (fw.gc root) n2 n3).mono λr h6 hr=>?_;obtain⟨⟨rs,r0⟩,re⟩:=r;rw[By hg] at hr;obtain⟨h7,h8,m⟩:=hr;obtain rfl:re=0:=h7;obtain rfl:r0=0:=h8;refine m.on λX z back=>?_;refine z.new λx11 h9 z _=>z.st 0 (o:=0) (cs':=[aA rs,vi 0]) λh10 z=>?_;have e2:ue≠0:=e2;rw[By (by rfl),AT (by simpa using e2),ag];rfl
def acR (hw:WF h)(G:ou h s N){n:Nat}(hn:fuT<=n):Wp (nh n (s,root)) h λy _=>y=true:=by
 obtain⟨n1,n2,n3,n4,n5,n6⟩:=ahZ hn;unfold nh Oo;refine (Z.start hw).new λx0 h1 z _=>?_;rw[ah,ag,AT (by decide)];refine z.gh 0 (ls:=[.sl,li]) (x:=(s,root)) ?_;rw[ah];refine (acO G z n6).mono λb h3 hb=>?_;obtain⟨hf,z⟩:=hb;cases b with
 |false=>rw[By (by rfl)];exact ag.2 rfl
 |true=>
 obtain⟨fw,_⟩:=hf rfl;rw[AT (by decide)];refine z.gh 0 (ls:=[.sl,li]) (x:=(s,root)) ?_;rw[ah];refine (rB z G fw.bd fw.ht n4 (fw.gc root)).mono λy h4 hy=>?_;obtain⟨rfl,z⟩:=hy;by_cases hg:Sh.gc N root=0
 .rw[AT (by simp[hg])];exact acQ z G fw hg hn
 .rw[By (by simpa using hg)];exact ag.2 rfl
end Go.Sh
