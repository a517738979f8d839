
import Derived.Test.YthnfbcloepfooaaGreatDoorPaa
import Derived.Test.YthnfbcloepfooaaGreatDoorPab
set_option linter.all false
namespace Go.Sh
open Go Go.Ago Go.Proofs
section
variable {α β:Type}
def Pt {α:Type}(N:List α)(b:Nat)(l:List α):Prop:=∃P S,N=P++(l++S)/\P.length=b
theorem Pt.split {N l r:List α}{b:Nat}(p:Pt N b (l++r)):Pt N b l/\Pt N (b+l.length) r:=by
 obtain⟨P,S,h1,h2⟩:=p;exact⟨⟨P,r++S,by rw[h1,aas],h2⟩,⟨P++l,S,by rw[h1];simp,by simp[h2]⟩⟩
theorem Pt.cons {N r:List α}{b:Nat}{x:α}(p:Pt N b (x::r)):N[b]?=some x/\Pt N (b+1) r:=by
 have h:=Pt.split (l:=[x]) (r:=r) p;refine⟨?_,h.2⟩;obtain⟨P,S,h1,h2⟩:=p;rw[h1,<-h2];simp
theorem Pt.le {N l:List α}{b:Nat}(p:Pt N b l):b+l.length<=N.length:=by
 obtain⟨P,S,h1,h2⟩:=p;rw[h1];simp;omega
theorem Pt.get {N l:List α}{b i:Nat}{x:α}(p:Pt N b l)(hx:l[i]?=some x):N[b+i]?=some x:=by
 obtain⟨P,S,h1,h2⟩:=p;have hlt:=aY hx;rw[h1,<-h2,aaH (by omega),ab5,aau hlt,hx]
theorem Pt.self (l:List α):Pt l 0 l:=⟨[],[],by simp,rfl⟩
def mk (n:Nat)(M:Nat->α):List α:=(List.range n).map M
theorem wR (n:Nat)(M:Nat->α):(mk n M).length=n:=by simp[mk]
theorem vu {n:Nat}{M:Nat->α}{i:Nat}(hi:i<n):(mk n M)[i]?=some (M i):=by simp[mk,hi]
theorem mr {n:Nat}{M:Nat->α}{i:Nat}(hi:i<n):gt (mk n M) (i:Int)=some (M i):=by
 unfold gt;rw[BY (by omega),aac,vu hi]
theorem lS {n:Nat}{M M':Nat->α}(h:∀i,i<n->M i=M' i):mk n M=mk n M':=by
 unfold mk;exact List.map_congr_left λi hi=>h i (by simpa using hi)
theorem qP {n:Nat}{M:Nat->α}{i:Nat}{v:α}:(mk n M).set i v=mk n λj=>if j=i then v else M j:=by
 apply ab6;intro j;rw[abQ,wR];by_cases hj:j<n
 .rw[vu hj];by_cases e:i=j
  .subst e;rw[BY rfl,BY hj,vu hj,BY rfl]
  .rw[By e,vu hj,By (λx=>e x.symm)]
 .rw[aa4 (by rw[wR];omega),aa4 (l:=mk n λj=>if j=i then v else M j) (by rw[wR];omega)];split
  .rename_i e;subst e;rw[By hj]
  .rfl
theorem Dh (n:Nat)(v:α):List.replicate n v=mk n λ_=>v:=by
 unfold mk;rw[List.map_const'];simp
theorem kD {l:List α}{i:Nat}:gt l (i:Int)=l[i]?:=by unfold gt;rw[BY (by omega),aac]
def Pe (b:Nat):s9->Nat->Bool
 |.nil,_=>false
 |.cons _ v l,j=>decide (j=b)||Pe (b+1+fY v) l j
def Mc (b:Nat):s9->Nat->Bool
 |.nil,_=>false
 |.cons _ v l,j=>decide (b+1<=j/\j<b+1+fY v)||Mc (b+1+fY v) l j
theorem ux:∀(b:Nat) (l:s9) (j:Nat),(Pe b l j||Mc b l j)=decide (b<=j/\j<b+nU l)
 |b,.nil,j=>by
  rw[nU,abi (by omega)];rfl
 |b,.cons k v l,j=>by
  have ih:=ux (b+1+fY v) l j;rw[Pe,Mc,nU];have e:(decide (j=b)||Pe (b+1+fY v) l j||(decide (b+1<=j/\j<b+1+fY v)||Mc (b+1+fY v) l j))=(decide (j=b)||decide (b+1<=j/\j<b+1+fY v)||(Pe (b+1+fY v) l j||Mc (b+1+fY v) l j)):=by
   cases decide (j=b)<;>cases Pe (b+1+fY v) l j<;>simp
  rw[e,ih,<-acS,<-acS];exact decide_eq_decide.2 (by omega)
theorem Md:∀(b:Nat) (l:s9) (j:Nat),Pe b l j=true->Mc b l j=false
 |b,.nil,j,_=>rfl
 |b,.cons k v l,j,h=>by
  rw[Pe] at h;rw[Mc];by_cases e:j=b
  .subst e;have h2:Mc (j+1+fY v) l j=false:=by
    have:=ux (j+1+fY v) l j;rw[show decide (j+1+fY v<=j/\j<j+1+fY v+nU l)=false from abi (by omega)] at this;exact (Bool.or_eq_false_iff.1 this).2
   rw[h2];simp;omega
  .rw[abi e,abX] at h;rw[Md _ _ _ h];have:=ux (b+1+fY v) l j;rw[h,acF] at this;have:=abB this.symm;simp;omega
theorem EC {N:List aq}:∀(l:s9) (b k:Nat) (M:Nat->Bool),Pt N b (iJ b l)->(∀j,b<=j->j<b+nU l->M j=false)->2*nU l+1<=k ->
  kK k N (gV b l) (mk N.length M)=some (mk N.length λj=>M j||Pe b l j)
 |.nil,b,k,M,_,_,hk=>by
  obtain⟨k,rfl⟩:∃m,k=m+1:=⟨k-1,by omega⟩;rw[gV,kK];exact aaL some (lS λi _=>by simp[Pe])
 |.cons key v l,b,k,M,p,hM,hk=>by
  rw[nU] at hk hM;have hp:=lI v;obtain⟨k,rfl⟩:∃m,k=m+3:=⟨k-3,by omega⟩;rw[iJ] at p;have hl:=p.le;obtain⟨p1,p2⟩:=p.cons;have p3:=p2.split.2;rw[cp] at p3;rw[gV,kK,A5];have hb:b<N.length:=aY p1;rw[mr hb,hM b (by omega) (by omega),kD,p1];simp only;rw[kK,aac,qP];simp only;rw[kK];simp only;rw[EC l (b+1+fY v) _ _ p3 (λj h1 h2=>by rw[By (by omega)];exact hM j (by omega) (by omega)) (by omega)];refine aaL some (lS λi _=>?_);rw[Pe];by_cases e:i=b
  .subst e;simp
  .simp[e]
mutual
theorem Di {N:List aq}:∀(v:tW) (b k:Nat) (M:Nat->Bool),Pt N b (fK b v)->(∀j,b<=j->j<b+fY v->M j=false)->2*fY v<=k ->
  A5 k N b (mk N.length M)=some (mk N.length λj=>M j||decide (b<=j/\j<b+fY v))
 |.int t,b,k,M,p,hM,hk=>by
  rw[fY] at hk;obtain⟨k,rfl⟩:∃m,k=m+2:=⟨k-2,by omega⟩;rw[fK] at p;obtain⟨p1,_⟩:=p.cons;rw[A5,mr (aY p1),hM b (by omega) (by rw[fY];omega),kD,p1];simp only;rw[kK,aac,qP];simp only;rw[kK];refine aaL some (lS λi _=>?_);rw[fY];by_cases e:i=b
  .subst e;simp
  .rw[By e,abi (by omega),abL]
 |.str t,b,k,M,p,hM,hk=>by
  rw[fY] at hk;obtain⟨k,rfl⟩:∃m,k=m+2:=⟨k-2,by omega⟩;rw[fK] at p;obtain⟨p1,_⟩:=p.cons;rw[A5,mr (aY p1),hM b (by omega) (by rw[fY];omega),kD,p1];simp only;rw[kK,aac,qP];simp only;rw[kK];refine aaL some (lS λi _=>?_);rw[fY];by_cases e:i=b
  .subst e;simp
  .rw[By e,abi (by omega),abL]
 |.list l,b,k,M,p,hM,hk=>by
  rw[fY] at hk hM;obtain⟨k,rfl⟩:∃m,k=m+2:=⟨k-2,by omega⟩;rw[fK] at p;obtain⟨p1,p2⟩:=p.cons;rw[A5,mr (aY p1),hM b (by omega) (by omega),kD,p1];simp only;rw[kK,aac,qP];simp only;rw[ED l (b+1) (k+1) _ p2 (λj h1 h2=>by rw[By (by omega)];exact hM j (by omega) (by omega)) (by omega)];refine aaL some (lS λi _=>?_);rw[fY];by_cases e:i=b
  .subst e;simp;omega
  .rw[By e]
   congr 1
   exact decide_eq_decide.2 (by omega)
 |.map l,b,k,M,p,hM,hk=>by
  rw[fY] at hk hM;obtain⟨k,rfl⟩:∃m,k=m+2:=⟨k-2,by omega⟩;rw[fK] at p;obtain⟨p1,p2⟩:=p.cons;rw[A5,mr (aY p1),hM b (by omega) (by omega),kD,p1];simp only;rw[aac,qP,EC l (b+1) (k+1) _ p2 (λj h1 h2=>by rw[By (by omega)];exact hM j (by omega) (by omega)) (by omega)];simp only;rw[EE l (b+1) (k+1) _ p2 (λj h=>by
   have h2:=ux (b+1) l j;rw[h,ada] at h2;have h2:=abB h2.symm;rw[By (by omega),hM j (by omega) (by omega),abX];cases hq:Pe (b+1) l j with
   |false=>rfl
   |true=>rw[Md _ _ _ hq] at h;cases h) (by omega)]
  refine aaL some (lS λi _=>?_);rw[fY,ac0,ux];by_cases e:i=b
  .subst e;simp;omega
  .rw[By e]
   congr 1
   exact decide_eq_decide.2 (by omega)
theorem ED {N:List aq}:∀(l:Az) (b k:Nat) (M:Nat->Bool),Pt N b (kM b l)->(∀j,b<=j->j<b+qO l->M j=false)->2*qO l+1<=k ->
  kK k N (rB b l) (mk N.length M)=some (mk N.length λj=>M j||decide (b<=j/\j<b+qO l))
 |.nil,b,k,M,p,hM,hk=>by
  obtain⟨k,rfl⟩:∃m,k=m+1:=⟨k-1,by omega⟩;rw[rB,kK];refine aaL some (lS λi _=>?_);rw[qO,abi (by omega),abL]
 |.cons v l,b,k,M,p,hM,hk=>by
  rw[qO] at hk hM;have hp:=lI v;obtain⟨k,rfl⟩:∃m,k=m+1:=⟨k-1,by omega⟩;rw[kM] at p;obtain⟨p1,p2⟩:=p.split;rw[cp] at p2;rw[rB,kK,Di v b k M p1 (λj h1 h2=>hM j h1 (by omega)) (by omega)];simp only;rw[ED l (b+fY v) k _ p2 (λj h1 h2=>by rw[hM j (by omega) (by omega),abi (by omega)];rfl) (by omega)];refine aaL some (lS λi _=>?_);rw[qO,ac0,<-acS]
  congr 1
  exact decide_eq_decide.2 (by omega)
theorem EE {N:List aq}:∀(l:s9) (b k:Nat) (M:Nat->Bool),Pt N b (iJ b l)->(∀j,Mc b l j=true->M j=false)->2*nU l+1<=k ->
  kK k N (jh b l) (mk N.length M)=some (mk N.length λj=>M j||Mc b l j)
 |.nil,b,k,M,p,hM,hk=>by
  obtain⟨k,rfl⟩:∃m,k=m+1:=⟨k-1,by omega⟩;rw[jh,kK];exact aaL some (lS λi _=>by simp[Mc])
 |.cons key v l,b,k,M,p,hM,hk=>by
  rw[nU] at hk;have hp:=lI v;obtain⟨k,rfl⟩:∃m,k=m+1:=⟨k-1,by omega⟩;rw[iJ] at p;obtain⟨_,p2⟩:=p.cons;obtain⟨p1,p2⟩:=p2.split;rw[cp] at p2;rw[jh,kK,Di v (b+1) k M p1 (λj h1 h2=>hM j (by rw[Mc,decide_eq_true (by omega),acF])) (by omega)];simp only;rw[EE l (b+1+fY v) k _ p2 (λj h=>by
   rw[hM j (by rw[Mc,h,ada])];have h2:=ux (b+1+fY v) l j;rw[h,ada] at h2;have h2:=abB h2.symm;rw[abi (by omega)];rfl) (by omega)]
  refine aaL some (lS λi _=>?_);rw[Mc,ac0]
end
end
section
variable {α β:Type}
theorem I3 (t:ζ):s6 ⟨if u8 t then 5 else 6,t,false,[],[]⟩=some true:=by
 unfold s6;cases hu:u8 t with
 |false=>simp[EA]
 |true=>
  unfold u8 at hu;rw[acA] at hu;simp[EA,hu,Er]
theorem RD {t:ζ}(hu:u8 t=true):s6 ⟨5,t,false,[],[]⟩=some true:=by
 have:=I3 t;rw[hu] at this;exact this
theorem EF:∀(b:Nat) (l:s9),(gV b l).length=(jh b l).length
 |b,.nil=>rfl
 |b,.cons k v l=>by rw[gV,jh,aae,aae,EF]
mutual
theorem RE:∀(v:tW) (b d:Nat),IU d v->∀x∈fK b v,s6 x=some true
 |.int t,b,d,h,x,hx=>by
  rw[fK,aat] at hx;subst hx;have:=h.2;unfold s6;simp[EA,this]
 |.str t,b,d,h,x,hx=>by
  rw[fK,aat] at hx;subst hx;exact I3 t
 |.list l,b,d,h,x,hx=>by
  rw[fK] at hx;rcases List.mem_cons.1 hx with rfl|hx
  .unfold s6;simp[vr]
  .exact RF l (b+1) (d+1) h.2 x hx
 |.map l,b,d,h,x,hx=>by
  rw[fK] at hx;rcases List.mem_cons.1 hx with rfl|hx
  .unfold s6;simp[vr,EF]
  .exact RG l (b+1) (d+1) _ h.2 x hx
theorem RF:∀(l:Az) (b d:Nat),Sw d l->∀x∈kM b l,s6 x=some true
 |.nil,b,d,h,x,hx=>by rw[kM] at hx;cases hx
 |.cons v l,b,d,h,x,hx=>by
  rw[kM] at hx;rcases List.mem_append.1 hx with hx|hx
  .exact RE v b d h.1 x hx
  .exact RF l _ d h.2 x hx
theorem RG:∀(l:s9) (b d:Nat) (last:Option ζ),L9 d last l->∀x∈iJ b l,s6 x=some true
 |.nil,b,d,last,h,x,hx=>by rw[iJ] at hx;cases hx
 |.cons k v l,b,d,last,h,x,hx=>by
  rw[iJ] at hx;rcases List.mem_cons.1 hx with rfl|hx
  .exact RD h.2.1
  .rcases List.mem_append.1 hx with hx|hx
   .exact RE v _ d h.2.2.2.1 x hx
   .exact RG l _ d _ h.2.2.2.2 x hx
end
theorem Me:∀{ms:List Bool} {N:List aq},ms.length=N.length->(∀m∈ms,m=true)->(∀x∈N,s6 x=some true)->gA ms N=some true
 |[],[],_,_,_=>rfl
 |m::ms,x::xs,hl,h1,h2=>by
  rw[gA,h1 m (by simp),By (by simp),h2 x (by simp)];exact Me (by simpa using hl) (λm hm=>h1 m (by simp[hm])) λx hx=>h2 x (by simp[hx])
def refs (x:aq):ε:=x.keys++x.items
def jX (N:List aq):ε:=N.flatMap refs
theorem rL (N M:List aq):jX (N++M)=jX N++jX M:=ack
theorem gn (x:aq)(N:List aq):jX (x::N)=refs x++jX N:=abh
theorem zF (b j:Nat):(if (b:Int)==(j:Int) then 1 else 0)=if j=b then 1 else 0:=by
 by_cases h:j=b
 .subst h;simp
 .rw[By h,By];simp;omega
mutual
theorem wS:∀(v:tW) (b j:Nat),(jX (fK b v)).count (j:Int)=if b<j/\j<b+fY v then 1 else 0
 |.int t,b,j=>by rw[fK,fY,By (by omega)];rfl
 |.str t,b,j=>by rw[fK,fY,By (c:=b<j/\j<b+1) (by omega)];rfl
 |.list l,b,j=>by
  have ih:=EG l (b+1) j;rw[fK,gn,fY,aa0];show (([]++rB (b+1) l).count (j:Int))+_=_;rw[aaP,ih];split<;>split<;>omega
 |.map l,b,j=>by
  have ih:=EH l (b+1) j;rw[fK,gn,fY,aa0];show ((gV (b+1) l++jh (b+1) l).count (j:Int))+_=_;rw[aa0,ih];split<;>split<;>omega
theorem EG:∀(l:Az) (b j:Nat),(rB b l).count (j:Int)+(jX (kM b l)).count (j:Int)=if b<=j/\j<b+qO l then 1 else 0
 |.nil,b,j=>by rw[rB,kM,qO,By (by omega)];rfl
 |.cons v l,b,j=>by
  have ih:=EG l (b+fY v) j;have i2:=wS v b j;have hp:=lI v;rw[rB,kM,qO,rL,aa0,aa7,zF,i2];by_cases e:j=b
  .rw[BY e,By (by omega)];rw[By (by omega)] at ih;rw[BY (by omega)];omega
  .rw[By e];split<;>split at ih<;>split<;>omega
theorem EH:∀(l:s9) (b j:Nat),(gV b l).count (j:Int)+(jh b l).count (j:Int)+(jX (iJ b l)).count (j:Int)=if b<=j/\j<b+nU l then 1 else 0
 |.nil,b,j=>by rw[gV,jh,iJ,nU,By (by omega)];rfl
 |.cons k v l,b,j=>by
  have ih:=EH l (b+1+fY v) j;have i2:=wS v (b+1) j;have hp:=lI v;rw[gV,jh,iJ,nU,gn,rL,aa0,aa0,aa7,aa7,zF,zF,i2];show _+_+(0+_)=_;by_cases e:j=b
  .rw[BY e,By (by omega),By (by omega)];rw[By (by omega)] at ih;rw[BY (by omega)];omega
  .rw[By e];by_cases e2:j=b+1
   .rw[BY e2,By (by omega)];rw[By (by omega)] at ih;rw[BY (by omega)];omega
   .rw[By e2];split<;>split at ih<;>split<;>omega
end
theorem G5 {v:tW}{b:Nat}{y:Int}(hy:y∈jX (fK b v))(h0:0<=y):∃j:Nat,y=j/\b<j/\j<b+fY v:=by
 obtain⟨j,rfl⟩:=aaN h0;refine⟨j,rfl,?_⟩;have h1:=wS v b j;have h2:0<(jX (fK b v)).count (j:Int):=List.count_pos_iff.2 hy;rw[h1] at h2;split at h2
 .assumption
 .omega
mutual
theorem AD:∀(v:tW) (b:Nat),∀y∈jX (fK b v),(0:Int)<=y
 |.int t,b,y,hy=>by rw[fK] at hy;cases hy
 |.str t,b,y,hy=>by rw[fK] at hy;cases hy
 |.list l,b,y,hy=>by
  rw[fK,gn] at hy;rcases List.mem_append.1 hy with hy|hy
  .exact BW l _ y (.inl hy)
  .exact BW l _ y (.inr hy)
 |.map l,b,y,hy=>by
  rw[fK,gn] at hy;rcases List.mem_append.1 hy with hy|hy
  .rcases List.mem_append.1 hy with hy|hy
   .exact xf l _ y (.inl hy)
   .exact xf l _ y (.inr (.inl hy))
  .exact xf l _ y (.inr (.inr hy))
theorem BW:∀(l:Az) (b:Nat) (y:Int),y∈rB b l\/y∈jX (kM b l)->(0:Int)<=y
 |.nil,b,y,hy=>by rcases hy with hy|hy<;>cases hy
 |.cons v l,b,y,hy=>by
  rw[rB,kM,rL] at hy;rcases hy with hy|hy
  .rcases List.mem_cons.1 hy with rfl|hy
   .omega
   .exact BW l _ y (.inl hy)
  .rcases List.mem_append.1 hy with hy|hy
   .exact AD v _ y hy
   .exact BW l _ y (.inr hy)
theorem xf:∀(l:s9) (b:Nat) (y:Int),y∈gV b l\/y∈jh b l\/y∈jX (iJ b l)->(0:Int)<=y
 |.nil,b,y,hy=>by rcases hy with hy|hy|hy<;>cases hy
 |.cons k v l,b,y,hy=>by
  rw[gV,jh,iJ,gn,rL] at hy;rcases hy with hy|hy|hy
  .rcases List.mem_cons.1 hy with rfl|hy
   .omega
   .exact xf l _ y (.inl hy)
  .rcases List.mem_cons.1 hy with rfl|hy
   .omega
   .exact xf l _ y (.inr (.inl hy))
  .rcases List.mem_append.1 hy with hy|hy
   .cases hy
   .rcases List.mem_append.1 hy with hy|hy
    .exact AD v _ y hy
    .exact xf l _ y (.inr (.inr hy))
end
theorem Mf {N:List aq}{x:aq}(hx:x∈N){y:Int}(hy:y∈refs x):y∈jX N:=List.mem_flatMap.2 ⟨x,hx,hy⟩
theorem OO {v:tW}{b:Nat}{x:aq}(hx:x∈fK b v){y:Int}(hy:y∈refs x):∃j:Nat,y=j/\b<j/\j<b+fY v:=
 G5 (Mf hx hy) (AD v b y (Mf hx hy))
theorem OP (v:tW):KA (fK 0 v) 0=true:=by
 unfold KA;have hp:=lI v;rw[aaf,aaR];refine⟨by unfold vq;rw[cp];simp;omega,λx hx=>?_⟩;rw[aaf,aaR,aaR];have key:∀y∈refs x,vq (fK 0 v).length y=true:=λy hy=>by
  obtain⟨j,rfl,h1,h2⟩:=OO hx hy;unfold vq;rw[cp];simp;omega
 exact⟨λy hy=>key y (aaT _ hy),λy hy=>key y (aaE _ hy)⟩
theorem Mg {n:Nat}{C:Nat->Int}{j:Nat}(hj:j<n)(h0:0<=C j)(h1:C j<4611686018427387904):bump (mk n C) (j:Int)=some (mk n λi=>C i+if i=j then 1 else 0):=by
 unfold bump;rw[mr hj];simp only[aby];rw[aac,qP,ID (by omega) (by omega)];refine aaL some (lS λi _=>?_);by_cases e:i=j
 .subst e;simp
 .simp[e]
theorem zG {n:Nat}:∀(xs:ε) (C:Nat->Int) (K:Nat),(∀y∈xs,∃j:Nat,y=j/\j<n)->(∀i,0<=C i/\C i<=K)->K+xs.length<4611686018427387904->kR xs (mk n C)=some (mk n λi=>C i+(xs.count (i:Int):Nat))
 |[],C,K,_,_,_=>aaL some (lS λi _=>by simp)
 |x::xs,C,K,h1,h2,h3=>by
  obtain⟨j,rfl,hj⟩:=h1 x (by simp);have hc:=h2 j;rw[aae] at h3;rw[kR,Mg hj hc.1 (by omega)];simp only[aaA];rw[zG xs _ (K+1) (λy hy=>h1 y (by simp[hy])) (λi=>by have:=h2 i;split<;>omega) (by omega)];refine aaL some (lS λi _=>?_);rw[aa7,zF];split<;>simp<;>omega
theorem Mh {n:Nat}:∀(N:List aq) (C:Nat->Int) (K:Nat),(∀y∈jX N,∃j:Nat,y=j/\j<n)->(∀i,0<=C i/\C i<=K)->K+(jX N).length<4611686018427387904->IH N (mk n C)=some (mk n λi=>C i+((jX N).count (i:Int):Nat))
 |[],C,K,_,_,_=>aaL some (lS λi _=>by simp[jX])
 |x::N,C,K,h1,h2,h3=>by
  rw[gn] at h1 h3;unfold refs at h1 h3;simp only[aaa] at h3;rw[IH,zG x.keys C K (λy hy=>h1 y (by simp[hy])) h2 (by omega)];simp only[aaA];have le:∀(l:ε) (i:Nat),l.count (i:Int)<=l.length:=λl i=>List.count_le_length;rw[zG x.items _ (K+x.keys.length) (λy hy=>h1 y (by simp[hy])) (λi=>by have:=h2 i;have:=le x.keys i;omega) (by omega)];simp only[aaA];rw[Mh N _ (K+x.keys.length+x.items.length) (λy hy=>h1 y (by simp[hy])) (λi=>by have:=h2 i;have:=le x.keys i;have:=le x.items i;omega) (by omega)];refine aaL some (lS λi _=>?_);rw[gn,aa0];unfold refs;rw[aa0];omega
mutual
theorem uy:∀(v:tW) (b:Nat),(jX (fK b v)).length+1=fY v
 |.int t,b=>rfl
 |.str t,b=>rfl
 |.list l,b=>by
  have:=EI l (b+1);rw[fK,gn,aaa,fY];show (([]:ε)++rB (b+1) l).length+_+1=_;rw[aaP];omega
 |.map l,b=>by
  have:=EJ l (b+1);rw[fK,gn,aaa,fY];show (gV (b+1) l++jh (b+1) l).length+_+1=_;rw[aaa];omega
theorem EI:∀(l:Az) (b:Nat),(rB b l).length+(jX (kM b l)).length=qO l
 |.nil,b=>rfl
 |.cons v l,b=>by
  have h1:=uy v b;have h2:=EI l (b+fY v);rw[rB,kM,rL,aaa,aae,qO];omega
theorem EJ:∀(l:s9) (b:Nat),(gV b l).length+(jh b l).length+(jX (iJ b l)).length=nU l
 |.nil,b=>rfl
 |.cons k v l,b=>by
  have h1:=uy v (b+1);have h2:=EJ l (b+1+fY v);rw[gV,jh,iJ,gn,rL,aaa,aaa,aae,aae,nU];show _+_+(0+_)=_;omega
end
theorem RH {v:tW}(hn:fY v<=1073741823):Ss (fK 0 v) 0=some (mk (fK 0 v).length λ_=>1):=by
 have hp:=lI v;have hl:=uy v 0;unfold Ss;rw[Dh,show (0:Int)=((0:Nat):Int) from rfl,Mg (by rw[cp];omega) (by omega) (by omega)];simp only[aaA];rw[Mh _ _ 1 (λy hy=>?_) (λi=>by split<;>omega) (by omega)]
 .refine aaL some (lS λi hi=>?_);rw[cp] at hi;rw[wS];by_cases e:i=0
  .subst e;simp
  .rw[By e,BY (by omega)];rfl
 .obtain⟨j,rfl,h1,h2⟩:=G5 hy (AD v 0 y hy);exact⟨j,rfl,by rw[cp];omega⟩
theorem Mi:∀(ks:List Bool) (c:ε),(∀x∈c,x=1)->gB ks c=true
 |[],c,_=>by cases c<;>rfl
 |_::_,[],_=>rfl
 |b::bs,x::c,h=>by
  rw[gB,h x (by simp),By (by simp)];exact Mi bs c λy hy=>h y (by simp[hy])
def Dj (N:List aq)(y:Int):Prop:=∃(j:Nat) (x:aq),y=j/\N[j]?=some x/\x.keys=[]/\x.items=[]
theorem RI {N:List aq}{y:Int}(hy:Dj N y)(k:Nat)(M:Nat->Bool):∃M',A5 (k+2) N y (mk N.length M)=some (mk N.length M'):=by
 obtain⟨j,x,rfl,h1,h2,h3⟩:=hy;rw[A5,mr (aY h1)];cases hM:M j with
 |true=>exact⟨M,rfl⟩
 |false=>
  simp only[kD,h1,h2,h3];rw[kK,aac,qP];simp only;rw[kK];exact⟨_,rfl⟩
theorem EK {N:List aq}(k:Nat):∀(xs:ε) (M:Nat->Bool),(∀y∈xs,Dj N y)->∃M',D3 (k+2) N xs (mk N.length M)=some (mk N.length M')
 |[],M,_=>⟨M,rfl⟩
 |x::xs,M,h=>by
  obtain⟨M1,e1⟩:=RI (h x (by simp)) k M;obtain⟨M2,e2⟩:=EK k xs M1 λy hy=>h y (by simp[hy]);exact⟨M2,by rw[D3,e1];exact e2⟩
theorem I4 {N:List aq}(k:Nat):∀(X:List aq) (M:Nat->Bool),(∀x∈X,∀y∈x.keys,Dj N y)->∃M',Su (k+2) N X (mk N.length M)=some (mk N.length M')
 |[],M,_=>⟨M,rfl⟩
 |x::xs,M,h=>by
  obtain⟨M1,e1⟩:=EK k x.keys M (h x (by simp));obtain⟨M2,e2⟩:=I4 k xs M1 λy hy=>h y (by simp[hy]);exact⟨M2,by rw[Su,e1];exact e2⟩
theorem Dk {N:List aq}:∀(l:s9) (b:Nat),Pt N b (iJ b l)->∀y∈gV b l,Dj N y
 |.nil,b,p,y,hy=>by cases hy
 |.cons k v l,b,p,y,hy=>by
  rw[iJ] at p;obtain⟨p1,p2⟩:=p.cons;have p3:=p2.split.2;rw[cp] at p3;rw[gV] at hy;rcases List.mem_cons.1 hy with rfl|hy
  .exact⟨b,_,rfl,p1,rfl,rfl⟩
  .exact Dk l _ p3 y hy
mutual
theorem AE {N:List aq}:∀(v:tW) (b:Nat),Pt N b (fK b v)->∀x∈fK b v,∀y∈x.keys,Dj N y
 |.int t,b,p,x,hx,y,hy=>by rw[fK,aat] at hx;subst hx;cases hy
 |.str t,b,p,x,hx,y,hy=>by rw[fK,aat] at hx;subst hx;cases hy
 |.list l,b,p,x,hx,y,hy=>by
  rw[fK] at hx p;rcases List.mem_cons.1 hx with rfl|hx
  .cases hy
  .exact Dl l _ p.cons.2 x hx y hy
 |.map l,b,p,x,hx,y,hy=>by
  rw[fK] at hx p;rcases List.mem_cons.1 hx with rfl|hx
  .exact Dk l _ p.cons.2 y hy
  .exact Dm l _ p.cons.2 x hx y hy
theorem Dl {N:List aq}:∀(l:Az) (b:Nat),Pt N b (kM b l)->∀x∈kM b l,∀y∈x.keys,Dj N y
 |.nil,b,p,x,hx,y,hy=>by rw[kM] at hx;cases hx
 |.cons v l,b,p,x,hx,y,hy=>by
  rw[kM] at hx p;obtain⟨p1,p2⟩:=p.split;rw[cp] at p2;rcases List.mem_append.1 hx with hx|hx
  .exact AE v b p1 x hx y hy
  .exact Dl l _ p2 x hx y hy
theorem Dm {N:List aq}:∀(l:s9) (b:Nat),Pt N b (iJ b l)->∀x∈iJ b l,∀y∈x.keys,Dj N y
 |.nil,b,p,x,hx,y,hy=>by rw[iJ] at hx;cases hx
 |.cons k v l,b,p,x,hx,y,hy=>by
  rw[iJ] at hx p;have p2:=p.cons.2;obtain⟨p1,p3⟩:=p2.split;rw[cp] at p3;rcases List.mem_cons.1 hx with rfl|hx
  .cases hy
  .rcases List.mem_append.1 hx with hx|hx
   .exact AE v _ p1 x hx y hy
   .exact Dm l _ p3 x hx y hy
end
end
section
theorem RJ:∀(a:List UInt8),Op.bytesLess a a=false
 |[]=>rfl
 |x::a=>by
  rw[Op.bytesLess,RJ a];simp
theorem I5:∀{a b c:List UInt8},Op.bytesLess a b=true->Op.bytesLess b c=true->Op.bytesLess a c=true
 |_,[],_,h,_=>by rw[Op.bytesLess] at h;cases h
 |_,_::_,[],_,h=>by rw[Op.bytesLess] at h;cases h
 |[],y::b,z::c,_,_=>rfl
 |x::a,y::b,z::c,h1,h2=>by
  rw[Op.bytesLess] at h1 h2⊢;simp only[abt,aaf,IT,beq_iff_eq] at h1 h2⊢;rcases h1 with h1|⟨rfl,h1⟩
  .rcases h2 with h2|⟨rfl,h2⟩
   .exact .inl (UInt8.lt_trans h1 h2)
   .exact .inl h1
  .rcases h2 with h2|⟨rfl,h2⟩
   .exact .inl h2
   .exact .inr ⟨rfl,I5 h1 h2⟩
theorem I6:∀{a b:List UInt8},Op.bytesLess a b=false->a≠b->Op.bytesLess b a=true
 |[],[],_,h=>absurd rfl h
 |[],_::_,h,_=>by rw[Op.bytesLess] at h;cases h
 |_::_,[],_,_=>rfl
 |x::a,y::b,h,hne=>by
  rw[Op.bytesLess] at h⊢;simp only[acY,decide_eq_false_iff_not,Bool.and_eq_false_imp,beq_iff_eq] at h;simp only[abt,aaf,IT,beq_iff_eq];by_cases e:x=y
  .subst e;exact .inr ⟨rfl,I6 (h.2 rfl) λe=>hne (by rw[e])⟩
  .refine .inl ?_;have:=h.1;rcases UInt8.lt_or_lt_of_ne e with h1|h1
   .exact absurd h1 this
   .exact h1
theorem xX {k t:ζ}(h:Uw k t=false):zM t k=true:=by
 unfold Uw at h;rw[acY] at h;unfold zM at h⊢;refine I6 h.1 λe=>?_;have:=h.2;rw[mZ] at this;rw[e] at this;simp at this
theorem Vo {a b:ζ}(h:zM a b=true):pj b a=false:=by
 cases hq:pj b a with
 |false=>rfl
 |true=>
  unfold zM at h;rw[mZ] at hq;rw[beq_iff_eq] at hq;rw[hq,RJ] at h;cases h
theorem Vp {a b c:ζ}(h1:zM a b=true)(h2:zM b c=true):zM a c=true:=I5 h1 h2
theorem I7 {N:List aq}{k:Nat}:∀(l:s9) (b d:Nat) (last:Option ζ) (met:ε),Pt N b (iJ b l)->L9 d last l ->
  (∀y∈met,∃n t,gt N y=some n/\last=some t/\(n.text=t\/zM n.text t=true))->TH k N met (gV b l)=some false
 |.nil,b,d,last,met,_,_,_=>rfl
 |.cons key v l,b,d,last,met,p,h,hm=>by
  rw[iJ] at p;obtain⟨p1,p2⟩:=p.cons;have p3:=p2.split.2;rw[cp] at p3;have hg:gt N (b:Int)=some ⟨5,key,false,[],[]⟩:=by rw[kD];exact p1
  have hlt:∀y∈met,∃n,gt N y=some n/\zM n.text key=true:=λy hy=>by
   obtain⟨n,t,h1,h2,h3⟩:=hm y hy;refine⟨n,h1,?_⟩;have:=xX (h.2.2.1 t h2);rcases h3 with h3|h3
   .rw[h3];exact this
   .exact Vp h3 this
  rw[gV,TH,hg];have hf:met.filter (isKey N 5 key)=[]:=by
   rw[List.filter_eq_nil_iff];intro y hy;obtain⟨n,h1,h2⟩:=hlt y hy;unfold isKey;rw[h1];simp only[Vo h2,acm];simp
  simp only[hf];rw[WK];simp only;refine I7 l _ d _ _ p3 h.2.2.2.2 λy hy=>?_;rcases List.mem_append.1 hy with hy|hy
  .obtain⟨n,h1,h2⟩:=hlt y hy;exact⟨n,key,h1,rfl,.inr h2⟩
  .rw[aat] at hy;subst hy;exact⟨_,key,hg,rfl,.inl rfl⟩
theorem xg {k:Nat}{N:List aq}:∀{X Y:List aq},Hi k N X=some false->Hi k N Y=some false->Hi k N (X++Y)=some false
 |[],Y,_,h=>h
 |x::X,Y,h1,h2=>by
  rw[Hi] at h1;show Hi k N (x::(X++Y))=_;rw[Hi];split at h1
  .cases h1
  .cases h1
  .exact xg h1 h2
theorem vv {k:Nat}{N:List aq}{x:aq}(hx:x.keys=[]):Hi k N [x]=some false:=by
 rw[Hi,hx];rfl
mutual
theorem Dn {N:List aq}{k:Nat}:∀(v:tW) (b d:Nat),Pt N b (fK b v)->IU d v->Hi k N (fK b v)=some false
 |.int t,b,d,p,h=>vv rfl
 |.str t,b,d,p,h=>vv rfl
 |.list l,b,d,p,h=>by
  rw[fK] at p⊢;exact xg (X:=[_]) (vv rfl) (EL l _ _ p.cons.2 h.2)
 |.map l,b,d,p,h=>by
  rw[fK] at p⊢;refine xg (X:=[_]) ?_ (EM l _ _ _ p.cons.2 h.2);rw[Hi];simp only;rw[I7 l _ _ _ [] p.cons.2 h.2 (by simp)];rfl
theorem EL {N:List aq}{k:Nat}:∀(l:Az) (b d:Nat),Pt N b (kM b l)->Sw d l->Hi k N (kM b l)=some false
 |.nil,b,d,p,h=>rfl
 |.cons v l,b,d,p,h=>by
  rw[kM] at p⊢;obtain⟨p1,p2⟩:=p.split;rw[cp] at p2;exact xg (Dn v _ _ p1 h.1) (EL l _ _ p2 h.2)
theorem EM {N:List aq}{k:Nat}:∀(l:s9) (b d:Nat) (last:Option ζ),Pt N b (iJ b l)->L9 d last l->Hi k N (iJ b l)=some false
 |.nil,b,d,last,p,h=>rfl
 |.cons key v l,b,d,last,p,h=>by
  rw[iJ] at p⊢;have p2:=p.cons.2;obtain⟨p1,p3⟩:=p2.split;rw[cp] at p3;exact xg (X:=[_]) (vv rfl) (xg (Dn v _ _ p1 h.2.2.2.1) (EM l _ _ _ p3 h.2.2.2.2))
end
end
section
def sh (b:Nat)(x:aq):aq:={ x with keys:=x.keys.map (· - (b:Int)),items:=x.items.map (· - (b:Int)) }
structure ZH (N:List aq) (src:List UInt8) (x:dB):Prop where
 ex:∃(v:tW) (d nb f:Nat),IU d v/\x.node=nb/\Pt N nb (fK nb v)/\x.xc=f/\x.to=((f+(enc v).length:Nat):Int)/\Pt src f (enc v)
 whole:x.whole=true
 alias:x.alias=false
end
section
structure FS where
 I:Nat->Int
 L:Nat->Int
 C:Nat->Int
 O:Nat->Bool
 j5:η
 ds:η
def FS.ts (m:Nat)(F:FS):TS:=⟨((F.ds.length+F.j5.length:Nat):Int),Go.Sh.mk m F.I,Go.Sh.mk m F.L,Go.Sh.mk m F.C,Go.Sh.mk m F.O,F.j5.map Int.ofNat,List.replicate F.ds.length 1⟩
def ZI (N:List aq)(H:Nat->Nat):Prop:=∀i x,N[i]?=some x->∀y∈refs x,∃j:Nat,y=j/\j<N.length/\H j<H i
structure TI (N:List aq) (F:FS):Prop where
 nd:(F.ds++F.j5).Nodup
 lt:∀j∈F.ds++F.j5,j<N.length
 I:∀j,j<N.length->(F.I j≠0↔j∈F.ds++F.j5)
 Ib:∀j,j<N.length->F.I j<=((F.ds.length+F.j5.length:Nat):Int)
 O:∀j,j<N.length->(F.O j=true↔j∈F.j5)
 C:∀(i j:Nat),F.ds[i]?=some j->F.C j=i/\∀x,N[j]?=some x->∀y∈refs x,∃(i' j':Nat),i'<i/\F.ds[i']?=some j'/\y=j'
theorem I8:∀(m:Nat) (l:η),l.Nodup->(∀j∈l,j<m)->l.length<=m
 |0,[],_,_=>aai _
 |0,a::_,_,h=>absurd (h a (by simp)) (by omega)
 |m+1,l,hn,h=>by
  have h1:(l.erase m).length<=m:=I8 m _ (hn.erase m) λj hj=>by
   have h2:=h j (List.mem_of_mem_erase hj);have h3:j≠m:=λe=>by
    subst e;exact hn.not_mem_erase hj
   omega
  have:=List.length_erase (a:=m) (l:=l);split at this<;>omega
theorem TI.le {N:List aq}{F:FS}(t:TI N F):F.ds.length+F.j5.length<=N.length:=by
 have:=I8 _ _ t.nd t.lt;simpa using this
theorem RL {n:Nat}{M:Nat->Int}{i:Nat}:(mk n M).set i (M i)=mk n M:=by
 rw[qP];exact lS λj _=>by split<;>simp_all
structure TP (N:List aq) (F F':FS):Prop where
 inv:TI N F'
 j5:F'.j5=F.j5
 ds:∃r,F'.ds=F.ds++r
 uP:∀j,j∈F.ds++F.j5->F'.I j=F.I j/\F'.L j=F.L j
theorem TP.refl {N:List aq}{F:FS}(t:TI N F):TP N F F:=⟨t,rfl,⟨[],by simp⟩,λ_ _=>⟨rfl,rfl⟩⟩
theorem TP.trans {N:List aq}{F G K:FS}(a:TP N F G)(b:TP N G K):TP N F K:=by
 obtain⟨r,hr⟩:=a.ds;obtain⟨q,hq⟩:=b.ds;refine⟨b.inv,b.j5.trans a.j5,⟨r++q,by rw[hq,hr,aas]⟩,λj hj=>?_⟩;have h1:=a.uP j hj;have h2:=b.uP j (by
  rw[hr,a.j5];rcases List.mem_append.1 hj with h|h
  .simp[h]
  .simp[h])
 exact⟨h2.1.trans h1.1,h2.2.trans h1.2⟩
theorem TO {N:List aq}{F:FS}(t:TI N F)(hm:N.length<1073741824){a:Nat}(ha:a<N.length)(hI:F.I a=0) :
  IM (a:Int) (F.ts N.length)=some (FS.ts N.length { F with I:=λj=>if j=a then ((F.ds.length+F.j5.length+1:Nat):Int) else F.I j,L:=λj=>if j=a then ((F.ds.length+F.j5.length+1:Nat):Int) else F.L j,O:=λj=>if j=a then true else F.O j,j5:=F.j5++[a] }):=by
 have hle:=t.le;unfold IM;rw[BY ⟨by simp[FS.ts,cN];omega,by simp[FS.ts,cN];omega,by simp only[FS.ts];rw[mr ha];rfl,by simp only[FS.ts];rw[mr ha];rfl,by simp only[FS.ts];rw[mr ha];rfl⟩];simp only[FS.ts,aac,qP];rw[ID (by omega) (by omega)];simp only[aa6,aaa,aaD]
 congr 1
theorem TQ {N:List aq}{F:FS}(t:TI N F){a:Nat}(ha:a<N.length)(hI:F.I a=0)(L:Nat->Int) :
  TI N { F with I:=λj=>if j=a then ((F.ds.length+F.j5.length+1:Nat):Int) else F.I j,L:=L,O:=λj=>if j=a then true else F.O j,j5:=F.j5++[a] }:=by
 have hna:a∉F.ds++F.j5:=λh=>(t.I a ha).2 h hI;refine⟨?_,?_,λj hj=>?_,λj hj=>?_,λj hj=>?_,t.C⟩
 .rw[<-aas,List.nodup_append];exact⟨t.nd,by simp,λx hx y hy=>by rw[aat] at hy;subst hy;exact λe=>hna (e▸hx)⟩
 .intro j hj;rw[<-aas] at hj;rcases List.mem_append.1 hj with h|h
  .exact t.lt j h
  .rw[aat] at h;subst h;exact ha
 .simp only;rw[<-aas];by_cases e:j=a
  .subst e;rw[BY rfl];simp;omega
  .rw[By e,t.I j hj];simp[e]
 .simp only[aaa,aaD];have:=t.Ib j hj;split<;>omega
 .simp only;by_cases e:j=a
  .subst e;simp
  .rw[By e,t.O j hj];simp[e]
theorem WT {N:List aq}{F:FS}(t:TI N F)(hm:N.length<1073741824){a:Nat}{s0:η}(hs:F.j5=s0++[a])(k:Nat) :
  tp (k+1) (a:Int) (F.ts N.length) 0=some (⟨((F.ds.length+F.j5.length:Nat):Int),mk N.length F.I,mk N.length F.L,mk N.length λj=>if j=a then (F.ds.length:Int) else F.C j,mk N.length λj=>if j=a then false else F.O j,s0.map Int.ofNat,List.replicate F.ds.length 1⟩,1):=by
 have ha:a<N.length:=t.lt a (by rw[hs];simp);have hle:=t.le;have hlast:(F.ts N.length).j5.getLast?=some (a:Int):=by simp[FS.ts,hs]
 rw[tp,hlast];simp only;rw[BY ⟨by simp only[FS.ts];rw[mr ha];rfl,by simp only[FS.ts];rw[mr ha];rfl,by simp[FS.ts,cN];omega⟩,BY trivial];simp only[FS.ts,aac,qP,hs,aa6,aax];rw[ID (by omega) (by omega)];simp
theorem KG {N:List aq}{H:Nat->Nat}(D:ZI N H){a:Nat}{x:aq}(hx:N[a]?=some x){g:Nat}
  (ih:∀(b k:Nat) (F:FS),H b<H a->b<N.length->F.I b=0->TI N F->(∀j∈F.j5,H b<H j)->g<=k->∃F',tv k N b (F.ts N.length)=some (F'.ts N.length)/\TP N F F'/\b∈F'.ds/\F'.L b=((F.ds.length+F.j5.length+1:Nat):Int)) :
  ∀(xs:ε) (k:Nat) (F:FS) (n1:Int),(∀y∈xs,y∈refs x)->TI N F->a∈F.j5->(∀j∈F.j5,H a<=H j)->F.L a=n1->n1<=((F.ds.length+F.j5.length:Nat):Int)->xs.length+2+g<=k ->
   ∃F',tl k N a xs (F.ts N.length)=some (F'.ts N.length)/\TP N F F'/\∀y∈xs,∃j:Nat,y=j/\j∈F'.ds
 |[],k,F,n1,_,t,_,_,_,_,hk=>by
  obtain⟨k,rfl⟩:∃m,k=m+1:=⟨k-1,by omega⟩;exact⟨F,by rw[tl],TP.refl t,by simp⟩
 |y::ys,k,F,n1,hr,t,ha,hS,hL,hn,hk=>by
  rw[aae] at hk;obtain⟨k,rfl⟩:∃m,k=m+2:=⟨k-2,by omega⟩;obtain⟨b,rfl,hb,hH⟩:=D a x hx y (hr y (by simp));have haN:a<N.length:=aY hx;have step:∃F1,ts (k+1) N a b (F.ts N.length)=some (F1.ts N.length)/\TP N F F1/\b∈F1.ds:=by
   rw[ts];have e1:gt (F.ts N.length).ix (b:Int)=some (F.I b):=mr hb;rw[e1];simp only;by_cases h0:F.I b=0
   .rw[BY h0];obtain⟨F1,f1,f2,f3,f4⟩:=ih b k F hH hb h0 t (λj hj=>aaC hH (hS j hj)) (by omega);rw[f1];simp only;have e2:gt (F1.ts N.length).lo (b:Int)=some (F1.L b):=mr hb;rw[e2];simp only;unfold Rr;have e3:gt (F1.ts N.length).lo (a:Int)=some (F1.L a):=mr haN;rw[e3];simp only;have hLa:F1.L a=n1:=(by rw[(f2.uP a (by simp[ha])).2,hL]);have hmn:mn (F1.L a) (F1.L b)=F1.L a:=by
     unfold mn;rw[By];rw[f4,hLa];omega
    rw[hmn];refine⟨F1,?_,f2,f3⟩;simp only[FS.ts,aac,RL]
   .rw[By h0];have hin:=(t.I b hb).1 h0;have hns:b∉F.j5:=λh=>(by have:=hS b h;omega);have hO:F.O b=false:=by
     cases hq:F.O b with
     |false=>rfl
     |true=>exact absurd ((t.O b hb).1 hq) hns
    have e2:gt (F.ts N.length).on (b:Int)=some (F.O b):=mr hb;rw[e2,hO];refine⟨F,rfl,TP.refl t,?_⟩;rcases List.mem_append.1 hin with h|h
    .exact h
    .exact absurd h hns
  obtain⟨F1,f1,f2,f3⟩:=step;have hlen:F.ds.length+F.j5.length<=F1.ds.length+F1.j5.length:=by
   obtain⟨r,hr⟩:=f2.ds;rw[hr,f2.j5,aaa];omega
  obtain⟨F2,g1,g2,g3⟩:=KG D hx ih ys (k+1) F1 n1 (λz hz=>hr z (by simp[hz])) f2.inv (by rw[f2.j5];exact ha) (by rw[f2.j5];exact hS) (by rw[(f2.uP a (by simp[ha])).2,hL]) (by omega) (by omega);refine⟨F2,by rw[tl,f1];exact g1,f2.trans g2,λz hz=>?_⟩;rcases List.mem_cons.1 hz with rfl|hz
  .obtain⟨r,hr⟩:=g2.ds;exact⟨b,rfl,by rw[hr];simp[f3]⟩
  .exact g3 z hz
theorem RM {N:List aq}{H:Nat->Nat}(D:ZI N H)(hm:N.length<1073741824){W:Nat}(hW:∀x∈N,x.keys.length<=W/\x.items.length<=W) :
  ∀(h a k:Nat) (F:FS),H a<h->a<N.length->F.I a=0->TI N F->(∀j∈F.j5,H a<H j)->h*(W+4)<=k->∃F',tv k N a (F.ts N.length)=some (F'.ts N.length)/\TP N F F'/\a∈F'.ds/\F'.L a=((F.ds.length+F.j5.length+1:Nat):Int)
 |0,a,k,F,hh,_,_,_,_,_=>by omega
 |h+1,a,k,F,hh,ha,hI,t,hS,hk=>by
  have hk2:(h+1)*(W+4)=h*(W+4)+W+4:=by rw[abf];omega
  obtain⟨k,rfl⟩:∃m,k=m+1:=⟨k-1,by omega⟩;obtain⟨x,hx⟩:=gU ha;have hw:=hW x (OF hx);have ih:∀(b k:Nat) (F:FS),H b<H a->b<N.length->F.I b=0->TI N F->(∀j∈F.j5,H b<H j)->h*(W+4)<=k->∃F',tv k N b (F.ts N.length)=some (F'.ts N.length)/\TP N F F'/\b∈F'.ds/\F'.L b=((F.ds.length+F.j5.length+1:Nat):Int):=
   λb k F hb=>RM D hm hW h b k F (by omega)
  rw[tv,TO t hm ha hI];have t1:=TQ t ha hI (λj=>if j=a then ((F.ds.length+F.j5.length+1:Nat):Int) else F.L j);generalize hF1:({ F with I:=λj=>if j=a then ((F.ds.length+F.j5.length+1:Nat):Int) else F.I j,L:=λj=>if j=a then ((F.ds.length+F.j5.length+1:Nat):Int) else F.L j,O:=λj=>if j=a then true else F.O j,j5:=F.j5++[a] }:FS)=F1 at t1⊢;have s1:F1.j5=F.j5++[a]:=by rw[<-hF1]
  have d1:F1.ds=F.ds:=by rw[<-hF1]
  have L1:F1.L a=((F.ds.length+F.j5.length+1:Nat):Int):=by rw[<-hF1];simp
  have I1:F1.I a=((F.ds.length+F.j5.length+1:Nat):Int):=by rw[<-hF1];simp
  have keep1:∀j,j∈F.ds++F.j5->F1.I j=F.I j/\F1.L j=F.L j:=λj hj=>by
   have hne:j≠a:=λe=>(t.I a ha).2 (e▸hj) hI;rw[<-hF1];simp[hne]
  have S1:∀j∈F1.j5,H a<=H j:=λj hj=>by
   rw[s1] at hj;rcases List.mem_append.1 hj with h|h
   .exact abj (hS j h)
   .rw[aat] at h;subst h;exact aai _
  simp only[kD,hx];obtain⟨F2,f1,f2,f3⟩:=KG D hx ih x.keys k F1 _ (λy hy=>aaT _ hy) t1 (by rw[s1];simp) S1 L1 (by rw[s1,d1];simp;omega) (by omega);rw[f1];simp only;have TV:F1.ds.length+F1.j5.length<=F2.ds.length+F2.j5.length:=by
   obtain⟨r,hr⟩:=f2.ds;rw[hr,f2.j5,aaa];omega
  have a1:a∈F1.j5:=by rw[s1];simp
  obtain⟨F3,g1,g2,g3⟩:=KG D hx ih x.items k F2 ((F.ds.length+F.j5.length+1:Nat):Int) (λy hy=>aaE _ hy) f2.inv (by rw[f2.j5];exact a1) (by rw[f2.j5];exact S1) (by rw[(f2.uP a (by simp[a1])).2,L1])
   (by rw[s1,d1] at TV;simp at TV;omega) (by omega)
  rw[g1];simp only;have P3:=f2.trans g2;have e1:(F3.ts N.length).lo[a]?=some (F3.L a):=vu ha;have e2:(F3.ts N.length).ix[a]?=some (F3.I a):=vu ha;have k3:=P3.uP a (by simp[a1]);rw[e1,e2];simp only;rw[k3.1,k3.2,L1,I1,By (by simp)];obtain⟨k,rfl⟩:∃m,k=m+1:=⟨k-1,by omega⟩;have s3:F3.j5=F.j5++[a]:=by rw[P3.j5,s1]
  have t3:=P3.inv;have hle3:=t3.le;rw[WT t3 hm s3 k];simp only;rw[BY (by simp[cN];omega)];obtain⟨r,hr⟩:=P3.ds;have hna:a∉F3.ds:=λh=>by
   have:=t3.nd;rw[s3,List.nodup_append] at this;exact this.2.2 a h a (by simp) rfl
  refine⟨⟨F3.I,F3.L,λj=>if j=a then (F3.ds.length:Int) else F3.C j,λj=>if j=a then false else F3.O j,F.j5,F3.ds++[a]⟩,?_,⟨⟨?_,?_,λj hj=>?_,λj hj=>?_,λj hj=>?_,λi j hij=>?_⟩,rfl,⟨r++[a],by simp only;rw[hr,d1,aas]⟩,λj hj=>?_⟩,by simp,?_⟩
  .simp only[FS.ts,s3,aaa,aaD]
   congr 1
   .congr 1
    .congr 1;omega
    .rw[acX]
  .have:=t3.nd;rw[s3] at this;refine this.perm ?_;rw[aas];exact List.Perm.append_left _ acd
  .intro j hj;refine t3.lt j ?_;rw[s3];simp only[acK,aat] at hj⊢;rcases hj with (h|h)|h
   .exact .inl h
   .exact .inr (.inr h)
   .exact .inr (.inl h)
  .simp only;rw[t3.I j hj,s3];simp only[acK,aat];constructor
   .rintro (h|h|h)
    .exact .inl (.inl h)
    .exact .inr h
    .exact .inl (.inr h)
   .rintro ((h|h)|h)
    .exact .inl h
    .exact .inr (.inr h)
    .exact .inr (.inl h)
  .simp only[aaa,aaD];have:=t3.Ib j hj;rw[s3,aaa,aaD] at this;omega
  .simp only;by_cases e:j=a
   .subst e;rw[BY rfl];simp only[aag,false_iff];exact λh=>absurd (hS j h) (by omega)
   .rw[By e,t3.O j hj,s3];simp[e]
  .simp only at hij⊢;have idx:∀{l:η} {j:Nat},j∈l->∃i:Nat,i<l.length/\l[i]?=some j:=λ{l} {j} hj=>by
    obtain⟨i,hi⟩:=List.mem_iff_getElem?.1 hj;exact⟨i,aY hi,hi⟩
   by_cases hi:i<F3.ds.length
   .rw[aau hi] at hij;have hne:j≠a:=λe=>hna (e▸OF hij);obtain⟨c1,c2⟩:=t3.C i j hij;rw[By hne];refine⟨c1,λz hz y hy=>?_⟩;obtain⟨i',j',h1,h2,h3⟩:=c2 z hz y hy;exact⟨i',j',h1,by rw[aau (by omega)];exact h2,h3⟩
   .have hlt:=aY hij;rw[aaa,aaD] at hlt;have:i=F3.ds.length:=(by omega);subst this;rw[aaH (aai _),abI] at hij;have hj:j=a:=(by simpa using hij.symm);subst hj;rw[BY rfl];refine⟨rfl,λz hz y hy=>?_⟩;rw[hx] at hz;cases hz;have:∃b:Nat,y=b/\b∈F3.ds:=by
     rcases List.mem_append.1 hy with h|h
     .obtain⟨b,h1,h2⟩:=f3 y h;obtain⟨q,hq⟩:=g2.ds;exact⟨b,h1,by rw[hq];simp[h2]⟩
     .exact g3 y h
    obtain⟨b,rfl,hb⟩:=this;obtain⟨i',h1,h2⟩:=idx hb;exact⟨i',b,h1,by rw[aau h1];exact h2,rfl⟩
  .simp only;have h1:=keep1 j hj;have h2:=P3.uP j (by
    rw[d1,s1];rcases List.mem_append.1 hj with h|h
    .simp[h]
    .simp[h])
   exact⟨h2.1.trans h1.1,h2.2.trans h1.2⟩
  .simp only;rw[k3.2,L1]
end
section
structure BI (p:Nat) (R:Nat->Nat) (c:Nat) (B:Nat->Int):Prop where
 nn:∀e,e<p->0<=B e
 lo:∀e,e<c->B e<=R e+1
 at':B c<=R c
 hi:∀e,c<e->e<p->B e=0
theorem RN {m p c:Nat}{C:Nat->Int}{R:Nat->Nat}(hc:c<p):∀(xs:ε) (B:Nat->Int) (a:Bool),(∀y∈xs,∃(j d:Nat),y=j/\j<m/\C j=d/\d<c/\R d+1<=R c)->BI p R c B ->
  ∃B',dR (mk m C) (c:Int) xs (mk p B) a=some (mk p B',a)/\BI p R c B'
 |[],B,a,_,h=>⟨B,rfl,h⟩
 |y::ys,B,a,hy,h=>by
  obtain⟨j,d,rfl,h1,h2,h3,h4⟩:=hy y (by simp);have e1:gt (mk m C) (j:Int)=some (d:Int):=by rw[mr h1,h2]
  rw[dR,e1];simp only;rw[By (by omega),mr hc,mr (show d<p by omega)];simp only;rw[aac,qP];refine RN hc ys _ a (λz hz=>hy z (by simp[hz])) ?_;have b1:=h.nn c hc;have b2:=h.nn d (by omega);have b3:=h.lo d h3;have b4:=h.at';have hmx:0<=mx (B c) (B d)/\mx (B c) (B d)<=R c:=by unfold mx;split<;>omega
  refine⟨λe he=>?_,λe he=>?_,?_,λe he he2=>?_⟩
  .split
   .exact hmx.1
   .exact h.nn e he
  .rw[By (by omega)];exact h.lo e he
  .rw[BY rfl];exact hmx.2
  .rw[By (by omega)];exact h.hi e he he2
theorem Vq {N:List aq}{p c:Nat}{C:Nat->Int}{R:Nat->Nat}(hc:c<p):∀(is:ε) (B:Nat->Int) (a:Bool),
  (∀(i:Int),i∈is->∃(j:Nat) (x:aq),i=(j:Int)/\N[j]?=some x/\∀y∈refs x,∃(j d:Nat),y=j/\j<N.length/\C j=d/\d<c/\R d+1<=R c)->BI p R c B ->
  ∃B',dM N (mk N.length C) (c:Int) is (mk p B) a=some (mk p B',a)/\BI p R c B'
 |[],B,a,_,h=>⟨B,rfl,h⟩
 |i::is,B,a,hi,h=>by
  obtain⟨j,x,rfl,h1,h2⟩:=hi i (by simp);obtain⟨B1,e1,b1⟩:=RN hc x.keys B a (λy hy=>h2 y (aaT _ hy)) h;obtain⟨B2,e2,b2⟩:=RN hc x.items B1 a (λy hy=>h2 y (aaE _ hy)) b1;rw[dM,kD,h1];simp only;rw[e1];simp only;rw[e2];exact Vq hc is B2 a (λz hz=>hi z (by simp[hz])) b2
theorem Vr {N:List aq}{p:Nat}{C:Nat->Int}{R:Nat->Nat}(hR:∀c,R c<1073741824):∀(r:List (ε×Int)) (c:Nat) (B:Nat->Int) (a:Bool),c+r.length=p ->
  (∀(i:Nat) (q:ε×Int),r[i]?=some q->q.2=1/\∀(z:Int),z∈q.1->∃(j:Nat) (x:aq),z=(j:Int)/\N[j]?=some x/\∀y∈refs x,∃(j d:Nat),y=j/\j<N.length/\C j=d/\d<c+i/\R d+1<=R (c+i)) ->
  (∀e,e<p->0<=B e)->(∀e,e<c->B e<=R e+1)->(∀e,c<=e->e<p->B e=0) ->
  ∃B',dC N (mk N.length C) c r (mk p B) a=some (mk p B',a)/\∀e,e<p->0<=B' e/\B' e<=R e+1
 |[],c,B,a,hl,_,h1,h2,_=>⟨B,rfl,λe he=>⟨h1 e he,h2 e (by simp at hl;omega)⟩⟩
 |(xs,sz)::r,c,B,a,hl,hq,h1,h2,h3=>by
  rw[aae] at hl;have hc:c<p:=by omega
  obtain⟨q1,q2⟩:=hq 0 (xs,sz) rfl;have q1:sz=1:=q1;subst q1;obtain⟨B1,e1,b1⟩:=Vq (N:=N) (C:=C) hc xs B a (by simpa using q2) ⟨h1,h2,by rw[h3 c (aai _) hc];omega,λe he he2=>h3 e (by omega) he2⟩;rw[dC,e1];simp only;rw[mr hc];simp only;have n1:=b1.nn c hc;have n2:=b1.at';have n3:=hR c;rw[qP,ID (by omega) (by omega)];refine Vr hR r (c+1) _ a (by omega) (λi q hi=>?_) (λe he=>?_) (λe he=>?_) λe he he2=>?_
  .have:=hq (i+1) q (by simpa using hi);rw[show c+(i+1)=c+1+i by omega] at this;exact this
  .split
   .omega
   .exact b1.nn e he
  .split
   .rename_i e;subst e;omega
   .exact b1.lo e (by omega)
  .rw[By (by omega)];exact b1.hi e (by omega) he2
theorem RO {C:Nat->Int}{p:Nat}:∀(cs:ε) (i:Nat) (X:List ε),X.length=p->(∀(k:Nat) v,cs[k]?=some v->∃d:Nat,v=d/\d<p/\C (i+k)=d)->(∀(c:Nat) xs,X[c]?=some xs->∀z∈xs,∃j:Nat,z=j/\j<i/\C j=c) ->
  ∃Y,mem i cs X=some Y/\Y.length=p/\∀(c:Nat) xs,Y[c]?=some xs->∀z∈xs,∃j:Nat,z=j/\j<i+cs.length/\C j=c
 |[],i,X,hX,_,h=>⟨X,rfl,hX,by simpa using h⟩
 |v::cs,i,X,hX,hv,h=>by
  obtain⟨d,rfl,h1,h2⟩:=hv 0 v rfl;rw[aaG] at h2;obtain⟨xs,hx⟩:=gU (l:=X) (i:=d) (by omega);rw[mem,kD,hx];simp only;rw[aac];obtain⟨Y,e,hY,hz⟩:=RO (C:=C) (p:=p) cs (i+1) (X.set d (xs++[(i:Int)])) (by simpa using hX) (λk w hk=>by
   obtain⟨d,e1,e2,e3⟩:=hv (k+1) w (by simpa using hk);exact⟨d,e1,e2,by rw[show i+1+k=i+(k+1) by omega];exact e3⟩) (λc ys hy z hz=>by
   rw[abQ] at hy;split at hy
   .rename_i ec;subst ec;split at hy
    .cases hy;rcases List.mem_append.1 hz with hz|hz
     .obtain⟨j,j1,j2,j3⟩:=h d xs hx z hz;exact⟨j,j1,by omega,j3⟩
     .rw[aat] at hz;exact⟨i,hz,by omega,h2⟩
    .cases hy
   .obtain⟨j,j1,j2,j3⟩:=h c ys hy z hz;exact⟨j,j1,by omega,j3⟩)
  exact⟨Y,e,hY,λc ys hy z hz'=>by
   obtain⟨j,j1,j2,j3⟩:=hz c ys hy z hz';exact⟨j,j1,by simp;omega,j3⟩⟩
end
section
mutual
def BX (b d:Nat):tW->Nat->Nat
 |.int _,_=>d
 |.str _,_=>d
 |.list l,j=>if j=b then d else OQ (b+1) (d+1) l j
 |.map l,j=>if j=b then d else Jt (b+1) (d+1) l j
def OQ (b d:Nat):Az->Nat->Nat
 |.nil,_=>d
 |.cons v l,j=>if j<b+fY v then BX b d v j else OQ (b+fY v) d l j
def Jt (b d:Nat):s9->Nat->Nat
 |.nil,_=>d
 |.cons _ v l,j=>if j=b then d else if j<b+1+fY v then BX (b+1) d v j else Jt (b+1+fY v) d l j
end
theorem uz (b d:Nat)(v:tW):BX b d v b=d:=by
 cases v<;>simp[BX]
theorem Mj:∀(l:Az) (b d:Nat),∀y∈rB b l,∃j:Nat,y=j/\b<=j/\j<b+qO l/\OQ b d l j=d
 |.nil,b,d,y,hy=>by cases hy
 |.cons v l,b,d,y,hy=>by
  have hp:=lI v;rw[rB] at hy;rcases List.mem_cons.1 hy with rfl|hy
  .exact⟨b,rfl,aai _,by rw[qO];omega,by rw[OQ,BY (by omega),uz]⟩
  .obtain⟨j,h1,h2,h3,h4⟩:=Mj l _ d y hy;exact⟨j,h1,by omega,by rw[qO];omega,by rw[OQ,By (by omega),h4]⟩
theorem I9:∀(l:s9) (b d:Nat),∀y∈gV b l++jh b l,∃j:Nat,y=j/\b<=j/\j<b+nU l/\Jt b d l j=d
 |.nil,b,d,y,hy=>by cases hy
 |.cons k v l,b,d,y,hy=>by
  have hp:=lI v;rw[gV,jh] at hy;have ih:=I9 l (b+1+fY v) d y;have up:y∈gV (b+1+fY v) l++jh (b+1+fY v) l->∃j:Nat,y=j/\b<=j/\j<b+nU (.cons k v l)/\Jt b d (.cons k v l) j=d:=λh=>by
   obtain⟨j,h1,h2,h3,h4⟩:=ih h;exact⟨j,h1,by omega,by rw[nU];omega,by rw[Jt,By (by omega),By (by omega),h4]⟩
  rcases List.mem_append.1 hy with hy|hy
  .rcases List.mem_cons.1 hy with rfl|hy
   .exact⟨b,rfl,aai _,by rw[nU];omega,by rw[Jt,BY rfl]⟩
   .exact up (aaT _ hy)
  .rcases List.mem_cons.1 hy with rfl|hy
   .exact⟨b+1,rfl,by omega,by rw[nU];omega,by rw[Jt,By (by omega),BY (by omega),uz]⟩
   .exact up (aaE _ hy)
theorem WU:∀{d:Nat} {v:tW},IU d v->d<=32
 |d,.int _,h=>h.1
 |d,.str _,h=>h
 |d,.list _,h=>h.1
 |d,.map _,h=>h.1
theorem WV:∀{d:Nat} {l:Az},Sw d l->l≠.nil->d<=32
 |d,.nil,_,h=>absurd rfl h
 |d,.cons v l,h,_=>WU h.1
theorem WW:∀{d:Nat} {o:Option ζ} {l:s9},L9 d o l->l≠.nil->d<=32
 |d,o,.nil,_,h=>absurd rfl h
 |d,o,.cons k v l,h,_=>h.1
def Dp (f:Nat->Nat)(lo hi at':Nat)(x:aq):Prop:=f at'<=32/\∀y∈refs x,∃j:Nat,y=j/\lo<=j/\j<hi/\f j=f at'+1/\f j<=32
mutual
theorem G6:∀(v:tW) (b d:Nat),IU d v->∀(i:Nat) x,(fK b v)[i]?=some x->Dp (BX b d v) b (b+fY v) (b+i) x
 |.int t,b,d,h,i,x,hx=>by
  rw[fK] at hx;have hi:=aY hx;have:i=0:=by simpa using hi
  subst this;have hx:_=x:=aao hx;subst hx;exact⟨by rw[BX];exact h.1,λy hy=>by cases hy⟩
 |.str t,b,d,h,i,x,hx=>by
  rw[fK] at hx;have hi:=aY hx;have:i=0:=by simpa using hi
  subst this;have hx:_=x:=aao hx;subst hx;exact⟨by rw[BX];exact h,λy hy=>by cases hy⟩
 |.list l,b,d,h,i,x,hx=>by
  rw[fK] at hx;cases i with
  |zero=>
   have hx:_=x:=aao hx;subst hx;refine⟨by rw[aaG,uz];exact h.1,λy hy=>?_⟩;have hy:y∈rB (b+1) l:=by simpa[refs] using hy
   obtain⟨j,h1,h2,h3,h4⟩:=Mj l (b+1) (d+1) y hy;have hd:=WV h.2 (λe=>by subst e;cases hy);have e:BX b d (.list l) j=d+1:=by rw[BX,By (by omega),h4]
   exact⟨j,h1,by omega,by rw[fY];omega,by rw[e];show d+1=BX b d _ b+1;rw[uz],by rw[e];exact hd⟩
  |succ i=>
   rw[aaO] at hx;obtain⟨a1,a2⟩:=Ja l (b+1) (d+1) h.2 i x hx;have e0:BX b d (.list l) (b+(i+1))=OQ (b+1) (d+1) l (b+1+i):=by rw[BX,By (by omega),show b+(i+1)=b+1+i by omega]
   refine⟨by rw[e0];exact a1,λy hy=>?_⟩;obtain⟨j,h1,h2,h3,h4,h5⟩:=a2 y hy;have e:BX b d (.list l) j=OQ (b+1) (d+1) l j:=by rw[BX,By (by omega)]
   exact⟨j,h1,by omega,by rw[fY];omega,by rw[e,e0,h4],by rw[e];exact h5⟩
 |.map l,b,d,h,i,x,hx=>by
  rw[fK] at hx;cases i with
  |zero=>
   have hx:_=x:=aao hx;subst hx;refine⟨by rw[aaG,uz];exact h.1,λy hy=>?_⟩;obtain⟨j,h1,h2,h3,h4⟩:=I9 l (b+1) (d+1) y hy;have hd:=WW h.2 (λe=>by subst e;cases hy);have e:BX b d (.map l) j=d+1:=by rw[BX,By (by omega),h4]
   exact⟨j,h1,by omega,by rw[fY];omega,by rw[e];show d+1=BX b d _ b+1;rw[uz],by rw[e];exact hd⟩
  |succ i=>
   rw[aaO] at hx;obtain⟨a1,a2⟩:=Jb l (b+1) (d+1) _ h.2 i x hx;have e0:BX b d (.map l) (b+(i+1))=Jt (b+1) (d+1) l (b+1+i):=by rw[BX,By (by omega),show b+(i+1)=b+1+i by omega]
   refine⟨by rw[e0];exact a1,λy hy=>?_⟩;obtain⟨j,h1,h2,h3,h4,h5⟩:=a2 y hy;have e:BX b d (.map l) j=Jt (b+1) (d+1) l j:=by rw[BX,By (by omega)]
   exact⟨j,h1,by omega,by rw[fY];omega,by rw[e,e0,h4],by rw[e];exact h5⟩
theorem Ja:∀(l:Az) (b d:Nat),Sw d l->∀(i:Nat) x,(kM b l)[i]?=some x->Dp (OQ b d l) b (b+qO l) (b+i) x
 |.nil,b,d,h,i,x,hx=>by rw[kM] at hx;simp at hx
 |.cons v l,b,d,h,i,x,hx=>by
  rw[kM] at hx;by_cases hi:i<fY v
  .rw[aau (by rw[cp];exact hi)] at hx;obtain⟨a1,a2⟩:=G6 v b d h.1 i x hx;have e:∀j,j<b+fY v->OQ b d (.cons v l) j=BX b d v j:=λj hj=>by rw[OQ,BY hj]
   refine⟨by rw[e _ (by omega)];exact a1,λy hy=>?_⟩;obtain⟨j,h1,h2,h3,h4,h5⟩:=a2 y hy;exact⟨j,h1,h2,by rw[qO];omega,by rw[e j h3,e _ (by omega),h4],by rw[e j h3];exact h5⟩
  .rw[aaH (by rw[cp];omega),cp] at hx;obtain⟨a1,a2⟩:=Ja l (b+fY v) d h.2 (i-fY v) x hx;have e:∀j,b+fY v<=j->OQ b d (.cons v l) j=OQ (b+fY v) d l j:=λj hj=>by rw[OQ,By (by omega)]
   rw[show b+fY v+(i-fY v)=b+i by omega] at a1 a2;refine⟨by rw[e _ (by omega)];exact a1,λy hy=>?_⟩;obtain⟨j,h1,h2,h3,h4,h5⟩:=a2 y hy;exact⟨j,h1,by omega,by rw[qO];omega,by rw[e j h2,e _ (by omega),h4],by rw[e j h2];exact h5⟩
theorem Jb:∀(l:s9) (b d:Nat) (o:Option ζ),L9 d o l->∀(i:Nat) x,(iJ b l)[i]?=some x->Dp (Jt b d l) b (b+nU l) (b+i) x
 |.nil,b,d,o,h,i,x,hx=>by rw[iJ] at hx;simp at hx
 |.cons k v l,b,d,o,h,i,x,hx=>by
  rw[iJ] at hx;cases i with
  |zero=>
   have hx:_=x:=aao hx;subst hx;exact⟨by rw[aaG,Jt,BY rfl];exact h.1,λy hy=>by cases hy⟩
  |succ i=>
   rw[aaO] at hx;by_cases hi:i<fY v
   .rw[aau (by rw[cp];exact hi)] at hx;obtain⟨a1,a2⟩:=G6 v (b+1) d h.2.2.2.1 i x hx;have e:∀j,b+1<=j->j<b+1+fY v->Jt b d (.cons k v l) j=BX (b+1) d v j:=λj hj hj2=>(by rw[Jt,By (by omega),BY hj2]);rw[show b+1+i=b+(i+1) by omega] at a1 a2;refine⟨by rw[e _ (by omega) (by omega)];exact a1,λy hy=>?_⟩;obtain⟨j,h1,h2,h3,h4,h5⟩:=a2 y hy;exact⟨j,h1,by omega,by rw[nU];omega,by rw[e j h2 h3,e _ (by omega) (by omega),h4],by rw[e j h2 h3];exact h5⟩
   .rw[aaH (by rw[cp];omega),cp] at hx;obtain⟨a1,a2⟩:=Jb l (b+1+fY v) d _ h.2.2.2.2 (i-fY v) x hx;have e:∀j,b+1+fY v<=j->Jt b d (.cons k v l) j=Jt (b+1+fY v) d l j:=λj hj=>(by rw[Jt,By (by omega),By (by omega)]);rw[show b+1+fY v+(i-fY v)=b+(i+1) by omega] at a1 a2;refine⟨by rw[e _ (by omega)];exact a1,λy hy=>?_⟩;obtain⟨j,h1,h2,h3,h4,h5⟩:=a2 y hy;exact⟨j,h1,by omega,by rw[nU];omega,by rw[e j h2,e _ (by omega),h4],by rw[e j h2];exact h5⟩
end
def rk (v:tW)(j:Nat):Nat:=32-BX 0 0 v j
theorem Dq {v:tW}(h:IU 0 v):ZI (fK 0 v) (rk v):=by
 intro i x hx y hy;obtain⟨a1,a2⟩:=G6 v 0 0 h i x hx;obtain⟨j,h1,h2,h3,h4,h5⟩:=a2 y hy;refine⟨j,h1,by rw[cp];omega,?_⟩;unfold rk;rw[aab] at h4 a1;omega
end
section
mutual
theorem KH {N:List aq}{S:Nat->Prop}(hc:∀j x,S j->N[j]?=some x->∀y∈refs x,∃j':Nat,y=(j':Int)/\S j'):∀(v:tW) (b:Nat),Pt N b (fK b v)->S b->∀j,b<=j->j<b+fY v->S j
 |.int t,b,p,hs,j,h1,h2=>by
  rw[fY] at h2;have:j=b:=by omega
  subst this;exact hs
 |.str t,b,p,hs,j,h1,h2=>by
  rw[fY] at h2;have:j=b:=by omega
  subst this;exact hs
 |.list l,b,p,hs,j,h1,h2=>by
  rw[fY] at h2;rw[fK] at p;by_cases e:j=b
  .subst e;exact hs
  .refine Mk hc l (b+1) p.cons.2 (λy hy=>hc b _ hs p.cons.1 y ?_) j (by omega) (by omega);simpa[refs] using hy
 |.map l,b,p,hs,j,h1,h2=>by
  rw[fY] at h2;rw[fK] at p;by_cases e:j=b
  .subst e;exact hs
  .exact Ml hc l (b+1) p.cons.2 (λy hy=>hc b _ hs p.cons.1 y hy) j (by omega) (by omega)
theorem Mk {N:List aq}{S:Nat->Prop}(hc:∀j x,S j->N[j]?=some x->∀y∈refs x,∃j':Nat,y=(j':Int)/\S j'):∀(l:Az) (b:Nat),Pt N b (kM b l)->(∀y∈rB b l,∃j':Nat,y=(j':Int)/\S j')->∀j,b<=j->j<b+qO l->S j
 |.nil,b,p,hs,j,h1,h2=>by rw[qO] at h2;omega
 |.cons v l,b,p,hs,j,h1,h2=>by
  rw[qO] at h2;rw[kM] at p;rw[rB] at hs;obtain⟨p1,p2⟩:=p.split;rw[cp] at p2;by_cases e:j<b+fY v
  .obtain⟨j',e1,e2⟩:=hs b (by simp);have:j'=b:=by omega
   subst this;exact KH hc v j' p1 e2 j h1 e
  .exact Mk hc l _ p2 (λy hy=>hs y (by simp[hy])) j (by omega) (by omega)
theorem Ml {N:List aq}{S:Nat->Prop}(hc:∀j x,S j->N[j]?=some x->∀y∈refs x,∃j':Nat,y=(j':Int)/\S j'):∀(l:s9) (b:Nat),Pt N b (iJ b l)->(∀y∈gV b l++jh b l,∃j':Nat,y=(j':Int)/\S j')->∀j,b<=j->j<b+nU l->S j
 |.nil,b,p,hs,j,h1,h2=>by rw[nU] at h2;omega
 |.cons k v l,b,p,hs,j,h1,h2=>by
  rw[nU] at h2;rw[iJ] at p;rw[gV,jh] at hs;have p0:=p.cons.2;obtain⟨p1,p2⟩:=p0.split;rw[cp] at p2;by_cases e:j=b
  .subst e;obtain⟨j',e1,e2⟩:=hs j (by simp);have:j'=j:=by omega
   subst this;exact e2
  .by_cases e2:j<b+1+fY v
   .obtain⟨j',e1,e3⟩:=hs ((b+1:Nat):Int) (by simp);have:j'=b+1:=(by omega);subst this;exact KH hc v _ p1 e3 j (by omega) e2
   .exact Ml hc l _ p2 (λy hy=>hs y (by
     rcases List.mem_append.1 hy with h|h
     .simp[h]
     .simp[h])) j (by omega) (by omega)
end
theorem OR {v:tW}(h:IU 0 v)(hm:fY v<1073741824){k:Nat}(hk:33*(fY v+4)<=k):∃F:FS,comp k (fK 0 v) 0=some (mk (fK 0 v).length F.C,List.replicate F.ds.length 1)/\TI (fK 0 v) F/\∀j,j<fY v->j∈F.ds:=by
 have hl:=cp 0 v;have hp:=lI v
 let F0:FS:=⟨λ_=>0,λ_=>0,λ_=>-1,λ_=>false,[],[]⟩
 have t0:TI (fK 0 v) F0:=⟨by simp[F0],by simp[F0],λj _=>by simp[F0],λj _=>by simp[F0],λj _=>by simp[F0],λi j hij=>by simp[F0] at hij⟩;have e0:zE (fK 0 v).length=F0.ts (fK 0 v).length:=by
  unfold zE FS.ts;simp only[Dh,F0];simp;rfl
 have hW:∀x∈fK 0 v,x.keys.length<=fY v/\x.items.length<=fY v:=λx hx=>by
  have h1:=uy v 0;have h2:(refs x).length<=(jX (fK 0 v)).length:=(acs (List.mem_map_of_mem hx)).length_le;unfold refs at h2;rw[aaa] at h2;omega
 obtain⟨F,f1,f2,f3,_⟩:=RM (Dq h) (by omega) hW 33 0 k F0 (by unfold rk;omega) (by omega) rfl t0 (by simp[F0]) hk;refine⟨F,?_,f2.inv,λj hj=>?_⟩
 .unfold comp;rw[e0,show (0:Int)=((0:Nat):Int) from rfl,f1];rfl
 .refine KH (N:=fK 0 v) (S:=λj=>j∈F.ds) (λj x hj hx y hy=>?_) v 0 (Pt.self _) f3 j (by omega) (by omega);obtain⟨i,hi⟩:=List.mem_iff_getElem?.1 hj;obtain⟨i',j',_,h2,h3⟩:=(f2.inv.C i j hi).2 x hx y hy;exact⟨j',h3,OF h2⟩
theorem Jc {v:tW}(h:IU 0 v)(hm:fY v<1073741824){k:Nat}(hk:33*(fY v+4)<=k):∃d,dep k (fK 0 v) 0=some (d,true)/\d<=32:=by
 obtain⟨F,f1,t,f2⟩:=OR h hm hk;have hl:=cp 0 v;have hp:=lI v;have hle:=t.le;have hidx:∀j,j<(fK 0 v).length->∃i:Nat,F.ds[i]?=some j/\F.C j=(i:Int)/\i<F.ds.length:=λj hj=>by
  obtain⟨i,hi⟩:=List.mem_iff_getElem?.1 (f2 j (by omega));exact⟨i,hi,(t.C i j hi).1,aY hi⟩
 obtain⟨Y,y1,y2,y3⟩:=RO (C:=F.C) (p:=F.ds.length) (mk (fK 0 v).length F.C) 0 (List.replicate F.ds.length []) (by simp) (λk w hk=>by
  have hlt:=aY hk;rw[wR] at hlt;rw[vu hlt] at hk;obtain⟨i,i1,i2,i3⟩:=hidx k hlt;exact⟨i,by rw[<-aao hk,i2],i3,by rw[aab,i2]⟩) (λc xs hx z hz=>by
  have:=abu (OF hx);subst this;cases hz)
 have hR:∀c:Nat,rk v (F.ds[c]?.getD 0)<1073741824:=λc=>by unfold rk;omega
 obtain⟨B,b1,b2⟩:=Vr (N:=fK 0 v) (p:=F.ds.length) (C:=F.C) (R:=λc:Nat=>rk v (F.ds[c]?.getD 0)) hR (Y.zip (List.replicate F.ds.length 1)) 0 (λ_=>0) true (by simp[y2]) (λi q hq=>by
  rw[List.getElem?_zip_eq_some] at hq;obtain⟨q1,q2⟩:=hq;refine⟨abu (OF q2),λz hz=>?_⟩;obtain⟨j,j1,j2,j3⟩:=y3 i q.1 q1 z hz;rw[aab,wR] at j2;obtain⟨i0,i1,i2,i3⟩:=hidx j j2;have:i0=i:=by omega
  subst this;obtain⟨x,hx⟩:=gU j2;refine⟨j,x,j1,hx,λy hy=>?_⟩;obtain⟨i',j',k1,k2,k3⟩:=(t.C i0 j i1).2 x hx y hy;obtain⟨j'',d1,d2,d3⟩:=Dq h j x hx y hy;have:j''=j':=by omega
  subst this;refine⟨j'',i',d1,d2,(t.C i' j'' k2).1,by omega,?_⟩;rw[aab,k2,i1];exact d3) (λ_ _=>by omega) (λ_ h=>by omega) (λ_ _ _=>rfl)
 obtain⟨i0,i1,i2,i3⟩:=hidx 0 (by omega);have b3:=b2 i0 i3;have b4:rk v (F.ds[i0]?.getD 0)<=32:=by unfold rk;omega
 refine⟨B i0-1,?_,by have:=b3.2;omega⟩;unfold dep;rw[f1];simp only[aax];rw[BY (by omega),y1];simp only;rw[Dh F.ds.length (0:Int),b1];simp only;rw[show (0:Int)=((0:Nat):Int) from rfl,mr (by omega),i2];simp only;rw[mr i3];simp only;rw[IntWalk.i64_in _ ⟨by omega,by omega⟩]
theorem A7 {v:tW}(h:IU 0 v)(hn:fY v<=4096){k:Nat}(hk:33*(fY v+4)<=k):sq k (fK 0 v) 0=some 0:=by
 have hl:=cp 0 v;have hp:=lI v;obtain⟨k,rfl⟩:∃m,k=m+2:=⟨k-2,by omega⟩;unfold sq;rw[By (by omega),By (by omega),OP,By (by simp)];have hv:=Di (N:=fK 0 v) v 0 (k+2) (λ_=>false) (Pt.self _) (λ_ _ _=>rfl) (by omega);rw[Dh,show (0:Int)=((0:Nat):Int) from rfl,hv];simp only;rw[Me (by rw[wR]) (λm hm=>by
  obtain⟨i,hi⟩:=List.mem_iff_getElem?.1 hm;have hlt:=aY hi;rw[wR] at hlt;rw[vu hlt] at hi;rw[<-aao hi];simp;omega) (RE v 0 0 h)]
 simp only;rw[show ((0:Nat):Int)=0 from rfl,RH (by omega)];simp only;obtain⟨M,e⟩:=I4 (N:=fK 0 v) k (fK 0 v) (λ_=>false) (AE v 0 (Pt.self _));rw[e];simp only;rw[Mi _ _ (λx hx=>by
  obtain⟨i,hi⟩:=List.mem_iff_getElem?.1 hx;have hlt:=aY hi;rw[wR] at hlt;rw[vu hlt] at hi;exact (aao hi).symm),By (by simp),Dn v 0 0 (Pt.self _) h]
 simp only;obtain⟨d,e1,e2⟩:=Jc h (by omega) hk;rw[e1];simp only;rw[By (by omega)]
end
end Go.Sh
