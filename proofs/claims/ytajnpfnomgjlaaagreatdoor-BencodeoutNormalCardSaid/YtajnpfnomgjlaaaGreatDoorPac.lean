
import Derived.Test.YtajnpfnomgjlaaaGreatDoorGfPa
set_option linter.all false
namespace Go.Sh
open Go Go.Ago Go.Proofs
section
variable {α β:Type}{h h' h0:ai}{L:List bG}{Q:β->ai->Prop}
mutual
def same:Nat->List av->Int->Int->Option Bool
 |0,_,_,_=>none
 |k+1,N,i,j=>match gt N i,gt N j with
  |some x,some y=>
   if x.kind≠y.kind then some false
   else if qE x.text y.text=false then some false
   else if x.ord≠y.ord then some false
   else if x.items.length≠y.items.length then some false
   else if x.kind=10/\x.ord=false then A7 k N x y 0
   else xB k N x y 0
  |_,_=>none
def A7:Nat->List av->av->av->Nat->Option Bool
 |0,_,_,_,_=>none
 |k+1,N,x,y,i=>match x.keys[i]? with
  |none=>some true
  |some kx=>match wg k N x y i kx 0 false with
   |none=>none
   |some false=>some false
   |some true=>A7 k N x y (i+1)
def wg:Nat->List av->av->av->Nat->Int->Nat->Bool->Option Bool
 |0,_,_,_,_,_,_,_=>none
 |k+1,N,x,y,i,kx,j,b=>match y.keys[j]? with
  |none=>some b
  |some ky=>match b with
   |true=>wg k N x y i kx (j+1) true
   |false=>match same k N kx ky with
    |none=>none
    |some false=>wg k N x y i kx (j+1) false
    |some true=>match x.items[i]?,y.items[j]? with
     |some p,some q=>match same k N p q with
      |none=>none
      |some c=>wg k N x y i kx (j+1) c
     |_,_=>none
def xB:Nat->List av->av->av->Nat->Option Bool
 |0,_,_,_,_=>none
 |k+1,N,x,y,i=>match x.items[i]? with
  |none=>some true
  |some p=>match y.items[i]? with
   |none=>none
   |some q=>
    if x.kind=10 then match x.keys[i]?,y.keys[i]? with
     |some kx,some ky=>match same k N kx ky with
      |none=>none
      |some false=>some false
      |some true=>match same k N p q with
       |none=>none
       |some false=>some false
       |some true=>xB k N x y (i+1)
     |_,_=>none
    else match same k N p q with
     |none=>none
     |some false=>some false
     |some true=>xB k N x y (i+1)
end
def SO (b8 b9 b0:Nat)(x y:av)(kx ix ky iy s:Sl)(root:Int):List bG:=
 [.au b8 [vi x.kind,.string x.text,.bool x.ord,aI kx,aI ix] aA,.au b9 [vi y.kind,.string y.text,.bool y.ord,aI ky,aI iy] aA,.au b0 [aI s,vi root] aj]
structure S4 (h0:ai) (B:Nat) (x y:av) (kx ix ky iy:Sl):Prop where
 kx:IL h0 kx x.keys
 ix:IL h0 ix x.items
 ky:IL h0 ky y.keys
 iy:IL h0 iy y.items
 b1:x.keys.length<=B
 b2:x.items.length<=B
 b3:y.keys.length<=B
 b4:y.items.length<=B
theorem aL {l:List α}{i x}(hx:l[i]?=some x):i<l.length:=(List.getElem?_eq_some_iff.1 hx).1
theorem DY {l:List α}{i}(hx:l[i]?=none):l.length<=i:=List.getElem?_eq_none_iff.1 hx
theorem NH {s root N}(G:oI h0 s N){B}(hB:Bd N B) :
  ∀k ,(∀n i j r h L ,k<=n->same k N i j=some r->Z h0 h L->Wp (iA n (s,root) i j) h λx h'=>x=r/\Z h0 h' L) /\
   (∀n i r x y kx ix ky iy b8 b9 b0 h L ,k<=n->A7 k N x y i=some r->S4 h0 B x y kx ix ky iy->i<=x.keys.length->Z h0 h (SO b8 b9 b0 x y kx ix ky iy s root++L) ->
    Wp (jo n (al b0) (al b8) (al b9) kx (kx.len:Int) (i:Int)) h λz h'=>z=(if r then .inl () else .inr false)/\Z h0 h' (SO b8 b9 b0 x y kx ix ky iy s root++L)) /\
   (∀n i j v b r x y kx ix ky iy a6 a7 b8 b9 b0 h L ,k<=n->wg k N x y i v j b=some r->S4 h0 B x y kx ix ky iy->j<=y.keys.length->Z h0 h (SO b8 b9 b0 x y kx ix ky iy s root++L) ->
    Wp (gp n (al b0) (al b8) (al b9) (i:Int) v b a6 a7 (i:Int) ky (ky.len:Int) (j:Int)) h λz h'=>z=r/\Z h0 h' (SO b8 b9 b0 x y kx ix ky iy s root++L)) /\
   (∀n i r x y kx ix ky iy b8 b9 b0 h L ,k<=n->xB k N x y i=some r->S4 h0 B x y kx ix ky iy->i<=x.items.length->Z h0 h (SO b8 b9 b0 x y kx ix ky iy s root++L) ->
    Wp (fN n (al b0) (al b8) (al b9) (ix.len:Int) (i:Int)) h λz h'=>z=(if r then .inl () else .inr false)/\Z h0 h' (SO b8 b9 b0 x y kx ix ky iy s root++L)):=by
 intro k
 induction k with
 |zero=>grind [same,A7,wg,xB]
 |succ k ih=>
  obtain⟨ih1,ih2,ih3,ih4⟩:=ih;refine⟨λn i j r h L hn hv z=>?_,λn i r x y kx ix ky iy b8 b9 b0 h L hn hv S hi z=>?_,λn i j v b r x y kx ix ky iy a6 a7 b8 b9 b0 h L hn hv S hj z=>?_,λn i r x y kx ix ky iy b8 b9 b0 h L hn hv S hi z=>?_⟩
  .obtain⟨n,rfl⟩:∃m,n=m+1:=⟨n-1,by omega⟩;rw[EJ];unfold rX;rw[same] at hv;cases hx:gt N i with
   |none=>rw[hx] at hv;cases hv
   |some x=>
   cases hy:gt N j with
   |none=>rw[hx,hy] at hv;cases hv
   |some y=>
   rw[hx,hy] at hv;simp only at hv;obtain⟨x1,x2⟩:=aC hx;obtain⟨y1,y2⟩:=aC hy;refine z.new λb0 h1 z _=>?_;refine z.dz [10,11] (by decide) (by decide) λnb h2 z=>?_;refine z.ld 2 ?_;refine G.ZD z x1 x2 λa kx ix nx=>(nx.fr z.fr).iN ?_;refine z.ld 2 ?_;refine G.ZD z y1 y2 λa2 ky iy ny=>(ny.fr z.fr).iN ?_;refine z.newAt 0 λh3 z=>z.newAt 1 λh4 z=>?_;refine z.stC 0 ?_ λh5 z=>z.st 1 λh6 z=>?_
   .intro a' ha';simp at ha';rcases ha' with rfl|rfl
    .exact z.nbO 0 2 rfl rfl (by decide)
    .obtain⟨g,c⟩:=ny.cl;exact z.nb0 0 c rfl
   have z:Z h0 h6 (SO (nb+10) (nb+11) b0 x y kx ix ky iy s root++L):=z;have hbx:=hB.2.2 x (BY x2);have hby:=hB.2.2 y (BY y2);have S:S4 h0 B x y kx ix ky iy:=⟨nx.keys,nx.items,ny.keys,ny.items,hbx.1,hbx.2,hby.1,hby.2⟩;have dr:∀{h},Z h0 h (SO (nb+10) (nb+11) b0 x y kx ix ky iy s root++L)->Z h0 h L:=λz=>z.drop.drop.drop;refine z.ld 0 ?_;refine z.ld 1 ?_;by_cases e1:x.kind=y.kind
   case neg=>
    rw[By e1] at hv;cases hv;rw[By (by simpa using e1),ag];exact⟨rfl,dr z⟩
   rw[AT (by simpa using e1)] at hv;rw[AT (by simpa using e1)];refine z.ld 0 ?_;refine z.ld 1 ?_;cases e2:qE x.text y.text with
   |false=>
    rw[By e2] at hv;cases hv;rw[By (by rfl),ag];exact⟨rfl,dr z⟩
   |true=>
   rw[AT (by simp[e2])] at hv;rw[AT (by simp)];refine z.ld 0 ?_;refine z.ld 1 ?_;by_cases e3:x.ord=y.ord
   case neg=>
    rw[By e3] at hv;cases hv;rw[By (by simpa using e3),ag];exact⟨rfl,dr z⟩
   rw[AT (by simpa using e3)] at hv;rw[AT (by simpa using e3)];refine z.ld 0 (x:=ix) ?_;refine z.ld 1 (x:=iy) ?_;rw[S.ix.len,S.iy.len];by_cases e4:x.items.length=y.items.length
   case neg=>
    rw[By e4] at hv;cases hv;rw[By (by simp;omega),ag];exact⟨rfl,dr z⟩
   rw[AT (by simpa using e4)] at hv;rw[AT (by simp;omega)];unfold qI;have fin:∀{z:Unit⊕Bool} {h'} {g1:Unit->M Bool} {g2:Bool->M Bool},(z=(if r then .inl () else .inr false)/\Z h0 h' (SO (nb+10) (nb+11) b0 x y kx ix ky iy s root++L))->(g1=λ_=>AI true)->(g2=λx=>AI x) ->
     Wp (cz g1 g2 z) h' λx h'=>x=r/\Z h0 h' L:=by
    intro z h' g1 g2 hz e1 e2;obtain⟨rfl,z⟩:=hz;subst e1 e2;cases r with
    |true=>exact ag.2 ⟨rfl,dr z⟩
    |false=>exact ag.2 ⟨rfl,dr z⟩
   refine z.ld 0 ?_;by_cases e5:x.kind=10
   .rw[By (by simpa using e5)];refine z.ld 0 ?_;cases e6:x.ord with
    |false=>
     rw[By ⟨e5,e6⟩] at hv;rw[By (by rfl)];refine z.ld 0 (x:=kx) ?_;rw[ah];exact (ih2 n 0 r x y kx ix ky iy _ _ _ _ L (by omega) hv S (by omega) z).mono λ_ h' hz=>fin hz rfl rfl
    |true=>
     rw[AT (by simp[e6])] at hv;rw[AT (by simp)];refine z.ld 0 (x:=ix) ?_;rw[ah];exact (ih4 n 0 r x y kx ix ky iy _ _ _ _ L (by omega) hv S (by omega) z).mono λ_ h' hz=>fin hz rfl rfl
   .rw[AT (by simpa using e5)];rw[AT (λe=>e5 e.1)] at hv;refine z.ld 0 (x:=ix) ?_;rw[ah];exact (ih4 n 0 r x y kx ix ky iy _ _ _ _ L (by omega) hv S (by omega) z).mono λ_ h' hz=>fin hz rfl rfl
  .obtain⟨n,rfl⟩:∃m,n=m+1:=⟨n-1,by omega⟩;rw[Bw];unfold o5;rw[S.kx.len];rw[A7] at hv;cases hx:x.keys[i]? with
   |none=>
    rw[hx] at hv;cases hv;have:=DY hx;rw[AT (by simp;omega),ag];exact⟨rfl,z⟩
   |some v=>
    rw[hx] at hv;simp at hv;have hlt:=aL hx;rw[By (by simp;omega)];refine (S.kx.fr z.fr).ix (by omega) (by simpa using hx) λa1 g c=>c.rD rfl rfl ?_;refine z.ld 1 (x:=ky) ?_;cases hf:wg k N x y i v 0 false with
    |none=>rw[hf] at hv;cases hv
    |some b=>
     rw[hf] at hv;rw[ah];refine (ih3 n i 0 v false b x y kx ix ky iy kx _ _ _ _ _ L (by omega) hf S (by omega) z).mono λb' h2 hz=>?_;obtain⟨rfl,z⟩:=hz;cases b' with
     |false=>
      cases hv;rw[By (by rfl),ag];exact⟨rfl,z⟩
     |true=>
      rw[AT (by simp),vk hi (by have:=S.b1;have:=hB.2.1;omega)];have:=ih2 n (i+1) r x y kx ix ky iy _ _ _ _ L (by omega) hv S (by omega) z
      rwa [S.kx.len] at this
  .obtain⟨n,rfl⟩:∃m,n=m+1:=⟨n-1,by omega⟩;rw[Bv];unfold o0;rw[S.ky.len];rw[wg] at hv;cases hx:y.keys[j]? with
   |none=>
    rw[hx] at hv;cases hv;have:=DY hx;rw[AT (by simp;omega),ag];exact⟨rfl,z⟩
   |some w=>
    rw[hx] at hv;simp at hv;have hlt:=aL hx;rw[By (by simp;omega)];refine (S.ky.fr z.fr).ix (by omega) (by simpa using hx) λa1 g c=>c.rD rfl rfl ?_;rw[vk hj (by have:=S.b3;have:=hB.2.1;omega)];cases b with
    |true=>
     simp at hv;rw[By rfl];have:=ih3 n i (j+1) v true r x y kx ix ky iy a6 a7 _ _ _ _ L (by omega) hv S (by omega) z
     rwa [S.ky.len] at this
    |false=>
     simp at hv;rw[AT (by simp)];refine z.iN 2 (ls:=[.sl,li]) (x:=(s,root)) ?_;cases hs:same k N v w with
     |none=>rw[hs] at hv;cases hv
     |some b1=>
      rw[hs] at hv;rw[ah];refine (ih1 n v w b1 h _ (by omega) hs z).mono λb' h2 hz=>?_;obtain⟨rfl,z⟩:=hz;cases b' with
      |false=>
       simp at hv;rw[AT (by simp)];have:=ih3 n i (j+1) v false r x y kx ix ky iy a6 a7 _ _ _ _ L (by omega) hv S (by omega) z
       rwa [S.ky.len] at this
      |true=>
       simp at hv;rw[By rfl];refine z.iN 2 (ls:=[.sl,li]) (x:=(s,root)) ?_;cases hp:x.items[i]? with
       |none=>rw[hp] at hv;cases hv
       |some p=>
       cases hq:y.items[j]? with
       |none=>rw[hp,hq] at hv;cases hv
       |some q=>
       rw[hp,hq] at hv;simp at hv;refine z.ld 0 (x:=ix) ?_;refine (S.ix.fr z.fr).ix (by omega) (by simpa using hp) λa1 g c=>c.rD rfl rfl ?_;refine z.ld 1 (x:=iy) ?_;refine (S.iy.fr z.fr).ix (by omega) (by simpa using hq) λa1 g c=>c.rD rfl rfl ?_;cases hs2:same k N p q with
       |none=>rw[hs2] at hv;cases hv
       |some b2=>
        rw[hs2] at hv;simp at hv;rw[ah];refine (ih1 n p q b2 _ _ (by omega) hs2 z).mono λb' h3 hz=>?_;obtain⟨rfl,z⟩:=hz;have:=ih3 n i (j+1) v b' r x y kx ix ky iy a6 a7 _ _ _ _ L (by omega) hv S (by omega) z
        rwa [S.ky.len] at this
  .obtain⟨n,rfl⟩:∃m,n=m+1:=⟨n-1,by omega⟩;rw[Bx];unfold o6;rw[S.ix.len];rw[xB] at hv;cases hp:x.items[i]? with
   |none=>
    rw[hp] at hv;cases hv;have:=DY hp;rw[AT (by simp;omega),ag];exact⟨rfl,z⟩
   |some p=>
   cases hq:y.items[i]? with
   |none=>rw[hp,hq] at hv;cases hv
   |some q=>
   rw[hp,hq] at hv;simp at hv;have hlt:=aL hp;rw[By (by simp;omega)];rw[vk hi (by have:=S.b2;have:=hB.2.1;omega)];refine z.ld 0 ?_;have nxt:∀{h},xB k N x y (i+1)=some r->Z h0 h (SO b8 b9 b0 x y kx ix ky iy s root++L)->Wp ((aT.at n).fN (al b0) (al b8) (al b9) (x.items.length:Int) ((i+1:Nat):Int)) h λz h'=>z=(if r then .inl () else .inr false)/\Z h0 h' (SO b8 b9 b0 x y kx ix ky iy s root++L):=by
    intro h hv z;have:=ih4 n (i+1) r x y kx ix ky iy _ _ _ _ L (by omega) hv S (by omega) z
    rwa [S.ix.len] at this
   by_cases e5:x.kind=10
   .rw[By e5] at hv;rw[By (by simpa using e5)];cases hk:x.keys[i]? with
    |none=>rw[hk] at hv;cases hv
    |some v=>
    cases hk2:y.keys[i]? with
    |none=>rw[hk,hk2] at hv;cases hv
    |some w=>
    rw[hk,hk2] at hv;simp at hv;refine z.iN 2 (ls:=[.sl,li]) (x:=(s,root)) ?_;refine z.ld 0 (x:=kx) ?_;refine (S.kx.fr z.fr).ix (by omega) (by simpa using hk) λa1 g c=>c.rD rfl rfl ?_;refine z.ld 1 (x:=ky) ?_;refine (S.ky.fr z.fr).ix (by omega) (by simpa using hk2) λa1 g c=>c.rD rfl rfl ?_;cases hs:same k N v w with
    |none=>rw[hs] at hv;cases hv
    |some b1=>
    rw[hs] at hv;rw[ah];refine (ih1 n v w b1 h _ (by omega) hs z).mono λb' h2 hz=>?_;obtain⟨rfl,z⟩:=hz;cases b' with
    |false=>
     cases hv;rw[By (by rfl),ag];exact⟨rfl,z⟩
    |true=>
     simp at hv;rw[AT (by simp)];refine z.iN 2 (ls:=[.sl,li]) (x:=(s,root)) ?_;refine z.ld 0 (x:=ix) ?_;refine (S.ix.fr z.fr).ix (by omega) (by simpa using hp) λa1 g c=>c.rD rfl rfl ?_;refine z.ld 1 (x:=iy) ?_;refine (S.iy.fr z.fr).ix (by omega) (by simpa using hq) λa1 g c=>c.rD rfl rfl ?_;cases hs2:same k N p q with
     |none=>rw[hs2] at hv;cases hv
     |some b2=>
     rw[hs2] at hv;rw[ah];refine (ih1 n p q b2 _ _ (by omega) hs2 z).mono λb' h3 hz=>?_;obtain⟨rfl,z⟩:=hz;cases b' with
     |false=>
      cases hv;rw[By (by rfl),ag];exact⟨rfl,z⟩
     |true=>
      simp at hv;rw[AT (by simp)];exact nxt hv z
   .rw[AT e5] at hv;rw[AT (by simpa using e5)];refine z.iN 2 (ls:=[.sl,li]) (x:=(s,root)) ?_;refine z.ld 0 (x:=ix) ?_;refine (S.ix.fr z.fr).ix (by omega) (by simpa using hp) λa1 g c=>c.rD rfl rfl ?_;refine z.ld 1 (x:=iy) ?_;refine (S.iy.fr z.fr).ix (by omega) (by simpa using hq) λa1 g c=>c.rD rfl rfl ?_;cases hs2:same k N p q with
    |none=>rw[hs2] at hv;cases hv
    |some b2=>
    rw[hs2] at hv;rw[ah];refine (ih1 n p q b2 _ _ (by omega) hs2 z).mono λb' h3 hz=>?_;obtain⟨rfl,z⟩:=hz;cases b' with
    |false=>
     cases hv;rw[By (by rfl),ag];exact⟨rfl,z⟩
    |true=>
     simp at hv;rw[AT (by simp)];exact nxt hv z
theorem abz {s root N}(z:Z h0 h L)(G:oI h0 s N){B}(hB:Bd N B){k n i j r}(hn:k<=n)(hv:same k N i j=some r):Wp (iA n (s,root) i j) h λx h'=>x=r/\Z h0 h' L:=
 (NH G hB k).1 n i j r h L hn hv z
end
section
variable {α β:Type}{h h' h0:ai}{L:List bG}{Q:β->ai->Prop}
def isKey (N:List av)(k:Int)(t:ζ)(y:Int):Bool:=match gt N y with
 |some n=>decide (k=n.kind)&&qE t n.text
 |none=>false
def Yf (k:Nat)(N:List av)(x:Int):ε->Option Bool
 |[]=>some false
 |y::ys=>match same k N x y with
  |none=>none
  |some true=>some true
  |some false=>Yf k N x ys
def U3 (k:Nat)(N:List av):ε->ε->Option Bool
 |_,[]=>some false
 |met,x::xs=>match gt N x with
  |none=>none
  |some n=>match Yf k N x (met.filter (isKey N n.kind n.text)) with
   |none=>none
   |some true=>some true
   |some false=>U3 k N (met++[x]) xs
def ZF (k:Nat)(N:List av):List av->Option Bool
 |[]=>some false
 |x::xs=>match U3 k N [] x.keys with
  |none=>none
  |some true=>some true
  |some false=>ZF k N xs
structure NI where
 kind:Int
 text:ζ
 s:Sl
 g:Nat
 xs:ε
def NI.own (e:NI):bG:=.ps e.s 1 an (e.xs.map vi) e.g
def AY (k:Int)(t:ζ):ξ:=Value.agg #[vi k,Value.string t]
theorem FF k k' t t':BX (AY k t) (AY k' t')=(decide (k=k')&&qE t t'):=by
 show As [vi k,Value.string t] [vi k',Value.string t']=_;unfold As As As;show (((Qo .i64 .i64&&decide (k=k')))&&(qE t t'&&true))=_;rw[show Qo .i64 .i64=true from rfl];simp
theorem CG a:qE a a=true:=(aa2 a a).2 rfl
def lk:List NI->Int->ζ->Option (Nat×NI)
 |[],_,_=>none
 |e::r,k,t=>if (decide (k=e.kind)&&qE t e.text)=true then some (0,e) else (lk r k t).map λp=>(p.1+1,p.2)
theorem Rt:∀{E} {k} {t} {i} {e},lk E k t=some (i,e)->E[i]?=some e/\k=e.kind/\t=e.text
 |[],k,t,i,e,hl=>by cases hl
 |x::r,k,t,i,e,hl=>by
  rw[lk] at hl;split at hl
  .rename_i hc;cases hl;simp at hc;exact⟨rfl,hc.1,Bl hc.2⟩
  .cases hr:lk r k t with
   |none=>rw[hr] at hl;cases hl
   |some p=>
    rw[hr] at hl;cases hl;have:=Rt hr
    grind
theorem Yg:∀{E} {k} {t} {i} {e e'},lk E k t=some (i,e)->e'.kind=k->e'.text=t->∀k' t',lk (E.set i e') k' t'=if (decide (k'=k)&&qE t' t)=true then some (i,e') else lk E k' t'
 |[],k,t,i,e,e',hl,_,_=>by cases hl
 |x::r,k,t,i,e,e',hl,h1,h2=>by
  intro k' t';rw[lk] at hl;split at hl
  .rename_i hc;cases hl;simp at hc;rw[ahZ,lk,h1,h2];split
   .rfl
   .rename_i hn;rw[lk,AT]
    grind [Bl]
  .rename_i hc;cases hr:lk r k t with
   |none=>rw[hr] at hl;cases hl
   |some p=>
    rw[hr] at hl;cases hl;rw[aij,lk,Yg hr h1 h2 k' t',lk];by_cases hx:(decide (k'=x.kind)&&qE t' x.text)=true
    .rw[By hx,By hx,AT]
     grind [Bl]
    grind
structure Yh (N:List av) (E:List NI) (met:ε) (f:ξ->Option ξ):Prop where
 f:∀k t,f (AY k t)=(lk E k t).map λp=>aI p.2.s
 nn:∀k t,lk E k t=none->met.filter (isKey N k t)=[]
 ss:∀k t i e,lk E k t=some (i,e)->e.xs=met.filter (isKey N k t)
theorem Yh.nil N:Yh N [] [] λ_=>none:=⟨λ_ _=>rfl,λ_ _ _=>rfl,λ_ _ _ _ hl=>by cases hl⟩
theorem yA {N met x n}(hn:gt N x=some n) k t :
  (met++[x]).filter (isKey N k t)=met.filter (isKey N k t)++if (decide (k=n.kind)&&qE t n.text)=true then [x] else []:=by
 grind [isKey]
theorem Yh.qf {N E met f}(I:Yh N E met f){x n}(hn:gt N x=some n){i e}(hl:lk E n.kind n.text=some (i,e)) s g :
  Yh N (E.set i ⟨n.kind,n.text,s,g,e.xs++[x]⟩) (met++[x]) (Bm f (AY n.kind n.text) (aI s)):=by
 have hs:=Yg (e':=⟨n.kind,n.text,s,g,e.xs++[x]⟩) hl rfl rfl;refine⟨λk t=>?_,λk t h1=>?_,λk t j e2 h1=>?_⟩
 .rw[hs,Bm,FF];split
  .rename_i hc;rfl
  .rename_i hc;exact I.f k t
 .rw[hs] at h1;rw[yA hn];split at h1
  .cases h1
  .rename_i hc;rw[AT hc,I.nn k t h1];rfl
 .rw[hs] at h1;rw[yA hn];split at h1
  .rename_i hc;cases h1;rw[By hc];simp at hc;rw[hc.1,Bl hc.2,<-I.ss _ _ _ _ hl]
  .rename_i hc;rw[AT hc,agA,<-I.ss _ _ _ _ h1]
theorem Yh.add {N E met f}(I:Yh N E met f){x n}(hn:gt N x=some n)(hl:lk E n.kind n.text=none) s g f'
  (hf:∀k t,f' (AY k t)=if (decide (k=n.kind)&&qE t n.text)=true then some (aI s) else f (AY k t)) :
  Yh N (⟨n.kind,n.text,s,g,[x]⟩::E) (met++[x]) f':=by
 refine⟨λk t=>?_,λk t h1=>?_,λk t j e2 h1=>?_⟩
 .rw[hf,lk];split
  .rfl
  .rw[I.f,Option.map_map];rfl
 .rw[lk] at h1;rw[yA hn];split at h1
  .cases h1
  .rename_i hc;simp at h1;rw[AT hc,I.nn k t h1];rfl
 .rw[lk] at h1;rw[yA hn];split at h1
  .rename_i hc;cases h1;rw[By hc];simp at hc;rw[hc.1,Bl hc.2,I.nn _ _ hl];rfl
  .rename_i hc;cases hr:lk E k t with
   |none=>rw[hr] at h1;cases h1
   |some p=>
    rw[hr] at h1;cases h1;rw[AT hc,agA,<-I.ss k t p.1 p.2 hr]
theorem adD {s root N}(G:oI h0 s N){B}(hB:Bd N B){k x sl ys}(hl:ys.length<=B){o1 b0} a1 a3 a4 a5 a6 a7 a8 a9
  (hr:∀h',Z h0 h' (o1::.au b0 [aI s,vi root] aj::L)->IL h' sl ys)(hsl:sl.len=ys.length) :
  ∀n i r h ,k+(ys.length-i)<n->i<=ys.length->Yf k N x (ys.drop i)=some r->Z h0 h (o1::.au b0 [aI s,vi root] aj::L) ->
   Wp (jB n (al b0) a1 x a3 a4 a5 a6 a7 a8 a9 sl (sl.len:Int) (i:Int)) h λz h'=>z=(if r then .inr true else .inl ())/\Z h0 h' (o1::.au b0 [aI s,vi root] aj::L):=by
 intro n
 induction n with
 |zero=>intro i r h h1;omega
 |succ n ih=>
  intro i r h h1 h2 hv z;rw[AH];unfold nV;rw[hsl];by_cases hi:i<ys.length
  .rw[By (by simp;omega)];obtain⟨y,hy⟩:=eY hi;rw[drop_cons hy,Yf] at hv;refine (hr h z).ix (by omega) (by simpa using hy) λa g c=>c.rD rfl rfl ?_;refine z.iN 1 (ls:=[.sl,li]) (x:=(s,root)) ?_;cases hs:same k N x y with
   |none=>rw[hs] at hv;cases hv
   |some b=>
    rw[hs] at hv;rw[ah];refine (abz z G hB (by omega) hs).mono λb' h3 hz=>?_;obtain⟨rfl,z⟩:=hz;cases b' with
    |true=>cases hv;rw[By rfl,ag];exact⟨rfl,z⟩
    |false=>
     rw[AT (by simp),vk h2 (by have:=hB.2.1;omega)];have:=ih (i+1) r h3 (by omega) (by omega) hv z
     rwa [hsl] at this
  .rw[AT (by simp;omega),ag];have:ys.drop i=[]:=abZ (by omega);rw[this] at hv;cases hv;exact⟨rfl,z⟩
theorem filter_le {N}{met:ε} k t:(met.filter (isKey N k t)).length<=met.length:=List.length_filter_le _ _
theorem ahr {s root N}(G:oI h0 s N){B}(hB:Bd N B){k sl xs}(il:IL h0 sl xs)(hl:xs.length<=B){b0 m} a2 a3 a4 :
  ∀n i r h E met f c ,k+B+(xs.length-i)+2<n->i<=xs.length->met.length=i->U3 k N met (xs.drop i)=some r->Yh N E met f ->
   Z h0 h (.au b0 [aI s,vi root] aj::.map m eN f c::(E.map NI.own++L)) ->
   Wp (iD n (al b0) (some m) a2 a3 a4 sl (sl.len:Int) (i:Int)) h λz h'=>z=(if r then .inr true else .inl ())/\Z h0 h' (.au b0 [aI s,vi root] aj::L):=by
 have hbig:B<=cF:=by have:=hB.2.1;unfold cF;omega
 have fin:∀{h:ai} {E:List NI} {f:ξ->Option ξ} {c:Nat},Z h0 h (.au b0 [aI s,vi root] aj::.map m eN f c::(E.map NI.own++L))->Z h0 h (.au b0 [aI s,vi root] aj::L):=λz=>
  z.sub ((List.Sublist.cons _ (aic _ _)).cons₂ _)
 intro n
 induction n with
 |zero=>intro i r h E met f c h1;omega
 |succ n ih=>
  intro i r h E met f c h1 h2 hm hv I z;rw[AJ];unfold nW;rw[il.len];by_cases hi:i<xs.length
  .rw[By (by simp;omega)];obtain⟨x,hx⟩:=eY hi;rw[drop_cons hx,U3] at hv;cases hn:gt N x with
   |none=>rw[hn] at hv;cases hv
   |some nx=>
   rw[hn] at hv;simp at hv;obtain⟨x1,x2⟩:=aC hn;refine (il.fr z.fr).ix (by omega) (by simpa using hx) λa g cl=>cl.rD rfl rfl ?_;refine z.dz [13] (by decide) (by decide) λnb h3 z=>?_;refine z.ld 1 ?_;refine G.at z x1 x2 λa1 k1 i1 n1 _ _=>n1.Nl ?_;refine z.ld 1 ?_;refine G.at z x1 x2 λa2' k2 i2 n2 _ _=>n2.LR ?_;refine z.newAt 0 λh4 z=>z.st 0 λh5 z=>?_;refine z.iN 0 ?_;have z:Z h0 h5 (.au (nb+13) [vi nx.kind,.string nx.text] eN::.au b0 [aI s,vi root] aj::.map m eN f c::(E.map NI.own++L)):=z;have hfk:f (AY nx.kind nx.text)=(lk E nx.kind nx.text).map λp=>aI p.2.s:=I.f _ _;have hst:∀{E':List NI} {f':ξ->Option ξ} {c':Nat} {h':ai},Z h0 h' (.au (nb+13) [vi nx.kind,.string nx.text] eN::.au b0 [aI s,vi root] aj::.map m eN f' c'::(E'.map NI.own++L))->Yh N E' (met++[x]) f'->U3 k N (met++[x]) (xs.drop (i+1))=some r ->
     Wp (iD n (al b0) (some m) a2 a3 a4 sl (xs.length:Int) (IntKind.i64.wrap ((i:Int)+1))) h' λz h'=>z=(if r then .inr true else .inl ())/\Z h0 h' (.au b0 [aI s,vi root] aj::L):=by
    intro E' f' c' h' z I hv;rw[vk h2 (by have:=hB.2.1;omega)];have:=ih (i+1) r h' E' (met++[x]) f' c' (by omega) (by omega) (by simp[hm]) hv I z.drop
    rwa [il.len] at this
   cases hlk:lk E nx.kind nx.text with
   |none=>
    rw[hlk] at hfk;have hnil:=I.nn _ _ hlk;rw[hnil,Yf] at hv;simp at hv;refine z.gH 2 (k:=AY nx.kind nx.text) rfl (λv hv2=>by rw[hfk] at hv2;cases hv2) λ_=>?_;have hw:=adD G hB (k:=k) (x:=x) (sl:=qQ) (ys:=[]) (by simp) (some m) (al (nb+13)) a2 a3 a4 sl (xs.length:Int) (i:Int) (λh' _=>⟨0,wq.nil rfl⟩) rfl n 0 false h5 (by simp;omega) (by simp) rfl z;rw[ah];refine hw.mono λy h6 hy=>?_;obtain⟨rfl,z⟩:=hy;show Wp (sh _ _) h6 _;refine z.iN 0 ?_;refine z.V0 2 (k:=AY nx.kind nx.text) rfl (by rw[FF];simp[CG]) (λv hv2=>by grind) λ_ h7 st z hs=>?_;have z:=z.add (Fr.refl z.wf) (o:=.ps ⟨none,0,0⟩ 1 an [] 0) xl.nil (.inl rfl);refine z.Sw 0 rfl (by decide) rfl (by grind) λs' h8 g' hs' z fr=>?_;have hs:=hs.fr fr (by simp);have z:Z h0 h8 (.ps s' 1 an [vi x] g'::.au (nb+13) [vi nx.kind,.string nx.text] eN::.au b0 [aI s,vi root] aj::.map m eN (Bm f (AY nx.kind nx.text) (CR (Ty.one .sl) qQ)) (c+1)::(E.map NI.own++L)):=z;refine z.V1 3 rfl hs λh9 z=>?_;have z:Z h0 h9 (.ps s' 1 an [vi x] g'::.au (nb+13) [vi nx.kind,.string nx.text] eN::.au b0 [aI s,vi root] aj::.map m eN (Bm (Bm f (AY nx.kind nx.text) (CR (Ty.one .sl) qQ)) (AY nx.kind nx.text) (aI s')) (c+1)::(E.map NI.own++L)):=z;have z:=z.perm (L':=.au (nb+13) [vi nx.kind,.string nx.text] eN::.au b0 [aI s,vi root] aj::.map m eN (Bm (Bm f (AY nx.kind nx.text) (CR (Ty.one .sl) qQ)) (AY nx.kind nx.text) (aI s')) (c+1)::.ps s' 1 an [vi x] g'::(E.map NI.own++L)) (aiK (l₁:=[_,_,_])).symm;refine hst z (I.add hn hlk s' g' _ λk' t'=>?_) hv;unfold Bm;rw[FF];split<;>rfl
   |some p=>
    obtain⟨j,e⟩:=p;rw[hlk] at hfk;obtain⟨e1,e2,e3⟩:=Rt hlk;have hxs:=I.ss _ _ _ _ hlk;have hjlt:=aL e1;rw[<-hxs] at hv;have hown:∀{f':ξ->Option ξ} {c':Nat},(.au (nb+13) [vi nx.kind,.string nx.text] eN::.au b0 [aI s,vi root] aj::.map m eN f' c'::(E.map NI.own++L):List bG)[j+3]?=some (.ps e.s 1 an (e.xs.map vi) e.g):=by
     intro f' c';simp;rw[agI (by simpa using hjlt),abE,e1];rfl
    have hlen:e.s.len=e.xs.length:=(xl.Dm (z.get (j+3) hown)).Dn;have hle:e.xs.length<=i:=(by rw[hxs,<-hm];exact filter_le _ _);refine z.gH 2 (k:=AY nx.kind nx.text) rfl (λv hv2=>?_) λhv2=>(by rw[hfk] at hv2;cases hv2);rw[hfk] at hv2;cases hv2;refine⟨e.s,rfl,?_⟩;cases hc:Yf k N x e.xs with
    |none=>rw[hc] at hv;cases hv
    |some b=>
    rw[hc] at hv;have hw:=adD G hB (by omega) (some m) (al (nb+13)) a2 a3 a4 sl (xs.length:Int) (i:Int) (λh' z=>⟨_,xl.Dm (z.get (j+3) hown)⟩) hlen n 0 b h5 (by omega) (by omega) hc z;rw[ah];refine hw.mono λy h6 hy=>?_;obtain⟨rfl,z⟩:=hy;cases b with
    |true=>
     cases hv;exact ag.2 ⟨rfl,fin z.drop⟩
    |false=>
     simp at hv;show Wp (sh _ _) h6 _;refine z.iN 0 ?_;refine z.V0 2 (k:=AY nx.kind nx.text) rfl (by rw[FF];simp[CG]) (λv hv2=>?_) λhv2=>(by rw[hfk] at hv2;cases hv2);rw[hfk] at hv2;cases hv2;refine⟨e.s,rfl,λst hs=>?_⟩;have hne:e.g≠m+1:=z.ne 2 (j+3) rfl hown (by omega) (by simp[bG.eI]);refine z.Sw (j+3) hown (by decide) rfl (by grind) λs' h8 g' hs' z fr=>?_;have hs:=hs.fr fr (λe=>hne e.symm);refine z.V1 2 rfl hs λh9 z=>?_;refine hst (c':=c) (z.perm ?_) (I.qf hn hlk s' g') hv;refine List.Perm.of_eq ?_;show bG.au (nb+13) _ _::bG.au b0 _ _::bG.map m _ _ _::((E.map NI.own++L).set j _)=_;rw[aj6 _ _ (by simpa using hjlt),ajs]
     congr 4
     simp[NI.own]
  .rw[AT (by simp;omega),ag];have:xs.drop i=[]:=abZ (by omega);rw[this] at hv;rw[U3] at hv
   grind
theorem ahs {s root N}(G:oI h0 s N){B}(hB:Bd N B){k b0} :
  ∀n i r h L ,k+(N.length-i)+2*B+7<n->i<=N.length->ZF k N (N.drop i)=some r->Z h0 h (.au b0 [aI s,vi root] aj::L) ->
   Wp (iE n (al b0) s (s.len:Int) (i:Int)) h λz h'=>z=(if r then .inr true else .inl ())/\Z h0 h' L:=by
 intro n
 induction n with
 |zero=>intro i r h L h1;omega
 |succ n ih=>
  intro i r h L h1 h2 hv z;rw[AK];unfold nX;rw[G.len];by_cases hi:i<N.length
  .rw[By (by simp;omega)];obtain⟨x,hx⟩:=eY hi;rw[drop_cons hx,ZF] at hv;have hbd:=hB.2.2 x (BY hx);refine G.at z (by omega) (by simpa using hx) λa ks is nd ik ii=>nd.iN ?_;refine z.node λx2 h2' z=>?_;refine z.aiw λm h3 z=>?_;refine z.ld 1 (x:=ks) ?_;cases hk:U3 k N [] x.keys with
   |none=>rw[hk] at hv;cases hv
   |some b=>
    rw[hk] at hv;have z:=z.perm (L':=.au b0 [aI s,vi root] aj::.map m eN (λ_=>none) 0::([]++(.au x2 [vi x.kind,.string x.text,.bool x.ord,aI ks,aI is] aA::L))) ((aiK (l₁:=[_,_])).trans (ajz _));rw[ah];refine (ahr (k:=k) G hB ik hbd.1 s (N.length:Int) (i:Int) n 0 b h3 [] [] _ 0 (by omega) (by omega) rfl (by simpa using hk) (Yh.nil N) z).mono λy h4 hy=>?_;obtain⟨rfl,z⟩:=hy;have z:=(z.perm (List.Perm.swap _ _ _)).drop;cases b with
    |true=>cases hv;exact ag.2 ⟨rfl,z.drop⟩
    |false=>
     simp at hv;show Wp (iE n _ _ _ _) h4 _;rw[vk h2 (by have:=hB.1;have:=hB.2.1;omega)];have:=ih (i+1) r h4 L (by omega) (by omega) hv z
     rwa [G.len] at this
  .rw[AT (by simp;omega),ag];have:N.drop i=[]:=abZ (by omega);rw[this] at hv;cases hv;exact⟨rfl,z.drop⟩
theorem Yi {s root N}(z:Z h0 h L)(G:oI h0 s N){B}(hB:Bd N B){k n}(hn:k+3*B+8<n){r}(hr:ZF k N N=some r) :
  Wp (rr n (s,root)) h λx h'=>x=r/\Z h0 h' L:=by
 unfold rr;refine z.new λx0 h1 z _=>?_;refine z.ld 0 ?_;rw[ah];refine (ahs G hB (k:=k) n 0 r h1 L (by have:=hB.1;omega) (by omega) (by simpa using hr) z).mono λy h2 hy=>?_;obtain⟨rfl,z⟩:=hy;cases r with
 |true=>exact ag.2 ⟨rfl,z⟩
 |false=>exact ag.2 ⟨rfl,z⟩
end
section
variable {α β:Type}{h h' h0:ai}{L:List bG}{Q:β->ai->Prop}
structure TS where
 next:Int
 ix:ε
 lo:ε
 nn:ε
 on:List Bool
 im:ε
 fL:ε
def mn (a b:Int):Int:=if b<a then b else a
def Ha (a:Int)(st:TS):Option TS:=
 if st.im.length+1<=cF/\st.fL.length+1<=cF/\(gt st.ix a).isSome/\(gt st.lo a).isSome/\(gt st.on a).isSome then
  let nx:=IntKind.i64.wrap (st.next+1)
  some { st with next:=nx,ix:=st.ix.set a.toNat nx,lo:=st.lo.set a.toNat nx,im:=st.im++[a],on:=st.on.set a.toNat true }
 else none
def H5 (a v:Int)(st:TS):Option TS:=match gt st.lo a with
 |none=>none
 |some w=>some { st with lo:=st.lo.set a.toNat (mn w v) }
def tp:Nat->Int->TS->Int->Option (TS×Int)
 |0,_,_,_=>none
 |k+1,a,st,n=>match st.im.getLast? with
  |none=>none
  |some x=>
   if (gt st.on x).isSome/\(gt st.nn x).isSome/\st.im.length<=cF then
    let st1:={ st with im:=st.im.dropLast,on:=st.on.set x.toNat false,nn:=st.nn.set x.toNat (st.fL.length:Int) }
    if x=a then some (st1,IntKind.i64.wrap (n+1)) else tp k a st1 (IntKind.i64.wrap (n+1))
   else none
mutual
def tv:Nat->List av->Int->TS->Option TS
 |0,_,_,_=>none
 |k+1,N,a,st=>match Ha a st with
  |none=>none
  |some st1=>match gt N a with
   |none=>none
   |some x=>match tl k N a x.keys st1 with
    |none=>none
    |some za=>match tl k N a x.items za with
     |none=>none
     |some st3=>match gt st3.lo a,gt st3.ix a with
      |some l,some i=>
       if l≠i then some st3 else match tp k a st3 0 with
        |none=>none
        |some (st4,n)=>if st4.fL.length+1<=cF then some { st4 with fL:=st4.fL++[n] } else none
      |_,_=>none
def tl:Nat->List av->Int->ε->TS->Option TS
 |0,_,_,_,_=>none
 |_+1,_,_,[],st=>some st
 |k+1,N,a,x::xs,st=>match ts k N a x st with
  |none=>none
  |some st1=>tl k N a xs st1
def ts:Nat->List av->Int->Int->TS->Option TS
 |0,_,_,_,_=>none
 |k+1,N,a,x,st=>match gt st.ix x with
  |none=>none
  |some i=>
   if i=0 then match tv k N x st with
    |none=>none
    |some st1=>match gt st1.lo x with
     |none=>none
     |some l=>H5 a l st1
   else match gt st.on x with
    |none=>none
    |some false=>some st
    |some true=>H5 a i st
end
structure TC where
 c1:Nat
 c2:Nat
 c3:Nat
 c4:Nat
 c5:Nat
 c6:Nat
 c7:Nat
 c8:Nat
 c9:Nat
 bi:Nat
 bl:Nat
 bn:Nat
 bo:Nat
def pv (b:Nat):ξ:=Value.pointer (some (al b))
def fnC (C:TC):ξ:=Value.func (Fn.func mG) #[] #[pv C.c1,pv C.c2,pv C.c3,pv C.c4,pv C.c5,pv C.c6,pv C.c7,pv C.c8,pv C.c9]
def fnS (C:TC)(b:Nat):ξ:=Value.func (Fn.func kK) #[] #[pv C.c2,pv C.c6,pv C.c3,pv b,pv C.c5]
def arr (b m:Nat):Sl:=⟨some ⟨b,0,none⟩,m,m+1⟩
def TL (C : TC)(m : Nat)(s : Sl)(root : Int)(st : TS)(s1 s2 : Sl)(g1 g2 : Nat) : List bG:=
  [.au C.c1 [vi st.next] an, .au C.c2 [aI (arr C.bi m)] aR, .au C.c3 [aI (arr C.bl m)] aR, .au C.c4 [aI s1] aR, .au C.c5 [aI (arr C.bo m)] vw, .au C.c6 [fnC C] tB,
   .au C.c7 [aI s, vi root] aj, .au C.c8 [aI s2] aR, .au C.c9 [aI (arr C.bn m)] aR,
   .au C.bi (st.ix.map vi) an, .au C.bl (st.lo.map vi) an, .au C.bn (st.nn.map vi) an, .au C.bo (st.on.map .bool) Bp,
   .ps s1 1 an (st.im.map vi) g1, .ps s2 1 an (st.fL.map vi) g2]
structure QH (m:Nat) (st:TS):Prop where
 ix:st.ix.length=m
 lo:st.lo.length=m
 nn:st.nn.length=m
 on:st.on.length=m
def TZ (C:TC)(m:Nat)(s:Sl)(root:Int)(h0 h:ai)(st:TS)(E:List bG):Prop:=
 QH m st/\∃s1 s2 g1 g2,Z h0 h (TL C m s root st s1 s2 g1 g2++E)
theorem _root_.Go.Ago.Z.Og (z:Z h0 h L)(i:Nat){b m:Nat}{e:κ}{c:ε}{a v:Int}{f:Int->M β}(hg:gt c a=some v)(hm:c.length=m)(q:Wp (f v) h Q)(hi:L[i]?=some (.au b (c.map vi) e):=by rfl) :
  Wp (sh (ar (arr b m) a 1) λp=>sh (aq li p) f) h Q:=by
 obtain⟨g1,g2⟩:=aC hg;have hlt:=aL g2;refine Ek g1 (by omega) ?_;exact z.ld i q hi (by rw[ae1,abE,g2];rfl) rfl
theorem _root_.Go.Ago.Z.rdB (z:Z h0 h L)(i:Nat){b m:Nat}{e:κ}{c:List Bool}{a:Int}{v:Bool}{f:Bool->M β}(hg:gt c a=some v)(hm:c.length=m)(q:Wp (f v) h Q)(hi:L[i]?=some (.au b (c.map .bool) e):=by rfl) :
  Wp (sh (ar (arr b m) a 1) λp=>sh (aq .bool p) f) h Q:=by
 obtain⟨g1,g2⟩:=aC hg;have hlt:=aL g2;refine Ek g1 (by omega) ?_;exact z.ld i q hi (by rw[ae1,abE,g2];rfl) rfl
theorem NJ {c:List α}{a}(hg:(gt c a).isSome=true):0<=a/\a.toNat<c.length/\∃v,gt c a=some v:=by
 cases h1:gt c a with
 |none=>rw[h1] at hg;cases hg
 |some v=>exact⟨(aC h1).1,aL (aC h1).2,v,rfl⟩
theorem A8 {b m a}(h1:0<=a)(h2:a.toNat<m){f}(q:Wp (f ⟨b,a.toNat,none⟩) h Q):Wp (sh (ar (arr b m) a 1) f) h Q:=by
 refine Ek h1 (by omega) ?_;rw[ae1];exact q
theorem last_cases {l:List α}{x}(hl:l.getLast?=some x):l=l.dropLast++[x]:=by
 cases l with
 |nil=>cases hl
 |cons a r=>
  grind [List.getLast?_eq_some_getLast,Option.some.inj,List.dropLast_concat_getLast]
theorem aht {C m s root b} :
  ∀k n a st r v w h E ,k<=n->tp k a st v=some (r,w)->TZ C m s root h0 h st (.au b [vi a] an::E) ->
   Wp (cZ n (al C.c4) (al C.c5) (al C.c8) (al C.c9) (al b) v) h λy h'=>y=w/\TZ C m s root h0 h' r (.au b [vi a] an::E):=by
 intro k
 induction k with
 |zero=>intro n a st r v w h E _ hv;cases hv
 |succ k ih=>
  intro n a st r v w h E hn hv tz;obtain⟨n,rfl⟩:∃m,n=m+1:=⟨n-1,by omega⟩;rw[vN];unfold gT;rw[tp] at hv;cases hx:st.im.getLast? with
  |none=>rw[hx] at hv;cases hv
  |some x=>
   rw[hx] at hv;simp only at hv;split at hv
   case isFalse=>cases hv
   rename_i hc;obtain⟨x1,x2,_⟩:=NJ hc.1;obtain⟨_,x3,_⟩:=NJ hc.2.1;obtain⟨ok,s1,s2,g1,g2,z⟩:=tz;have hst:=last_cases hx;have hps:xl h s1 1 an (st.im.map vi) g1:=z.get 13 rfl;have hlen:s1.len=st.im.length:=hps.Dm.Dn;have hl2:=ah7 List.length hst;simp at hl2;have hpos:st.im.length≠0:=λe=>by grind
   have hbnd:s1.len<9223372036854775808:=by
    grind [cF]
   have e1:IntKind.i64.wrap ((s1.len:Int)-1)=((s1.len:Nat):Int)-1:=IntWalk.i64_in _ ⟨by omega,by omega⟩;refine z.ld 3 ?_;refine z.ld 3 ?_;rw[e1];refine hps.Dm.VZ (v:=x) (by omega) ?_ λad cl=>cl.rD rfl rfl ?_
   .rw[List.getLast?_eq_getElem?] at hx;rw[<-hx];congr 1;omega
   refine z.ld 3 ?_;refine z.ld 3 ?_;rw[e1];refine z.ag2 13 (by show some (bG.ps s1 1 an (st.im.map vi) g1)=_;(conv=>lhs;rw[hst]);rw[ag3];rfl) λs1' hs1 z=>?_
   refine z.st 3 λh1 z=>?_;refine z.ld 4 ?_;refine A8 x1 (by rw[<-ok.on];exact x2) ?_;refine z.A3 12 x2 λh2 z=>?_;refine z.ld 8 ?_;refine z.ld 7 ?_;refine A8 x1 (by rw[<-ok.nn];exact x3) ?_;have hsz:s2.len=st.fL.length:=(xl.Dm (z.get 14 rfl)).Dn;rw[hsz];refine z.A3 11 x3 λh3 z=>?_;refine z.ld 15 ?_;have tz:TZ C m s root h0 h3 { st with im:=st.im.dropLast,on:=st.on.set x.toNat false,nn:=st.nn.set x.toNat (st.fL.length:Int) } (.au b [vi a] an::E):=
    ⟨⟨ok.ix,ok.lo,by simp[ok.nn],by simp[ok.on]⟩,s1',s2,g1,g2,z⟩
   by_cases hxa:x=a
   .rw[By hxa] at hv;cases hv;rw[By (by simpa using hxa),ag];exact⟨rfl,tz⟩
   .rw[AT hxa] at hv;rw[AT (by simpa using hxa)];exact ih n a _ r _ w h3 E (by omega) hv tz
theorem ahu {C m s root N}(G:oI h0 s N){B}(hB:Bd N B) :
  ∀k ,(∀n a st r h E ,k<=n->tv k N a st=some r->TZ C m s root h0 h st E ->
    Wp (cU n a (al C.c1) (al C.c2) (al C.c3) (al C.c4) (al C.c5) (al C.c6) (al C.c7) (al C.c8) (al C.c9)) h λ_ h'=>TZ C m s root h0 h' r E) /\
   (∀n a b sl xs i st r h E ,k<=n->tl k N a (xs.drop i) st=some r->IL h0 sl xs->i<=xs.length->xs.length<=B->TZ C m s root h0 h st (.au b [vi a] an::E) ->
    Wp (db n (al C.c2) (al C.c3) (al C.c4) (al C.c5) (al C.c7) (al C.c8) (al C.c9) (al b) (fnS C b) sl (sl.len:Int) (i:Int)) h λ_ h'=>TZ C m s root h0 h' r (.au b [vi a] an::E)) /\
   (∀n a b sl xs i st r h E ,k<=n->tl k N a (xs.drop i) st=some r->IL h0 sl xs->i<=xs.length->xs.length<=B->TZ C m s root h0 h st (.au b [vi a] an::E) ->
    Wp (da n (al C.c2) (al C.c3) (al C.c4) (al C.c5) (al C.c8) (al C.c9) (al b) (fnS C b) sl (sl.len:Int) (i:Int)) h λ_ h'=>TZ C m s root h0 h' r (.au b [vi a] an::E)) /\
   (∀n a x b st r h E ,k<=n->ts k N a x st=some r->TZ C m s root h0 h st (.au b [vi a] an::E) ->
    Wp (cH n x (al C.c2) (al C.c6) (al C.c3) (al b) (al C.c5)) h λ_ h'=>TZ C m s root h0 h' r (.au b [vi a] an::E)):=by
 intro k
 induction k with
 |zero=>grind [tv,tl,ts]
 |succ k ih=>
  obtain⟨ih1,ih2,ih3,ih4⟩:=ih;refine⟨λn a st r h E hn hv tz=>?_,λn a b sl xs i st r h E hn hv il hi hxB tz=>?_,λn a b sl xs i st r h E hn hv il hi hxB tz=>?_,λn a x b st r h E hn hv tz=>?_⟩
  .obtain⟨n,rfl⟩:∃m,n=m+1:=⟨n-1,by omega⟩;rw[xu];unfold jA;rw[tv] at hv;cases hp:Ha a st with
   |none=>rw[hp] at hv;cases hv
   |some st1=>
   rw[hp] at hv;simp only at hv;unfold Ha at hp;split at hp
   case isFalse=>cases hp
   rename_i hc;obtain⟨c1,c2,c3,c4,c5⟩:=hc;obtain⟨a1,a2,_⟩:=NJ c3;obtain⟨_,a3,_⟩:=NJ c4;obtain⟨_,a4,_⟩:=NJ c5;have hp:=adP hp;obtain⟨ok,s1,s2,g1,g2,z⟩:=tz;refine z.new λb h1 z _=>?_;have z:=z.perm List.perm_middle.symm;refine z.ld 0 ?_;refine z.st 0 λh2 z=>?_;refine z.ld 1 ?_;refine z.ld 15 ?_;refine z.ld 2 ?_;refine z.ld 15 ?_;refine z.ld 0 ?_;refine A8 a1 (by rw[<-ok.ix];exact a2) ?_;refine z.ld 0 ?_;refine z.aes 9 a2 ?_ λh3 z=>?_
   .intro a' ha';simp at ha';rcases ha' with rfl|rfl|rfl
    .exact z.nbO 9 2 rfl rfl (by decide)
    .exact z.nbO 9 15 rfl rfl (by decide)
    .exact z.nbO 9 0 rfl rfl (by decide)
   refine A8 a1 (by rw[<-ok.lo];exact a3) ?_;refine z.A3 10 a3 λh4 z=>?_;refine z.ld 3 ?_;refine z.ld 15 ?_;have hps:xl h4 s1 1 an (st.im.map vi) g1:=z.get 13 rfl;have hlen:s1.len=st.im.length:=hps.Dm.Dn;refine z.Sw 13 (new:=[vi a]) rfl (by decide) rfl (by grind) λs1' h5 g1' hs1 z _=>?_;refine z.st 3 λh6 z=>?_;refine z.ld 4 ?_;refine z.ld 15 ?_;refine A8 a1 (by rw[<-ok.on];exact a4) ?_;refine z.A3 12 a4 λh7 z=>?_;have tz:TZ C m s root h0 h7 st1 (.au b [vi a] an::E):=by
    subst hp;refine⟨⟨by simp[ok.ix],by simp[ok.lo],ok.nn,by simp[ok.on]⟩,s1',s2,g1',g2,?_⟩;have:(st.im++[a]).map vi=st.im.map vi++[vi a]:=(by simp);unfold TL;simp only;rw[this];exact z
   clear z hps hlen;obtain⟨ok,s1,s2,g1,g2,z⟩:=tz;cases hx:gt N a with
   |none=>rw[hx] at hv;cases hv
   |some x=>
   rw[hx] at hv;simp only at hv;obtain⟨x1,x2⟩:=aC hx;have hb:=hB.2.2 x (BY x2);cases hk:tl k N a x.keys st1 with
   |none=>rw[hk] at hv;cases hv
   |some za=>
   rw[hk] at hv;simp only at hv;cases hi:tl k N a x.items za with
   |none=>rw[hi] at hv;cases hv
   |some st3=>
   rw[hi] at hv;simp only at hv;refine z.ld 6 ?_;refine z.ld 15 ?_;refine G.at z x1 x2 λad ks is nd ik ii=>nd.HI ?_;rw[ah];refine (ih2 n a b ks x.keys 0 st1 za _ E (by omega) hk ik (by omega) hb.1 ⟨ok,s1,s2,g1,g2,z⟩).mono λ_ h8 tz=>?_;obtain⟨ok,s1,s2,g1,g2,z⟩:=tz;refine z.ld 6 ?_;refine z.ld 15 ?_;refine G.at z x1 x2 λad2 ks2 is2 nd2 ik2 ii2=>nd2.HJ ?_;rw[ah];refine (ih3 n a b is2 x.items 0 za st3 _ E (by omega) hi ii2 (by omega) hb.2 ⟨ok,s1,s2,g1,g2,z⟩).mono λ_ h9 tz=>?_;obtain⟨ok,s1,s2,g1,g2,z⟩:=tz;cases hl:gt st3.lo a with
   |none=>rw[hl] at hv;cases hv
   |some l=>
   cases hj:gt st3.ix a with
   |none=>rw[hl,hj] at hv;cases hv
   |some j=>
   rw[hl,hj] at hv;simp only at hv;refine z.ld 2 ?_;refine z.ld 15 ?_;refine z.Og 10 hl ok.lo ?_;refine z.ld 1 ?_;refine z.ld 15 ?_;refine z.Og 9 hj ok.ix ?_;have fin:∀{h':ai} {r:TS},TZ C m s root h0 h' r (.au b [vi a] an::E)->TZ C m s root h0 h' r E:=λtz=>by
    obtain⟨ok,s1,s2,g1,g2,z⟩:=tz;exact⟨ok,s1,s2,g1,g2,(z.perm aiK).drop⟩
   by_cases hlj:l=j
   .rw[AT (by simpa using hlj)] at hv;rw[AT (by simpa using hlj)];cases ht:tp k a st3 0 with
    |none=>rw[ht] at hv;cases hv
    |some q=>
    obtain⟨st4,w⟩:=q;rw[ht] at hv;simp only at hv;split at hv
    case isFalse=>cases hv
    rename_i hcs;cases hv;rw[ah];refine (aht k n a st3 st4 0 w h9 E (by omega) ht ⟨ok,s1,s2,g1,g2,z⟩).mono λy h10 hy=>?_;obtain⟨rfl,ok,s1,s2,g1,g2,z⟩:=hy;refine z.ld 7 ?_;have hsz:s2.len=st4.fL.length:=(xl.Dm (z.get 14 rfl)).Dn;refine z.Sw 14 (new:=[vi y]) rfl (by decide) rfl (by grind) λs2' h11 g2' hs2 z _=>?_;refine z.st 7 λh12 z=>?_;rw[ag];refine fin ⟨⟨ok.ix,ok.lo,ok.nn,ok.on⟩,s1,s2',g1,g2',?_⟩;have:(st4.fL++[y]).map vi=st4.fL.map vi++[vi y]:=(by simp);unfold TL;simp only;rw[this];exact z
   .rw[By (by simpa using hlj)] at hv;cases hv;rw[By (by simpa using hlj),ag];exact fin ⟨ok,s1,s2,g1,g2,z⟩
  .obtain⟨n,rfl⟩:∃m,n=m+1:=⟨n-1,by omega⟩;rw[vP];unfold gV;rw[il.len];by_cases hi2:i<xs.length
   .rw[By (by simp;omega)];obtain⟨x,hx⟩:=eY hi2;rw[drop_cons hx,tl] at hv;cases hs:ts k N a x st with
    |none=>rw[hs] at hv;cases hv
    |some st1=>
     rw[hs] at hv;simp at hv;have fr:Fr (λ_=>False) h0 h:=(by obtain⟨_,_,_,_,_,z⟩:=tz;exact z.fr);refine (il.fr fr).ix (by omega) (by simpa using hx) λa1 g c=>c.rD rfl rfl ?_;unfold cG;rw[ah,By (by rfl),ah];refine jn (c:=(al C.c2,al C.c6,al C.c3,al b,al C.c5)) rfl ?_;refine (ih4 n a x b st st1 h E (by omega) hs tz).mono λ_ h2 tz=>?_;rw[vk hi (by have:=hB.2.1;omega)];have:=ih2 n a b sl xs (i+1) st1 r h2 E (by omega) hv il (by omega) hxB tz
     rwa [il.len] at this
   .rw[AT (by simp;omega),ag]
    grind [List.drop_eq_nil_of_le,tl]
  .obtain⟨n,rfl⟩:∃m,n=m+1:=⟨n-1,by omega⟩;rw[vO];unfold gU;rw[il.len];by_cases hi2:i<xs.length
   .rw[By (by simp;omega)];obtain⟨x,hx⟩:=eY hi2;rw[drop_cons hx,tl] at hv;cases hs:ts k N a x st with
    |none=>rw[hs] at hv;cases hv
    |some st1=>
     rw[hs] at hv;simp at hv;have fr:Fr (λ_=>False) h0 h:=(by obtain⟨_,_,_,_,_,z⟩:=tz;exact z.fr);refine (il.fr fr).ix (by omega) (by simpa using hx) λa1 g c=>c.rD rfl rfl ?_;unfold jq cG;rw[ah,By (by rfl),ah];refine jn (c:=(al C.c2,al C.c6,al C.c3,al b,al C.c5)) rfl ?_;refine (ih4 n a x b st st1 h E (by omega) hs tz).mono λ_ h2 tz=>?_;rw[vk hi (by have:=hB.2.1;omega)];have:=ih3 n a b sl xs (i+1) st1 r h2 E (by omega) hv il (by omega) hxB tz
     rwa [il.len] at this
   .rw[AT (by simp;omega),ag]
    grind [List.drop_eq_nil_of_le,tl]
  .obtain⟨n,rfl⟩:∃m,n=m+1:=⟨n-1,by omega⟩;rw[wx];unfold iC;rw[ts] at hv;cases hx:gt st.ix x with
   |none=>rw[hx] at hv;cases hv
   |some i=>
   rw[hx] at hv;simp at hv;obtain⟨ok,s1,s2,g1,g2,z⟩:=tz;refine z.ld 1 ?_;refine z.Og 9 hx ok.ix ?_;by_cases hi0:i=0
   .rw[By hi0] at hv;rw[By (by simpa using hi0)];cases hv1:tv k N x st with
    |none=>rw[hv1] at hv;cases hv
    |some st1=>
    rw[hv1] at hv;simp at hv;refine z.ld 5 ?_;unfold iB;rw[ah,By (by rfl),ah];refine jn (c:=(al C.c1,al C.c2,al C.c3,al C.c4,al C.c5,al C.c6,al C.c7,al C.c8,al C.c9)) rfl ?_;refine (ih1 n x st st1 h _ (by omega) hv1 ⟨ok,s1,s2,g1,g2,z⟩).mono λ_ h2 tz=>?_;obtain⟨ok,s1,s2,g1,g2,z⟩:=tz;cases hl:gt st1.lo x with
    |none=>rw[hl] at hv;cases hv
    |some l=>
    rw[hl] at hv;simp at hv;unfold H5 at hv;cases hw:gt st1.lo a with
    |none=>rw[hw] at hv;cases hv
    |some w=>
    rw[hw] at hv;have hv:=adP hv;refine z.ld 2 ?_;refine z.ld 15 ?_;refine z.ld 2 ?_;refine z.ld 15 ?_;refine z.Og 10 hw ok.lo ?_;refine z.ld 2 ?_;refine z.Og 10 hl ok.lo ?_;obtain⟨w1,w2⟩:=aC hw;refine A8 w1 (by rw[<-ok.lo];exact aL w2) ?_;refine z.A3 10 (v:=mn w l) (aL w2) λh3 z=>?_;rw[ag,<-hv];exact⟨⟨ok.ix,by simp[ok.lo],ok.nn,ok.on⟩,s1,s2,g1,g2,z⟩
   .rw[AT hi0] at hv;rw[AT (by simpa using hi0)];cases ho:gt st.on x with
    |none=>rw[ho] at hv;cases hv
    |some o=>
    rw[ho] at hv;refine z.ld 4 ?_;refine z.rdB 12 ho ok.on ?_;cases o with
    |false=>
     cases hv;rw[AT (by simp),ag];exact⟨ok,s1,s2,g1,g2,z⟩
    |true=>
     simp at hv;rw[By rfl];unfold H5 at hv;cases hw:gt st.lo a with
     |none=>rw[hw] at hv;cases hv
     |some w=>
     rw[hw] at hv;have hv:=adP hv;refine z.ld 2 ?_;refine z.ld 15 ?_;refine z.ld 2 ?_;refine z.ld 15 ?_;refine z.Og 10 hw ok.lo ?_;refine z.ld 1 ?_;refine z.Og 9 hx ok.ix ?_;obtain⟨w1,w2⟩:=aC hw;refine A8 w1 (by rw[<-ok.lo];exact aL w2) ?_;refine z.A3 10 (v:=mn w i) (aL w2) λh3 z=>?_;rw[ag,<-hv];exact⟨⟨ok.ix,by simp[ok.lo],ok.nn,ok.on⟩,s1,s2,g1,g2,z⟩
end
section
variable {α β:Type}{h h' h0:ai}{L:List bG}{Q:β->ai->Prop}
def oA (m:Nat):TS:=⟨0,List.replicate m 0,List.replicate m 0,List.replicate m (-1),List.replicate m false,[],[]⟩
def comp (k:Nat)(N:List av)(root:Int):Option (ε×ε):=(tv k N root (oA N.length)).map λst=>(st.nn,st.fL)
theorem Yj {m i}(hi:i<m):(List.replicate i (-1:Int)++List.replicate (m-i) 0).set i (-1)=List.replicate (i+1) (-1)++List.replicate (m-(i+1)) 0:=by
 have e:m-i=(m-(i+1))+1:=by omega
 rw[ah9 _ _ (by simp),e,ah3,adV,aio,ahZ,ajt,agm];rfl
theorem abA {bn c9 m}(hm:m<1073741824){o1 o2 o3 o4} a0 a1 a2 a3 :
  ∀n i h ,m-i<n->i<=m->Z h0 h (o1::o2::.au bn ((List.replicate i (-1)++List.replicate (m-i) 0).map vi) an::o3::o4::.au c9 [aI (arr bn m)] aR::L) ->
   Wp (fh n a0 a1 a2 a3 (al c9) (m:Int) (i:Int)) h λ_ h'=>Z h0 h' (o1::o2::.au bn ((List.replicate m (-1)).map vi) an::o3::o4::.au c9 [aI (arr bn m)] aR::L):=by
 intro n
 induction n with
 |zero=>intro i h h1;omega
 |succ n ih=>
  intro i h h1 h2 z;rw[w6];unfold jd;by_cases hi:i<m
  .rw[By (by simp;omega)];refine z.ld 5 (x:=arr bn m) ?_;refine A8 (by omega) (by omega) ?_;rw[aa1];refine z.A3 2 (xs:=List.replicate i (-1)++List.replicate (m-i) 0) (by grind) λh3 z=>?_;rw[vk h2 (by omega)];rw[Yj hi] at z;exact ih (i+1) h3 (by omega) (by omega) z
  .rw[AT (by simp;omega),ag];have:i=m:=by omega
   simp_all
theorem H6 {s root N}(z:Z h0 h L)(G:oI h0 s N){B}(hB:Bd N B){k n}(hk:k<=n)(hn:B+2<n){nn fL}(hv:comp k N root=some (nn,fL)) :
  Wp (lr n (s,root)) h λx h'=>nn.length=N.length/\∃bn s2 g2,x=(arr bn N.length,s2)/\Z h0 h' (.au bn (nn.map vi) an::.ps s2 1 an (fL.map vi) g2::L):=by
 unfold lr;unfold comp at hv;cases ht:tv k N root (oA N.length) with
 |none=>rw[ht] at hv;cases hv
 |some st=>
 rw[ht] at hv;have hv:=adP hv;have e1:st.nn=nn:=ah7 Prod.fst hv;have e2:st.fL=fL:=ah7 Prod.snd hv;subst e1 e2;have hb1:(N.length:Int)<=cF:=by have:=hB.1;have:=hB.2.1;unfold cF;omega
 refine z.new λx0 h1 z _=>?_;refine z.ld 0 ?_;rw[G.len];refine z.dz [1,3,5,6,7,8] (by decide) (by decide) λnb h2 z=>?_;refine z.aaA 0 (by omega) hb1 λh3 z=>?_;refine z.aaA 1 (by omega) hb1 λh4 z=>?_;refine z.aaA 2 (by omega) hb1 λh5 z=>?_;rw[aa1] at z⊢;rw[oP] at z;refine z.newAt 3 λh6 z=>z.newAt 4 λh7 z=>z.newAt 5 λh8 z=>?_;refine z.yN 3 (by simp_all) ?_;refine z.stC 3 (by intro a ha;simp at ha) λh9 z=>?_;refine z.yN 4 (by grind) ?_;refine z.stC 4 (by intro a ha;simp at ha) λh10 z=>?_;refine z.st 5 λh11 z=>?_;refine z.ld 5 ?_;rw[ah];refine (abA (m:=N.length) (by have:=hB.1;have:=hB.2.1;omega) (al x0) (N.length:Int) (al (nb+6)) (al (nb+7)) n 0 h11 (by have:=hB.1;omega) (by omega) z).mono λ_ h12 z=>?_;refine z.new λb14 h13 z _=>?_;refine z.new λb15 h14 z _=>?_;refine z.EC (by omega) hb1 λbo h15 z _=>?_;rw[aa1] at z⊢;rw[oP] at z;refine z.new λb17 h16 z _=>z.st 0 λh17 z=>?_;refine z.new λb19 h18 z _=>z.st 0 λh19 z=>?_;refine z.new λb21 h20 z _=>z.st 0 λh21 z=>?_;refine z.ld 0 ?_;refine z.ld 12 (x:=root) ?_;have z:=z.add (Fr.refl z.wf) (o:=.ps ⟨none,0,0⟩ 1 an [] 0) xl.nil (.inl rfl);have z:=z.add (Fr.refl z.wf) (o:=.ps ⟨none,0,0⟩ 1 an [] 0) xl.nil (.inl rfl);have z:=Z.lX (pre:=[_,_,_,_,_,_,_,_,_,_,_,_,_,_,_]) z [3,11,12,6,4,2,14,7,13,8,9,10,5,0,1] (by simp only[acp,adT];decide);have tz:TZ ⟨b19,nb+6,nb+7,b15,b17,b21,x0,b14,nb+8,nb+1,nb+3,nb+5,bo⟩ N.length s root h0 h21 (oA N.length) L:=
  ⟨⟨by simp[oA],by simp[oA],by simp[oA],by simp[oA]⟩,⟨none,0,0⟩,⟨none,0,0⟩,0,0,z⟩
 unfold jC;rw[ah,By (by rfl),ah];refine jn (c:=(al b19,al (nb+6),al (nb+7),al b15,al b17,al b21,al x0,al b14,al (nb+8))) rfl ?_;refine ((ahu G hB k).1 n root _ st h21 L hk ht tz).mono λ_ h22 tz=>?_;obtain⟨ok,s1,s2,g1,g2,z⟩:=tz;refine z.ld 8 ?_;refine z.ld 7 ?_;rw[ag];exact⟨ok.nn,nb+5,s2,g2,rfl,z.sub ((List.Sublist.cons _<|List.Sublist.cons _<|List.Sublist.cons _<|List.Sublist.cons _<|List.Sublist.cons _<|List.Sublist.cons _<|List.Sublist.cons _<|List.Sublist.cons _<|List.Sublist.cons _<|List.Sublist.cons _<|List.Sublist.cons _<|List.Sublist.cons₂ _<|List.Sublist.cons _<|List.Sublist.cons _<|List.Sublist.cons₂ _ (ajd L)))⟩
end
section
variable {α β:Type}{h h' h0:ai}{L:List bG}{Q:β->ai->Prop}
def mx (p q:Int):Int:=if p<q then q else p
def mem:Nat->ε->List ε->Option (List ε)
 |_,[],X=>some X
 |i,c::cs,X=>match gt X c with
  |none=>none
  |some xs=>mem (i+1) cs (X.set c.toNat (xs++[(i:Int)]))
def dR (nn:ε)(c:Int):ε->ε->Bool->Option (ε×Bool)
 |[],b,a=>some (b,a)
 |x::xs,b,a=>match gt nn x with
  |none=>none
  |some d=>if d=c then dR nn c xs b false else match gt b c,gt b d with
   |some p,some q=>dR nn c xs (b.set c.toNat (mx p q)) a
   |_,_=>none
def dM (N:List av)(nn:ε)(c:Int):ε->ε->Bool->Option (ε×Bool)
 |[],b,a=>some (b,a)
 |i::is,b,a=>match gt N i with
  |none=>none
  |some x=>match dR nn c x.keys b a with
   |none=>none
   |some (b1,a1)=>match dR nn c x.items b1 a1 with
    |none=>none
    |some (b2,a2)=>dM N nn c is b2 a2
def dC (N:List av)(nn:ε):Nat->List (ε×Int)->ε->Bool->Option (ε×Bool)
 |_,[],b,a=>some (b,a)
 |c,(xs,sz)::r,b,a=>match dM N nn (c:Int) xs b a with
  |none=>none
  |some (b1,a1)=>match gt b1 (c:Int) with
   |none=>none
   |some p=>dC N nn (c+1) r (b1.set c (IntKind.i64.wrap (p+sz))) a1
def dep (k:Nat)(N:List av)(root:Int):Option (Int×Bool):=match comp k N root with
 |none=>none
 |some (nn,fL)=>if fL.length<=N.length then match mem 0 nn (List.replicate fL.length []) with
  |none=>none
  |some X=>match dC N nn 0 (X.zip fL) (List.replicate fL.length 0) true with
   |none=>none
   |some (b,a)=>match gt nn root with
    |none=>none
    |some c=>match gt b c with
     |none=>none
     |some v=>some (IntKind.i64.wrap (v-1),a)
  else none
theorem Ru:∀{cs} {i} {X Y},mem i cs X=some Y->Y.length=X.length
 |[],i,X,Y,he=>by cases he;rfl
 |c::cs,i,X,Y,he=>by
  rw[mem] at he;cases hg:gt X c with
  |none=>rw[hg] at he;cases he
  |some xs=>rw[hg] at he;rw[Ru he,ag8]
theorem Yk:∀{cs} {i} {X Y},mem i cs X=some Y->(∀xs∈X,xs.length<=i)->∀xs∈Y,xs.length<=i+cs.length
 |[],i,X,Y,he,hX=>by cases he;simpa using hX
 |c::cs,i,X,Y,he,hX=>by
  rw[mem] at he;cases hg:gt X c with
  |none=>rw[hg] at he;cases he
  |some xs=>
   rw[hg] at he;intro ys hy;have:=Yk he (λzs hz=>?_) ys hy
   .simp;omega
   .rcases aib hz with hz|rfl
    .have:=hX zs hz;omega
    .have:=hX xs (BY (aC hg).2);simp;omega
theorem BR {nn c}:∀{xs b} {a} {b'} {a'},dR nn c xs b a=some (b',a')->b'.length=b.length
 |[],b,a,b',a',he=>by cases he;rfl
 |x::xs,b,a,b',a',he=>by
  rw[dR] at he;split at he
  .cases he
  .split at he
   .exact BR he
   .split at he
    .rw[BR he,ag8]
    .cases he
theorem P8 {N nn c}:∀{xs b} {a} {b'} {a'},dM N nn c xs b a=some (b',a')->b'.length=b.length
 |[],b,a,b',a',he=>by cases he;rfl
 |x::xs,b,a,b',a',he=>by
  rw[dM] at he;split at he
  .cases he
  .split at he
   .cases he
   .rename_i h1;split at he
    .cases he
    .rename_i h2;rw[P8 he,BR h2,BR h1]
theorem Yl {N nn}:∀{r} {c} {b} {a} {b'} {a'},dC N nn c r b a=some (b',a')->b'.length=b.length
 |[],c,b,a,b',a',he=>by cases he;rfl
 |(xs,sz)::r,c,b,a,b',a',he=>by
  rw[dC] at he;split at he
  .cases he
  .rename_i h1;split at he
   .cases he
   .rw[Yl he,ag8,P8 h1]
structure ME where
 s:Sl
 g:Nat
 xs:ε
def ME.own (e:ME):bG:=.ps e.s 1 an (e.xs.map vi) e.g
def DL (bb bn x0 bm:Nat)(s2 s:Sl)(g2:Nat)(root:Int)(nn fL b:ε)(M:List ME):List bG:=
 [.au bb (b.map vi) an,.au bn (nn.map vi) an,.ps s2 1 an (fL.map vi) g2,.au x0 [aI s,vi root] aj,.au bm ((M.map ME.s).map aI) aR]
theorem afx {M:List ME}{c e}(he:M[c]?=some e){bb bn x0 bm s2 s g2 root nn fL b M'} :
  (DL bb bn x0 bm s2 s g2 root nn fL b M'++(M.map ME.own++L))[c+5]?=some (.ps e.s 1 an (e.xs.map vi) e.g):=by
 simp[DL,adS,ahI,List.getElem?_cons_succ];rw[agI (by simpa using aL he),abE,he];rfl
theorem afy {bb bn x0 bm s2 s g2 root nn fL b m}(hm:nn.length=m)(hb:m<1073741824) a4 a3 a2 a1 :
  ∀n i h M X ,m-i<n->i<=m->mem i (nn.drop i) (M.map ME.xs)=some X->(∀e∈M,e.xs.length<=i)->Z h0 h (DL bb bn x0 bm s2 s g2 root nn fL b M++(M.map ME.own++L)) ->
   Wp (jI n (al x0) a1 a2 a3 a4 (arr bm M.length) (arr bn m) (m:Int) (i:Int)) h λ_ h'=>∃M',M'.map ME.xs=X/\Z h0 h' (DL bb bn x0 bm s2 s g2 root nn fL b M'++(M'.map ME.own++L)):=by
 intro n
 induction n with
 |zero=>intro i h M X h1;omega
 |succ n ih=>
  intro i h M X h1 h2 hv hle z;rw[AQ];unfold oi;by_cases hi:i<m
  .rw[By (by simp;omega)];obtain⟨c,hc⟩:=eY (l:=nn) (i:=i) (by omega);rw[drop_cons hc,mem] at hv;cases hg:gt (M.map ME.xs) c with
   |none=>rw[hg] at hv;cases hv
   |some xs=>
   rw[hg] at hv;simp at hv;obtain⟨g1,gg⟩:=aC hg;rw[abE] at gg;cases hM:M[c.toNat]? with
   |none=>rw[hM] at gg;cases gg
   |some e=>
   rw[hM] at gg;have gg:e.xs=xs:=adP gg;have hlt:=aL hM;refine z.Og 1 (by unfold gt;rw[By (by omega)];simpa using hc) hm ?_;refine A8 g1 hlt ?_;refine z.ld 4 (x:=e.s) ?_ rfl (by rw[abE,abE,hM];rfl) rfl;have hown:=afx (L:=L) hM (bb:=bb) (bn:=bn) (x0:=x0) (bm:=bm) (s2:=s2) (s:=s) (g2:=g2) (root:=root) (nn:=nn) (fL:=fL) (b:=b) (M':=M);have hlen:e.s.len=e.xs.length:=(xl.Dm (z.get _ hown)).Dn;have hel:=hle e (BY hM);refine z.Sw (c.toNat+5) (new:=[vi (i:Int)]) hown (by decide) rfl (by unfold cF;omega) λs' h3 g' hs' z _=>?_;refine A8 g1 hlt ?_;refine z.A3 4 (xs:=M.map ME.s) (by simpa using hlt) (λh4 z=>?_);rw[vk h2 (by omega)];have hl':(M.set c.toNat ⟨s',g',e.xs++[(i:Int)]⟩).length=M.length:=by simp
   have z:Z h0 h4 (DL bb bn x0 bm s2 s g2 root nn fL b (M.set c.toNat ⟨s',g',e.xs++[(i:Int)]⟩)++((M.set c.toNat ⟨s',g',e.xs++[(i:Int)]⟩).map ME.own++L)):=by
    refine z.perm (List.Perm.of_eq ?_);simp only[DL,adS,ahI,aij,ahZ]
    grind [List.set_append_left,List.map_set,ME.own]
   have:=ih (i+1) h4 (M.set c.toNat ⟨s',g',e.xs++[(i:Int)]⟩) X (by omega) (by omega) (by simp_all) (λx hx=>?_) z
   .rw[hl'] at this;exact this
   grind
  .rw[AT (by simp;omega),ag];have:nn.drop i=[]:=abZ (by omega);rw[this] at hv;cases hv;exact⟨M,rfl,z⟩
theorem Ym {bb bn nn m p}(hm:nn.length=m){sl xs}(il:IL h0 sl xs){B}(hB:B<1073741824)(hl:xs.length<=B){c:Nat} a0 a2 a5 a7 a8 a9 a10 a11 a12 a13 a14 :
  ∀n i h b b' a a' R ,xs.length-i<n->i<=xs.length->b.length=p->dR nn c (xs.drop i) b a=some (b',a')->Z h0 h (.au bb (b.map vi) an::.au bn (nn.map vi) an::R) ->
   Wp (jE n a0 (arr bn m) a2 a (arr bb p) a5 (c:Int) a7 a8 a9 a10 a11 a12 a13 a14 sl (sl.len:Int) (i:Int)) h λy h'=>y=a'/\Z h0 h' (.au bb (b'.map vi) an::.au bn (nn.map vi) an::R):=by
 intro n
 induction n with
 |zero=>intro i h b b' a a' R h1;omega
 |succ n ih=>
  intro i h b b' a a' R h1 h2 hp hv z;rw[AN];unfold od;rw[il.len];by_cases hi:i<xs.length
  .rw[By (by simp;omega)];obtain⟨x,hx⟩:=eY hi;rw[drop_cons hx,dR] at hv;refine (il.fr z.fr).ix (by omega) (by simpa using hx) λa1 g cl=>cl.rD rfl rfl ?_;cases hg:gt nn x with
   |none=>rw[hg] at hv;cases hv
   |some d=>
   rw[hg] at hv;simp only at hv;refine z.Og 1 hg hm ?_;rw[vk h2 (by omega)];by_cases hd:d=c
   .rw[By hd] at hv;rw[By (by simpa using hd)];have:=ih (i+1) h b b' false a' R (by omega) (by omega) hp hv z
    rwa [il.len] at this
   .rw[AT hd] at hv;rw[AT (by simpa using hd)];cases hq1:gt b (c:Int) with
    |none=>rw[hq1] at hv;cases hv
    |some v=>
    cases hq2:gt b d with
    |none=>rw[hq1,hq2] at hv;cases hv
    |some w=>
    rw[hq1,hq2] at hv;simp only at hv;obtain⟨g1,g2⟩:=aC hq1;obtain⟨g3,g4⟩:=aC hg;have hlt:=aL g2;refine A8 g1 (by omega) ?_;refine A8 g3 (by grind) ?_;refine z.ld 0 ?_ rfl (by rw[abE,g2];rfl) rfl;refine z.ld 1 ?_ rfl (by rw[abE,g4];rfl) rfl;refine z.Og 0 hq2 hp ?_;refine A8 g1 (by omega) ?_;refine z.A3 0 (v:=mx v w) hlt (λh3 z=>?_);have:=ih (i+1) h3 (b.set (c:Int).toNat (mx v w)) b' a a' R (by omega) (by omega) (by simpa using hp) hv z
    rwa [il.len] at this
  .rw[AT (by simp;omega),ag];have:xs.drop i=[]:=abZ (by omega);rw[this] at hv;cases hv;exact⟨rfl,z⟩
theorem afz {bb bn b1 nn m p}(hm:nn.length=m){ks is kl il}(ik:IL h0 ks kl)(ii:IL h0 is il){B}(hB:B<1073741824)(hl:kl.length<=B)(hl2:il.length<=B){c:Nat} a0 a2 a5 a7 a8 a9 a10 a11
  n (hn:B+5<=n) h b b2 b' a a2' a' R (hp:b.length=p)(hv1:dR nn c kl b a=some (b2,a2'))(hv2:dR nn c il b2 a2'=some (b',a'))(z:Z h0 h (.au bb (b.map vi) an::.au bn (nn.map vi) an::.au b1 [aI ks,aI is] aR::R)) :
   Wp (jF n a0 (arr bn m) a2 a (arr bb p) a5 (c:Int) a7 a8 a9 a10 a11 { a:=some (al b1),len:=2,cap:=3 } (2:Nat) 0) h λy h'=>y=a'/\Z h0 h' (.au bb (b'.map vi) an::.au bn (nn.map vi) an::.au b1 [aI ks,aI is] aR::R):=by
 obtain⟨n,rfl⟩:∃m,n=m+3:=⟨n-3,by omega⟩;have rs:∀{h},Cl h ⟨b1,0,none⟩ [aI ks,aI is] (b1+1)->wq h { a:=some (al b1),len:=2,cap:=3 } 1 [aI ks,aI is] (b1+1):=λc=>⟨rfl,.inr ⟨_,rfl,c⟩⟩;rw[qh];unfold jh;rw[By (by decide)];refine (rs (z.cl 2 rfl)).ix (by decide) (by simp) λad cl=>cl.rD rfl rfl ?_;rw[ah];refine (Ym hm ik hB hl a0 a2 a5 a7 a8 a9 a10 a11 _ _ _ _ 0 h b b2 a a2' _ (by omega) (by omega) hp (by simpa using hv1) z).mono λy h1 hy=>?_;obtain⟨rfl,z⟩:=hy;rw[show IntKind.i64.wrap (0+1)=1 from by decide,qh];unfold jh;rw[By (by decide)];refine (rs (z.cl 2 rfl)).ix (by decide) (by simp) λad cl=>cl.rD rfl rfl ?_;rw[ah];refine (Ym hm ii hB hl2 a0 a2 a5 a7 a8 a9 a10 a11 _ _ _ _ 0 h1 b2 b' y a' _ (by omega) (by omega) (by rw[BR hv1];exact hp) (by simpa using hv2) z).mono λy2 h2 hy=>?_;obtain⟨rfl,z⟩:=hy;rw[show IntKind.i64.wrap (1+1)=2 from by decide,qh];unfold jh;rw[AT (by decide),ag];exact⟨rfl,z⟩
theorem afA {s N}(G:oI h0 s N){B}(hB:Bd N B){bb bn x0 root nn m p}(hm:nn.length=m){sl xs}(hl:xs.length<=B){o2}{c:Nat} a2 a5 a7 a8
  (hr:∀h' b,Z h0 h' (.au bb b an::.au bn (nn.map vi) an::o2::.au x0 [aI s,vi root] aj::L)->IL h' sl xs)(hsl:sl.len=xs.length) :
  ∀n i h b b' a a' ,B+6+(xs.length-i)<n->i<=xs.length->b.length=p->dM N nn c (xs.drop i) b a=some (b',a')->Z h0 h (.au bb (b.map vi) an::.au bn (nn.map vi) an::o2::.au x0 [aI s,vi root] aj::L) ->
   Wp (jG n (al x0) (arr bn m) a2 a (arr bb p) a5 (c:Int) a7 a8 sl (sl.len:Int) (i:Int)) h λy h'=>y=a'/\Z h0 h' (.au bb (b'.map vi) an::.au bn (nn.map vi) an::o2::.au x0 [aI s,vi root] aj::L):=by
 intro n
 induction n with
 |zero=>intro i h b b' a a' h1;omega
 |succ n ih=>
  intro i h b b' a a' h1 h2 hp hv z;rw[AO];unfold oe;rw[hsl];by_cases hi:i<xs.length
  .rw[By (by simp;omega)];obtain⟨x,hx⟩:=eY hi;rw[drop_cons hx,dM] at hv;cases hg:gt N x with
   |none=>rw[hg] at hv;cases hv
   |some nx=>
   rw[hg] at hv;simp at hv;obtain⟨x1,x2⟩:=aC hg;have hb:=hB.2.2 nx (BY x2);cases hv1:dR nn c nx.keys b a with
   |none=>rw[hv1] at hv;cases hv
   |some q1=>
   obtain⟨b1,a1⟩:=q1;rw[hv1] at hv;simp at hv;cases hv2:dR nn c nx.items b1 a1 with
   |none=>rw[hv2] at hv;cases hv
   |some q2=>
   obtain⟨b2,a2'⟩:=q2;rw[hv2] at hv;simp at hv;refine (hr h _ z).ix (by omega) (by simpa using hx) λad g cl=>cl.rD rfl rfl ?_;refine z.dz [12] (by decide) (by decide) λnb h3 z=>?_;refine z.ld 4 ?_;refine G.ZD z x1 x2 λad1 ks is nd=>(nd.fr z.fr).HI ?_;refine z.ld 4 ?_;refine G.ZD z x1 x2 λad2 ks2 is2 nd2=>(nd2.fr z.fr).HJ ?_;refine z.newAt 0 λh4 z=>?_;have z:=Z.lX (pre:=[_,_,_]) z [1,2,0] (by simp only[acp,adT];decide);rw[ah];refine (afz hm nd.keys nd2.items hB.2.1 hb.1 hb.2 _ _ _ _ _ _ _ _ n (by omega) h4 b b1 b2 a a1 a2' _ hp hv1 hv2 z).mono λy h5 hy=>?_;obtain⟨rfl,z⟩:=hy;have z:=(Z.lX (pre:=[_,_,_]) z [2,0,1] (by simp only[acp,adT];decide)).drop;rw[vk h2 (by have:=hB.2.1;omega)];have:=ih (i+1) h5 b2 b' y a' (by omega) (by omega) (by rw[BR hv2,BR hv1];exact hp) hv z
   rwa [hsl] at this
  .rw[AT (by simp;omega),ag];have:xs.drop i=[]:=abZ (by omega);rw[this] at hv;cases hv;exact⟨rfl,z⟩
theorem afB {s N}(G:oI h0 s N){B}(hB:Bd N B){bb bn x0 bm s2 g2 root nn fL m p}(hm:nn.length=m){M}(hM:M.length=p)(hs:fL.length=p)(hpB:p<=B)(hle:∀e∈M,e.xs.length<=B) :
  ∀n i h b b' a a' ,2*B+8+(p-i)<n->i<=p->b.length=p->dC N nn i (((M.map ME.xs).zip fL).drop i) b a=some (b',a')->Z h0 h (DL bb bn x0 bm s2 s g2 root nn fL b M++(M.map ME.own++L)) ->
   Wp (jH n (al x0) (arr bn m) s2 a (arr bb p) (arr bm p) (p:Int) (i:Int)) h λy h'=>y=a'/\Z h0 h' (DL bb bn x0 bm s2 s g2 root nn fL b' M++(M.map ME.own++L)):=by
 intro n
 induction n with
 |zero=>intro i h b b' a a' h1;omega
 |succ n ih=>
  intro i h b b' a a' h1 h2 hp hv z;rw[AP];unfold oh;by_cases hi:i<p
  .rw[By (by simp;omega)];obtain⟨e,he⟩:=eY (l:=M) (i:=i) (by omega);obtain⟨sz,hz⟩:=eY (l:=fL) (i:=i) (by omega);have hzip:((M.map ME.xs).zip fL)[i]?=some (e.xs,sz):=by
    grind
   rw[drop_cons hzip,dC] at hv;cases hv1:dM N nn (i:Int) e.xs b a with
   |none=>rw[hv1] at hv;cases hv
   |some q1=>
   obtain⟨b1,a1⟩:=q1;rw[hv1] at hv;simp at hv;cases hg:gt b1 (i:Int) with
   |none=>rw[hg] at hv;cases hv
   |some v=>
   rw[hg] at hv;simp at hv;obtain⟨g1,gg⟩:=aC hg;refine A8 (by omega) (by omega) ?_;refine z.ld 4 (x:=e.s) ?_ rfl (by rw[aa1,abE,abE,he];rfl) rfl;have hown:∀{b:δ},(.au bb b an::.au bn (nn.map vi) an::.ps s2 1 an (fL.map vi) g2::.au x0 [aI s,vi root] aj::.au bm ((M.map ME.s).map aI) aR::(M.map ME.own++L):List bG)[i+5]?=some (.ps e.s 1 an (e.xs.map vi) e.g):=by
    intro b;simp;rw[agI (by simpa using aL he),abE,he];rfl
   have hlen:e.s.len=e.xs.length:=(xl.Dm (z.get _ (hown))).Dn;have hel:=hle e (BY he);rw[ah];refine (afA G hB hm hel s2 (arr bm p) (p:Int) (i:Int) (λh' b z=>⟨_,xl.Dm (z.get _ hown)⟩) hlen n 0 h b b1 a a1 (by omega) (by omega) hp (by simpa using hv1) z).mono λy h3 hy=>?_;obtain⟨rfl,z⟩:=hy;have hlb:b1.length=p:=by rw[P8 hv1];exact hp
   refine A8 (by omega) (by omega) ?_;have hps:xl h3 s2 1 an (fL.map vi) g2:=z.get 2 rfl;refine hps.Dm.VZ (by omega) (by simpa using hz) λad cl=>?_;refine z.ld 0 ?_ rfl (by rw[abE,gg];rfl) rfl;refine cl.rD rfl rfl ?_;refine A8 (by omega) (by omega) ?_;refine z.A3 0 (aL gg) (λh4 z=>?_);rw[vk h2 (by have:=hB.2.1;omega)];exact ih (i+1) h4 _ b' y a' (by omega) (by omega) (by simpa using hlb) hv z
  .rw[AT (by simp;omega),ag];have:((M.map ME.xs).zip fL).drop i=[]:=abZ (by simp;omega);rw[this] at hv;cases hv;exact⟨rfl,z⟩
theorem NK {s root N}(z:Z h0 h L)(G:oI h0 s N){B}(hB:Bd N B){k n}(hk:k<=n)(hn:3*B+10<n){d a}(hv:dep k N root=some (d,a)) :
  Wp (pN n (s,root)) h λx h'=>x=(d,a)/\Z h0 h' L:=by
 unfold pN;unfold dep at hv;cases hc:comp k N root with
 |none=>rw[hc] at hv;cases hv
 |some q=>
 obtain⟨nn,fL⟩:=q;rw[hc] at hv;simp only at hv;split at hv
 case isFalse=>cases hv
 rename_i hsz;cases hm:mem 0 nn (List.replicate fL.length []) with
 |none=>rw[hm] at hv;cases hv
 |some X=>
 rw[hm] at hv;simp at hv;cases hd:dC N nn 0 (X.zip fL) (List.replicate fL.length 0) true with
 |none=>rw[hd] at hv;cases hv
 |some q=>
 obtain⟨b,a1⟩:=q;rw[hd] at hv;simp at hv;cases hg:gt nn root with
 |none=>rw[hg] at hv;cases hv
 |some c=>
 rw[hg] at hv;simp at hv;cases hg2:gt b c with
 |none=>rw[hg2] at hv;cases hv
 |some v=>
 rw[hg2] at hv;simp at hv;obtain⟨rfl,rfl⟩:=hv;have hNB:=hB.1;have hBB:=hB.2.1;refine z.new λx0 h1 z _=>?_;refine z.iN 0 (ls:=[.sl,li]) (x:=(s,root)) ?_;rw[ah];refine (H6 z G hB hk (by omega) hc).mono λy h2 hy=>?_;obtain⟨hnn,bn,s2,g2,rfl,z⟩:=hy;have hs2:s2.len=fL.length:=(xl.Dm (z.get 1 rfl)).Dn;simp;rw[hs2];refine z.EC (by omega) (by unfold cF;omega) λbb h3 z _=>?_;refine z.EC (by omega) (by unfold cF;omega) λbm h4 z _=>?_;rw[aa1] at z⊢;rw[oP (enc:=vi),show aO=aI qQ from rfl,oP] at z;have z:=Z.lX (pre:=[_,_,_,_,_]) z [1,2,3,4,0] (by grind);have hown:∀n,((List.replicate n (⟨⟨none,0,0⟩,0,[]⟩:ME)).map ME.own)=List.replicate n (.ps ⟨none,0,0⟩ 1 an [] 0):=by
  intro n;rw[aia];rfl
 have addn:∀(n:Nat) {L:List bG},Z h0 h4 L->Z h0 h4 (List.replicate n (.ps ⟨none,0,0⟩ 1 an [] 0)++L):=by
  intro n
  induction n with
  |zero=>intro L z;exact z
  |succ n ih=>intro L z;exact (ih z).add (Fr.refl z.wf) xl.nil (.inl rfl)
 have z:=addn fL.length z;have z:Z h0 h4 (DL bb bn x0 bm s2 s g2 root nn fL (List.replicate fL.length 0) (List.replicate fL.length ⟨⟨none,0,0⟩,0,[]⟩)++((List.replicate fL.length (⟨⟨none,0,0⟩,0,[]⟩:ME)).map ME.own++L)):=by
  refine z.perm ?_;rw[hown];have e:(List.replicate fL.length (⟨⟨none,0,0⟩,0,[]⟩:ME)).map ME.s=List.replicate fL.length qQ:=by rw[aia]
  unfold DL;rw[e];simp only[adS,ahI];have:=ajX L (agx (l₁:=List.replicate fL.length (bG.ps ⟨none,0,0⟩ 1 an [] 0)) (l₂:=[.au bb ((List.replicate fL.length 0).map vi) an,.au bn (nn.map vi) an,.ps s2 1 an (fL.map vi) g2,.au x0 [aI s,vi root] aj,.au bm ((List.replicate fL.length qQ).map aI) aR]))
  simp_all
 rw[ah];have hl0:=afy hnn (by omega) (arr bb fL.length) true s2 (arr bn N.length) n 0 h4 (List.replicate fL.length ⟨⟨none,0,0⟩,0,[]⟩) X (by omega) (by omega) (by grind [List.map_replicate]) (λe he=>by grind) z;rw[adV] at hl0;refine hl0.mono λ_ h5 hx=>?_;obtain⟨M,rfl,z⟩:=hx;have hML:M.length=fL.length:=by have:=Ru hm;simpa using this
 rw[ah];refine (afB G hB hnn hML rfl (by omega) (λe he=>?_) n 0 h5 _ b true a1 (by omega) (by omega) (by simp) (by simpa using hd) z).mono λy h6 hy=>?_
 .have:=Yk hm (λxs hx=>by grind) e.xs (List.mem_map.2 ⟨e,he,rfl⟩);omega
 obtain⟨rfl,z⟩:=hy;refine z.ld 3 ?_;refine z.Og 1 hg hnn ?_;have hbl:b.length=fL.length:=by rw[Yl hd,adV]
 refine z.Og 0 hg2 hbl ?_;rw[ag];refine⟨rfl,?_⟩;have z:=z.drop.drop.drop.drop.drop;exact z.sub (aic _ _)
end
section
variable {α β:Type}{h h' h0:ai}{L:List bG}{Q:β->ai->Prop}
noncomputable def gA:List Bool->List av->Option Bool
 |m::ms,x::xs=>if m=false then some false else match ru x with
  |none=>none
  |some false=>some false
  |some true=>gA ms xs
 |_,[]=>some true
 |[],_::_=>none
def gB:List Bool->ε->Bool
 |b::bs,c::cs=>if b=true/\c≠1 then false else gB bs cs
 |_,_=>true
noncomputable def sM (k:Nat)(N:List av)(root:Int):Option Int:=
 if 4096<N.length then some 7
 else if N.length=0 then some 3
 else if H3 N root=false then some 3
 else match Al k N root (List.replicate N.length false) with
  |none=>none
  |some ms=>match gA ms N with
   |none=>none
   |some false=>some 3
   |some true=>match lP N root with
    |none=>none
    |some c=>match U2 k N N (List.replicate N.length false) with
     |none=>none
     |some ks=>
      if gB ks c=false then some 3
      else match ZF k N N with
       |none=>none
       |some true=>some 8
       |some false=>match dep k N root with
        |none=>none
        |some (d,_)=>if 32<d then some 5 else some 0
theorem Yn {s N}(G:oI h0 s N){B}(hB:Bd N B)(ht:∀x∈N,x.text.size<=65536){bm}{ms:List Bool}(hm:ms.length=N.length){e} a0 :
  ∀n i r h L ,(N.length-i)+65540<n->i<=N.length->gA (ms.drop i) (N.drop i)=some r->Z h0 h (.au bm (ms.map .bool) e::L) ->
   Wp (jO n a0 (arr bm N.length) s (s.len:Int) (i:Int)) h λy h'=>y=(if r then .inl () else .inr 3)/\Z h0 h' (.au bm (ms.map .bool) e::L):=by
 intro n
 induction n with
 |zero=>intro i r h L h1;omega
 |succ n ih=>
  intro i r h L h1 h2 hv z;rw[AU];unfold ov;rw[G.len];by_cases hi:i<N.length
  .rw[By (by simp;omega)];obtain⟨x,hx⟩:=eY hi;obtain⟨b,hb⟩:=eY (l:=ms) (i:=i) (by omega);rw[drop_cons hx,drop_cons hb,gA] at hv;refine G.at z (by omega) (by simpa using hx) λa ks is nd ik ii=>nd.iN ?_;refine z.node λx2 h2' z=>?_;refine z.rdB 1 (by unfold gt;rw[By (by omega)];simpa using hb) hm ?_;cases b with
   |false=>
    rw[By rfl] at hv;cases hv;rw[By (by rfl),ag];exact⟨rfl,z.drop⟩
   |true=>
    rw[AT (by simp)] at hv;rw[AT (by simp)];refine z.iN 0 (ls:=[li,.str,.bool,.sl,.sl]) (x:=(x.kind,x.text,x.ord,ks,is)) ?_;cases hf:ru x with
    |none=>rw[hf] at hv;cases hv
    |some f=>
     rw[hf] at hv;have htx:=ht x (BY hx);rw[ah];refine (aby z ik ii htx (by omega) hf).mono λy h3 hy=>?_;obtain⟨rfl,z⟩:=hy;cases y with
     |false=>
      cases hv;rw[By (by rfl),ag];exact⟨rfl,z.drop⟩
     |true=>
      simp at hv;rw[AT (by simp),vk h2 (by have:=hB.1;have:=hB.2.1;omega)];have:=ih (i+1) r h3 L (by omega) (by omega) hv z.drop
      rwa [G.len] at this
  .rw[AT (by simp;omega),ag];have e1:N.drop i=[]:=abZ (by omega);have e2:ms.drop i=[]:=abZ (by omega);rw[e1,e2] at hv;cases hv;exact⟨rfl,z⟩
theorem Yo {bk bc m}{ks:List Bool}{c:ε}(hk:ks.length=m)(hc:c.length=m)(hb:m<1073741824){e1 e2} a0 (z:Z h0 h (.au bk (ks.map .bool) e1::.au bc (c.map vi) e2::L)) :
  ∀n i ,m-i<n->i<=m->Wp (jN n a0 (arr bc m) (arr bk m) (m:Int) (i:Int)) h λy h'=>y=(if gB (ks.drop i) (c.drop i) then .inl () else .inr 3)/\h'=h:=by
 intro n
 induction n with
 |zero=>intro i h1;omega
 |succ n ih=>
  intro i h1 h2;rw[AR];unfold ou;by_cases hi:i<m
  .rw[By (by simp;omega)];obtain⟨b,hb⟩:=eY (l:=ks) (i:=i) (by omega);obtain⟨v,hv⟩:=eY (l:=c) (i:=i) (by omega);have hg:gB (ks.drop i) (c.drop i)=if b=true/\v≠1 then false else gB (ks.drop (i+1)) (c.drop (i+1)):=by rw[drop_cons hb,drop_cons hv,gB]
   rw[hg];clear hg;refine z.rdB 0 (by unfold gt;rw[By (by omega)];simpa using hb) hk ?_;have hnx:=ih (i+1) (by omega) (by omega);rw[<-vk h2 (by omega)] at hnx;cases b with
   |false=>
    have e:(if false=true/\v≠1 then false else gB (ks.drop (i+1)) (c.drop (i+1)))=gB (ks.drop (i+1)) (c.drop (i+1)):=AT (by simp);rw[e,AT (by simp)];exact hnx
   |true=>
    rw[By rfl];refine z.Og 1 (by unfold gt;rw[By (by omega)];simpa using hv) hc ?_;by_cases h1:v=1
    .have e:(if true=true/\v≠1 then false else gB (ks.drop (i+1)) (c.drop (i+1)))=gB (ks.drop (i+1)) (c.drop (i+1)):=AT (by simp[h1]);rw[e,AT (by simpa using h1)];exact hnx
    .have e:(if true=true/\v≠1 then false else gB (ks.drop (i+1)) (c.drop (i+1)))=false:=By ⟨rfl,h1⟩;rw[e,By (by simpa using h1),ag];exact⟨rfl,rfl⟩
  .rw[AT (by simp;omega),ag];have e1:ks.drop i=[]:=abZ (by omega);rw[e1];exact⟨rfl,rfl⟩
theorem sN {s root N}(z:Z h0 h L)(G:oI h0 s N){B}(hB:Bd N B)(ht:∀x∈N,x.text.size<=65536){k n}(hn:k+4*B+65600<n){r}(hv:sM k N root=some r) :
  Wp (dZ n (s,root)) h λx h'=>x=r/\Z h0 h' L:=by
 have hNB:=hB.1;have hBB:=hB.2.1;unfold dZ;unfold sM at hv;refine z.new λx0 h1 z _=>?_;refine z.ld 0 ?_;rw[G.len];by_cases c1:4096<N.length
 .rw[By c1] at hv;cases hv;rw[By (by simp;omega),ag];exact⟨rfl,z.drop⟩
 rw[AT c1] at hv;rw[AT (by simp;omega)];refine z.ld 0 ?_;rw[G.len];by_cases c2:N.length=0
 .rw[By c2] at hv;cases hv;rw[By (by simp[c2]),ag];exact⟨rfl,z.drop⟩
 rw[AT c2] at hv;rw[AT (by grind)];refine z.iN 0 (ls:=[.sl,li]) (x:=(s,root)) ?_;rw[ah];refine (PN z G hB (by omega)).mono λy h2 hy=>?_;obtain⟨rfl,z⟩:=hy;cases c3:H3 N root with
 |false=>
  rw[By c3] at hv;cases hv;rw[By (by rfl),ag];exact⟨rfl,z.drop⟩
 |true=>
 rw[AT (by simp[c3])] at hv;rw[AT (by simp)];unfold pP;refine z.ld 0 ?_;rw[G.len];refine z.EC (by omega) (by unfold cF;omega) λbm h3 z _=>?_;rw[aa1] at z⊢;rw[oP] at z;refine z.iN 1 (ls:=[.sl,li]) (x:=(s,root)) ?_;refine z.ld 1 (x:=root) ?_;cases hvis:Al k N root (List.replicate N.length false) with
 |none=>rw[hvis] at hv;cases hv
 |some ms=>
 rw[hvis] at hv;simp at hv;rw[ah];have hms:ms.length=N.length:=by have:=(Lg k N).1 _ _ _ hvis;simpa using this
 have hw:=GX (cap:=N.length+1) z G hB hvis (n:=n) (root:=root) (by omega);rw[adV] at hw;refine hw.mono λ_ h4 z=>?_;refine z.ld 1 ?_;cases hA:gA ms N with
 |none=>rw[hA] at hv;cases hv
 |some b=>
 rw[hA] at hv;rw[ah];refine (Yn G hB ht hms (al x0) n 0 b h4 _ (by omega) (by omega) (by simpa using hA) z).mono λy h5 hy=>?_;obtain⟨rfl,z⟩:=hy;cases b with
 |false=>cases hv;exact ag.2 ⟨rfl,z.drop.drop⟩
 |true=>
 simp at hv;show Wp (sh _ _) h5 _;refine z.iN 1 (ls:=[.sl,li]) (x:=(s,root)) ?_;cases hc:lP N root with
 |none=>rw[hc] at hv;cases hv
 |some c=>
 rw[hc] at hv;simp at hv;rw[ah];refine (Un z G hB (by omega) hc).mono λy h6 hy=>?_;obtain⟨bc,rfl,hcl,z⟩:=hy;refine z.iN 2 (ls:=[.sl,li]) (x:=(s,root)) ?_;cases hi:U2 k N N (List.replicate N.length false) with
 |none=>rw[hi] at hv;cases hv
 |some ks=>
 rw[hi] at hv;simp at hv;rw[ah];refine (Uo z G hB (by omega) hi).mono λy h7 hy=>?_;obtain⟨bk,rfl,hkl,z⟩:=hy;rw[ah];refine (Yo hkl hcl (by omega) (al x0) z n 0 (by omega) (by omega)).mono λy h8 hy=>?_;obtain⟨rfl,rfl⟩:=hy;simp only[ahx];cases hgB:gB ks c with
 |false=>
  rw[By hgB] at hv;cases hv;exact ag.2 ⟨rfl,z.drop.drop.drop.drop⟩
 |true=>
 rw[AT (by simp[hgB])] at hv;show Wp (sh _ _) h8 _;refine z.iN 3 (ls:=[.sl,li]) (x:=(s,root)) ?_;cases htw:ZF k N N with
 |none=>rw[htw] at hv;cases hv
 |some b=>
 rw[htw] at hv;rw[ah];refine (Yi z G hB (by omega) htw).mono λy h9 hy=>?_;obtain⟨rfl,z⟩:=hy;cases y with
 |true=>cases hv;rw[By rfl,ag];exact⟨rfl,z.drop.drop.drop.drop⟩
 |false=>
 simp at hv;rw[AT (by simp)];refine z.iN 3 (ls:=[.sl,li]) (x:=(s,root)) ?_;cases hd:dep k N root with
 |none=>rw[hd] at hv;cases hv
 |some q=>
 obtain⟨d,a⟩:=q;rw[hd] at hv;simp at hv;rw[ah];refine (NK z G hB (by omega) (by omega) hd).mono λy h10 hy=>?_;obtain⟨rfl,z⟩:=hy;by_cases h32:32<d
 .rw[By h32] at hv;cases hv;rw[By (by simpa using h32),ag];exact⟨rfl,z.drop.drop.drop.drop⟩
 .rw[AT h32] at hv;cases hv;rw[AT (by simpa using h32),ag];exact⟨rfl,z.drop.drop.drop.drop⟩
end
section
variable {α β:Type}{h h' h0:ai}{L:List bG}{Q:β->ai->Prop}
def kAt:List Bool->Nat->ε
 |[],_=>[]
 |b::bs,n=>(n:Int)::kAt bs (if b then n+1 else n)
def mvs (at':ε):ε->Option ε
 |[]=>some []
 |x::xs=>match gt at' x,mvs at' xs with
  |some v,some r=>some (v::r)
  |_,_=>none
def kN (at':ε):List Bool->List av->Option (List av)
 |_,[]=>some []
 |[],_::_=>none
 |b::bs,x::xs=>if b then match mvs at' x.keys,mvs at' x.items,kN at' bs xs with
   |some ks,some is,some r=>some ({ x with keys:=ks,items:=is }::r)
   |_,_,_=>none
  else kN at' bs xs
def kept (k:Nat)(N:List av)(root:Int):Option (List av×Int):=match Al k N root (List.replicate N.length false) with
 |none=>none
 |some ms=>match gt (kAt ms 0) root,kN (kAt ms 0) ms N with
  |some r,some N'=>some (N',r)
  |_,_=>none
theorem fill {ys:ε}{i v}(hv:ys[i]?=some v):(ys.take i++List.replicate (ys.length-i) 0).set i v=ys.take (i+1)++List.replicate (ys.length-(i+1)) 0:=by
 have hlt:=aL hv;have e:ys.length-i=(ys.length-(i+1))+1:=by omega
 rw[ah9 _ _ (by simp;omega),e,ah3,ahY,ajV (by omega),aio,ahZ,List.take_add_one,hv,agm];rfl
theorem wh {cks}{m:M α}{f P}(ha:∀a,some a∈cks->∃cs e,LB h a.block cs e/\∀r h',P r h'->LB h' a.block cs e)(hm:Wp m h P)(q:∀r h',P r h'->Wp (f r) h' Q):Wp (sh (k8 cks m) f) h Q:=by
 rw[ah];refine Dj (hm.mono λr h' hp=>⟨λa hma=>?_,q r h' hp⟩);obtain⟨cs,e,l1,l2⟩:=ha a hma;rw[(l2 r h' hp).get,l1.get]
end
end Go.Sh
