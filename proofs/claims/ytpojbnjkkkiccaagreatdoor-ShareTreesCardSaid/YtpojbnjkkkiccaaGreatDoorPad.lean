
import Derived.Test.YtpojbnjkkkiccaaGreatDoorGfPa
set_option linter.all false
namespace Go.Sh
open Go Go.Ago Go.Proofs
section
variable {α β:Type}{h h' h0:ai}{L:List aZ}{Q:β->ai->Prop}
mutual
def same:Nat->List aq->Int->Int->Option Bool
 |0,_,_,_=>none
 |k+1,N,i,j=>match gt N i,gt N j with
  |some x,some y=>
   if x.kind≠y.kind then some false
   else if qk x.text y.text=false then some false
   else if x.ord≠y.ord then some false
   else if x.items.length≠y.items.length then some false
   else if x.kind=10/\x.ord=false then D5 k N x y 0
   else zF k N x y 0
  |_,_=>none
def D5:Nat->List aq->aq->aq->Nat->Option Bool
 |0,_,_,_,_=>none
 |k+1,N,x,y,i=>match x.keys[i]? with
  |none=>some true
  |some kx=>match xL k N x y i kx 0 false with
   |none=>none
   |some false=>some false
   |some true=>D5 k N x y (i+1)
def xL:Nat->List aq->aq->aq->Nat->Int->Nat->Bool->Option Bool
 |0,_,_,_,_,_,_,_=>none
 |k+1,N,x,y,i,kx,j,b=>match y.keys[j]? with
  |none=>some b
  |some ky=>match b with
   |true=>xL k N x y i kx (j+1) true
   |false=>match same k N kx ky with
    |none=>none
    |some false=>xL k N x y i kx (j+1) false
    |some true=>match x.items[i]?,y.items[j]? with
     |some p,some q=>match same k N p q with
      |none=>none
      |some c=>xL k N x y i kx (j+1) c
     |_,_=>none
def zF:Nat->List aq->aq->aq->Nat->Option Bool
 |0,_,_,_,_=>none
 |k+1,N,x,y,i=>match x.items[i]? with
  |none=>some true
  |some p=>match y.items[i]? with
   |none=>none
   |some q=>
    if x.kind=10 then match x.keys[i]?,y.keys[i]? with
     |some kx,some ky=>match same k N kx ky with
      |none=>none
      |some false=>some false
      |some true=>match same k N p q with
       |none=>none
       |some false=>some false
       |some true=>zF k N x y (i+1)
     |_,_=>none
    else match same k N p q with
     |none=>none
     |some false=>some false
     |some true=>zF k N x y (i+1)
end
def SO (b8 b9 b0:Nat)(x y:aq)(kx ix ky iy s:Sl)(root:Int):List aZ:=
 [.ar b8 [vi x.kind,.string x.text,.bool x.ord,aA kx,aA ix] av,.ar b9 [vi y.kind,.string y.text,.bool y.ord,aA ky,aA iy] av,.ar b0 [aA s,vi root] aj]
structure S4 (h0:ai) (B:Nat) (x y:aq) (kx ix ky iy:Sl):Prop where
 kx:IL h0 kx x.keys
 ix:IL h0 ix x.items
 ky:IL h0 ky y.keys
 iy:IL h0 iy y.items
 b1:x.keys.length<=B
 b2:x.items.length<=B
 b3:y.keys.length<=B
 b4:y.items.length<=B
theorem aJ {l:List α}{i}{x}(hx:l[i]?=some x):i<l.length:=(List.getElem?_eq_some_iff.1 hx).1
def Hv {l:List α}{i}(hx:l[i]?=none):l.length<=i:=List.getElem?_eq_none_iff.1 hx
def Qv {s}{root}{N}(G:ou h0 s N){B}(hB:Bd N B) :
  ∀k ,(∀n i j r h L ,k<=n->same k N i j=some r->Z h0 h L->Wp (jr n (s,root) i j) h λx h'=>x=r/\Z h0 h' L) /\
   (∀n i r x y kx ix ky iy b8 b9 b0 h L ,k<=n->D5 k N x y i=some r->S4 h0 B x y kx ix ky iy->i<=x.keys.length->Z h0 h (SO b8 b9 b0 x y kx ix ky iy s root++L) ->
    Wp (lV n (ak b0) (ak b8) (ak b9) kx (kx.len:Int) (i:Int)) h λz h'=>z=(if r then .inl () else .inr false)/\Z h0 h' (SO b8 b9 b0 x y kx ix ky iy s root++L)) /\
   (∀n i j v b r x y kx ix ky iy a6 a7 b8 b9 b0 h L ,k<=n->xL k N x y i v j b=some r->S4 h0 B x y kx ix ky iy->j<=y.keys.length->Z h0 h (SO b8 b9 b0 x y kx ix ky iy s root++L) ->
    Wp (iL n (ak b0) (ak b8) (ak b9) (i:Int) v b a6 a7 (i:Int) ky (ky.len:Int) (j:Int)) h λz h'=>z=r/\Z h0 h' (SO b8 b9 b0 x y kx ix ky iy s root++L)) /\
   (∀n i r x y kx ix ky iy b8 b9 b0 h L ,k<=n->zF k N x y i=some r->S4 h0 B x y kx ix ky iy->i<=x.items.length->Z h0 h (SO b8 b9 b0 x y kx ix ky iy s root++L) ->
    Wp (gI n (ak b0) (ak b8) (ak b9) (ix.len:Int) (i:Int)) h λz h'=>z=(if r then .inl () else .inr false)/\Z h0 h' (SO b8 b9 b0 x y kx ix ky iy s root++L)):=by
 intro k
 induction k with
 |zero=>grind [same,D5,xL,zF]
 |succ k ih=>
  obtain⟨ih1,ih2,ih3,ih4⟩:=ih;refine⟨λn i j r h L hn hv z=>?_,λn i r x y kx ix ky iy b8 b9 b0 h L hn hv S hi z=>?_,λn i j v b r x y kx ix ky iy a6 a7 b8 b9 b0 h L hn hv S hj z=>?_,λn i r x y kx ix ky iy b8 b9 b0 h L hn hv S hi z=>?_⟩
  .obtain⟨n,rfl⟩:∃m,n=m+1:=⟨n-1,by omega⟩;rw[Ig];unfold Ag;rw[same] at hv;cases hx:gt N i with
   |none=>rw[hx] at hv;cases hv
   |some x=>
   cases hy:gt N j with
   |none=>rw[hx,hy] at hv;cases hv
   |some y=>
   rw[hx,hy] at hv;simp only at hv;obtain⟨x1,x2⟩:=aB hx;obtain⟨y1,y2⟩:=aB hy;refine z.new λb0 h1 z _=>?_;refine z.dP [10,11] (by decide) (by decide) λnb h2 z=>?_;refine z.ld 2 ?_;refine G.P3 z x1 x2 λa kx ix nx=>(nx.fr z.fr).gh ?_;refine z.ld 2 ?_;refine G.P3 z y1 y2 λa2 ky iy ny=>(ny.fr z.fr).gh ?_;refine z.newAt 0 λh3 z=>z.newAt 1 λh4 z=>?_;refine z.stC 0 ?_ λh5 z=>z.st 1 λh6 z=>?_
   .intro a' ha';simp at ha';rcases ha' with rfl|rfl
    .exact z.nbO 0 2 rfl rfl (by decide)
    .obtain⟨g,c⟩:=ny.cl;exact z.nb0 0 c rfl
   have z:Z h0 h6 (SO (nb+10) (nb+11) b0 x y kx ix ky iy s root++L):=z;have hbx:=hB.2.2 x (IN x2);have hby:=hB.2.2 y (IN y2);have S:S4 h0 B x y kx ix ky iy:=⟨nx.keys,nx.items,ny.keys,ny.items,hbx.1,hbx.2,hby.1,hby.2⟩;have dr:∀{h},Z h0 h (SO (nb+10) (nb+11) b0 x y kx ix ky iy s root++L)->Z h0 h L:=λz=>z.drop.drop.drop;refine z.ld 0 ?_;refine z.ld 1 ?_;by_cases e1:x.kind=y.kind
   case neg=>
    rw[By e1] at hv;cases hv;rw[By (by simpa using e1),ag];exact⟨rfl,dr z⟩
   rw[AT (by simpa using e1)] at hv;rw[AT (by simpa using e1)];refine z.ld 0 ?_;refine z.ld 1 ?_;cases e2:qk x.text y.text with
   |false=>
    rw[By e2] at hv;cases hv;rw[By (by rfl),ag];exact⟨rfl,dr z⟩
   |true=>
   rw[AT (by simp[e2])] at hv;rw[AT (by simp)];refine z.ld 0 ?_;refine z.ld 1 ?_;by_cases e3:x.ord=y.ord
   case neg=>
    rw[By e3] at hv;cases hv;rw[By (by simpa using e3),ag];exact⟨rfl,dr z⟩
   rw[AT (by simpa using e3)] at hv;rw[AT (by simpa using e3)];refine z.ld 0 (x:=ix) ?_;refine z.ld 1 (x:=iy) ?_;rw[S.ix.len,S.iy.len];by_cases e4:x.items.length=y.items.length
   case neg=>
    rw[By e4] at hv;cases hv;rw[By (by simp;omega),ag];exact⟨rfl,dr z⟩
   rw[AT (by simpa using e4)] at hv;rw[AT (by simp;omega)];unfold vW;have fin:∀{z:Unit⊕Bool} {h'} {g1:Unit->M Bool} {g2:Bool->M Bool},(z=(if r then .inl () else .inr false)/\Z h0 h' (SO (nb+10) (nb+11) b0 x y kx ix ky iy s root++L))->(g1=λ_=>AI true)->(g2=λx=>AI x) ->
     Wp (dW g1 g2 z) h' λx h'=>x=r/\Z h0 h' L:=by
    intro z h' g1 g2 hz e1 e2;obtain⟨rfl,z⟩:=hz;subst e1 e2;cases r with
    |true=>exact ag.2 ⟨rfl,dr z⟩
    |false=>exact ag.2 ⟨rfl,dr z⟩
   refine z.ld 0 ?_;by_cases e5:x.kind=10
   .rw[By (by simpa using e5)];refine z.ld 0 ?_;cases e6:x.ord with
    |false=>
     rw[By ⟨e5,e6⟩] at hv;rw[By (by rfl)];refine z.ld 0 (x:=kx) ?_;rw[ah];exact (ih2 n 0 r x y kx ix ky iy _ _ _ _ L (by omega) hv S (by omega) z).mono λ_ h' hz=>fin hz rfl rfl
    |true=>
     rw[AT (by simp[e6])] at hv;rw[AT (by simp)];refine z.ld 0 (x:=ix) ?_;rw[ah];exact (ih4 n 0 r x y kx ix ky iy _ _ _ _ L (by omega) hv S (by omega) z).mono λ_ h' hz=>fin hz rfl rfl
   .rw[AT (by simpa using e5)];rw[AT (λe=>e5 e.1)] at hv;refine z.ld 0 (x:=ix) ?_;rw[ah];exact (ih4 n 0 r x y kx ix ky iy _ _ _ _ L (by omega) hv S (by omega) z).mono λ_ h' hz=>fin hz rfl rfl
  .obtain⟨n,rfl⟩:∃m,n=m+1:=⟨n-1,by omega⟩;rw[Ex];unfold vU;rw[S.kx.len];rw[D5] at hv;cases hx:x.keys[i]? with
   |none=>
    rw[hx] at hv;cases hv;have:=Hv hx;rw[AT (by simp;omega),ag];exact⟨rfl,z⟩
   |some v=>
    rw[hx] at hv;simp at hv;have hlt:=aJ hx;rw[By (by simp;omega)];refine (S.kx.fr z.fr).ix (by omega) (by simpa using hx) λa1 g c=>c.sL rfl rfl ?_;refine z.ld 1 (x:=ky) ?_;cases hf:xL k N x y i v 0 false with
    |none=>rw[hf] at hv;cases hv
    |some b=>
     rw[hf] at hv;rw[ah];refine (ih3 n i 0 v false b x y kx ix ky iy kx _ _ _ _ _ L (by omega) hf S (by omega) z).mono λb' h2 hz=>?_;obtain⟨rfl,z⟩:=hz;cases b' with
     |false=>
      cases hv;rw[By (by rfl),ag];exact⟨rfl,z⟩
     |true=>
      rw[AT (by simp),wZ hi (by have:=S.b1;have:=hB.2.1;omega)];have:=ih2 n (i+1) r x y kx ix ky iy _ _ _ _ L (by omega) hv S (by omega) z
      rwa [S.kx.len] at this
  .obtain⟨n,rfl⟩:∃m,n=m+1:=⟨n-1,by omega⟩;rw[Ew];unfold vT;rw[S.ky.len];rw[xL] at hv;cases hx:y.keys[j]? with
   |none=>
    rw[hx] at hv;cases hv;have:=Hv hx;rw[AT (by simp;omega),ag];exact⟨rfl,z⟩
   |some w=>
    rw[hx] at hv;simp at hv;have hlt:=aJ hx;rw[By (by simp;omega)];refine (S.ky.fr z.fr).ix (by omega) (by simpa using hx) λa1 g c=>c.sL rfl rfl ?_;rw[wZ hj (by have:=S.b3;have:=hB.2.1;omega)];cases b with
    |true=>
     simp at hv;rw[By rfl];have:=ih3 n i (j+1) v true r x y kx ix ky iy a6 a7 _ _ _ _ L (by omega) hv S (by omega) z
     rwa [S.ky.len] at this
    |false=>
     simp at hv;rw[AT (by simp)];refine z.gh 2 (ls:=[.sl,li]) (x:=(s,root)) ?_;cases hs:same k N v w with
     |none=>rw[hs] at hv;cases hv
     |some b1=>
      rw[hs] at hv;rw[ah];refine (ih1 n v w b1 h _ (by omega) hs z).mono λb' h2 hz=>?_;obtain⟨rfl,z⟩:=hz;cases b' with
      |false=>
       simp at hv;rw[AT (by simp)];have:=ih3 n i (j+1) v false r x y kx ix ky iy a6 a7 _ _ _ _ L (by omega) hv S (by omega) z
       rwa [S.ky.len] at this
      |true=>
       simp at hv;rw[By rfl];refine z.gh 2 (ls:=[.sl,li]) (x:=(s,root)) ?_;cases hp:x.items[i]? with
       |none=>rw[hp] at hv;cases hv
       |some p=>
       cases hq:y.items[j]? with
       |none=>rw[hp,hq] at hv;cases hv
       |some q=>
       rw[hp,hq] at hv;simp at hv;refine z.ld 0 (x:=ix) ?_;refine (S.ix.fr z.fr).ix (by omega) (by simpa using hp) λa1 g c=>c.sL rfl rfl ?_;refine z.ld 1 (x:=iy) ?_;refine (S.iy.fr z.fr).ix (by omega) (by simpa using hq) λa1 g c=>c.sL rfl rfl ?_;cases hs2:same k N p q with
       |none=>rw[hs2] at hv;cases hv
       |some b2=>
        rw[hs2] at hv;simp at hv;rw[ah];refine (ih1 n p q b2 _ _ (by omega) hs2 z).mono λb' h3 hz=>?_;obtain⟨rfl,z⟩:=hz;have:=ih3 n i (j+1) v b' r x y kx ix ky iy a6 a7 _ _ _ _ L (by omega) hv S (by omega) z
        rwa [S.ky.len] at this
  .obtain⟨n,rfl⟩:∃m,n=m+1:=⟨n-1,by omega⟩;rw[Ey];unfold vV;rw[S.ix.len];rw[zF] at hv;cases hp:x.items[i]? with
   |none=>
    rw[hp] at hv;cases hv;have:=Hv hp;rw[AT (by simp;omega),ag];exact⟨rfl,z⟩
   |some p=>
   cases hq:y.items[i]? with
   |none=>rw[hp,hq] at hv;cases hv
   |some q=>
   rw[hp,hq] at hv;simp at hv;have hlt:=aJ hp;rw[By (by simp;omega)];rw[wZ hi (by have:=S.b2;have:=hB.2.1;omega)];refine z.ld 0 ?_;have nxt:∀{h},zF k N x y (i+1)=some r->Z h0 h (SO b8 b9 b0 x y kx ix ky iy s root++L)->Wp ((bz.at n).gI (ak b0) (ak b8) (ak b9) (x.items.length:Int) ((i+1:Nat):Int)) h λz h'=>z=(if r then .inl () else .inr false)/\Z h0 h' (SO b8 b9 b0 x y kx ix ky iy s root++L):=by
    intro h hv z;have:=ih4 n (i+1) r x y kx ix ky iy _ _ _ _ L (by omega) hv S (by omega) z
    rwa [S.ix.len] at this
   by_cases e5:x.kind=10
   .rw[By e5] at hv;rw[By (by simpa using e5)];cases hk:x.keys[i]? with
    |none=>rw[hk] at hv;cases hv
    |some v=>
    cases hk2:y.keys[i]? with
    |none=>rw[hk,hk2] at hv;cases hv
    |some w=>
    rw[hk,hk2] at hv;simp at hv;refine z.gh 2 (ls:=[.sl,li]) (x:=(s,root)) ?_;refine z.ld 0 (x:=kx) ?_;refine (S.kx.fr z.fr).ix (by omega) (by simpa using hk) λa1 g c=>c.sL rfl rfl ?_;refine z.ld 1 (x:=ky) ?_;refine (S.ky.fr z.fr).ix (by omega) (by simpa using hk2) λa1 g c=>c.sL rfl rfl ?_;cases hs:same k N v w with
    |none=>rw[hs] at hv;cases hv
    |some b1=>
    rw[hs] at hv;rw[ah];refine (ih1 n v w b1 h _ (by omega) hs z).mono λb' h2 hz=>?_;obtain⟨rfl,z⟩:=hz;cases b' with
    |false=>
     cases hv;rw[By (by rfl),ag];exact⟨rfl,z⟩
    |true=>
     simp at hv;rw[AT (by simp)];refine z.gh 2 (ls:=[.sl,li]) (x:=(s,root)) ?_;refine z.ld 0 (x:=ix) ?_;refine (S.ix.fr z.fr).ix (by omega) (by simpa using hp) λa1 g c=>c.sL rfl rfl ?_;refine z.ld 1 (x:=iy) ?_;refine (S.iy.fr z.fr).ix (by omega) (by simpa using hq) λa1 g c=>c.sL rfl rfl ?_;cases hs2:same k N p q with
     |none=>rw[hs2] at hv;cases hv
     |some b2=>
     rw[hs2] at hv;rw[ah];refine (ih1 n p q b2 _ _ (by omega) hs2 z).mono λb' h3 hz=>?_;obtain⟨rfl,z⟩:=hz;cases b' with
     |false=>
      cases hv;rw[By (by rfl),ag];exact⟨rfl,z⟩
     |true=>
      simp at hv;rw[AT (by simp)];exact nxt hv z
   .rw[AT e5] at hv;rw[AT (by simpa using e5)];refine z.gh 2 (ls:=[.sl,li]) (x:=(s,root)) ?_;refine z.ld 0 (x:=ix) ?_;refine (S.ix.fr z.fr).ix (by omega) (by simpa using hp) λa1 g c=>c.sL rfl rfl ?_;refine z.ld 1 (x:=iy) ?_;refine (S.iy.fr z.fr).ix (by omega) (by simpa using hq) λa1 g c=>c.sL rfl rfl ?_;cases hs2:same k N p q with
    |none=>rw[hs2] at hv;cases hv
    |some b2=>
    rw[hs2] at hv;rw[ah];refine (ih1 n p q b2 _ _ (by omega) hs2 z).mono λb' h3 hz=>?_;obtain⟨rfl,z⟩:=hz;cases b' with
    |false=>
     cases hv;rw[By (by rfl),ag];exact⟨rfl,z⟩
    |true=>
     simp at hv;rw[AT (by simp)];exact nxt hv z
def afo {s}{root}{N}(z:Z h0 h L)(G:ou h0 s N){B}(hB:Bd N B){k n}{i j}{r}(hn:k<=n)(hv:same k N i j=some r):Wp (jr n (s,root) i j) h λx h'=>x=r/\Z h0 h' L:=
 (Qv G hB k).1 n i j r h L hn hv z
end
section
variable {α β:Type}{h h' h0:ai}{L:List aZ}{Q:β->ai->Prop}
def isKey (N:List aq)(k:Int)(t:ζ)(y:Int):Bool:=match gt N y with
 |some n=>decide (k=n.kind)&&qk t n.text
 |none=>false
def twC (k:Nat)(N:List aq)(x:Int):ε->Option Bool
 |[]=>some false
 |y::ys=>match same k N x y with
  |none=>none
  |some true=>some true
  |some false=>twC k N x ys
def XY (k:Nat)(N:List aq):ε->ε->Option Bool
 |_,[]=>some false
 |met,x::xs=>match gt N x with
  |none=>none
  |some n=>match twC k N x (met.filter (isKey N n.kind n.text)) with
   |none=>none
   |some true=>some true
   |some false=>XY k N (met++[x]) xs
def twN (k:Nat)(N:List aq):List aq->Option Bool
 |[]=>some false
 |x::xs=>match XY k N [] x.keys with
  |none=>none
  |some true=>some true
  |some false=>twN k N xs
structure Qw where
 kind:Int
 text:ζ
 s:Sl
 g:Nat
 xs:ε
def Qw.own (e:Qw):aZ:=.ps e.s 1 al (e.xs.map vi) e.g
def DJ (k:Int)(t:ζ):ξ:=Value.agg #[vi k,Value.string t]
def I4 k k' t t':DO (DJ k t) (DJ k' t')=(decide (k=k')&&qk t t'):=by
 show Bq [vi k,Value.string t] [vi k',Value.string t']=_;unfold Bq Bq Bq;show (((Q7 .i64 .i64&&decide (k=k')))&&(qk t t'&&true))=_;rw[show Q7 .i64 .i64=true from rfl];simp
theorem Gh a:qk a a=true:=(aeN a a).2 rfl
def lk:List Qw->Int->ζ->Option (Nat×Qw)
 |[],_,_=>none
 |e::r,k,t=>if (decide (k=e.kind)&&qk t e.text)=true then some (0,e) else (lk r k t).map λp=>(p.1+1,p.2)
theorem Vh:∀{E} {k} {t} {i} {e},lk E k t=some (i,e)->E[i]?=some e/\k=e.kind/\t=e.text
 |[],k,t,i,e,hl=>by cases hl
 |x::r,k,t,i,e,hl=>by
  rw[lk] at hl;split at hl
  .rename_i hc;cases hl;simp at hc;exact⟨rfl,hc.1,kS hc.2⟩
  .cases hr:lk r k t with
   |none=>grind
   |some p=>
    rw[hr] at hl;cases hl;have:=Vh hr
    grind
theorem abx:∀{E} {k} {t} {i} {e e'},lk E k t=some (i,e)->e'.kind=k->e'.text=t->∀k' t',lk (E.set i e') k' t'=if (decide (k'=k)&&qk t' t)=true then some (i,e') else lk E k' t'
 |[],k,t,i,e,e',hl,_,_=>by cases hl
 |x::r,k,t,i,e,e',hl,h1,h2=>by
  intro k' t';rw[lk] at hl;split at hl
  .rename_i hc;cases hl;simp at hc;rw[amc,lk,h1,h2];split
   .rfl
   .rename_i hn;rw[lk,AT]
    grind [kS]
  .rename_i hc;cases hr:lk r k t with
   |none=>grind
   |some p=>
    rw[hr] at hl;cases hl;rw[anL,lk,abx hr h1 h2 k' t',lk];by_cases hx:(decide (k'=x.kind)&&qk t' x.text)=true
    .rw[By hx,By hx,AT]
     grind [kS]
    grind
structure TwI (N:List aq) (E:List Qw) (met:ε) (f:ξ->Option ξ):Prop where
 f:∀k t,f (DJ k t)=(lk E k t).map λp=>aA p.2.s
 nn:∀k t,lk E k t=none->met.filter (isKey N k t)=[]
 ss:∀k t i e,lk E k t=some (i,e)->e.xs=met.filter (isKey N k t)
def TwI.nil N:TwI N [] [] λ_=>none:=⟨λ_ _=>rfl,λ_ _ _=>rfl,λ_ _ _ _ hl=>by cases hl⟩
theorem AA {N}{met}{x}{n}(hn:gt N x=some n) k t :
  (met++[x]).filter (isKey N k t)=met.filter (isKey N k t)++if (decide (k=n.kind)&&qk t n.text)=true then [x] else []:=by
 grind [isKey]
theorem TwI.wj {N}{E}{met}{f}(I:TwI N E met f){x}{n}(hn:gt N x=some n){i}{e}(hl:lk E n.kind n.text=some (i,e)) s g :
  TwI N (E.set i ⟨n.kind,n.text,s,g,e.xs++[x]⟩) (met++[x]) (Ek f (DJ n.kind n.text) (aA s)):=by
 have hs:=abx (e':=⟨n.kind,n.text,s,g,e.xs++[x]⟩) hl rfl rfl;refine⟨λk t=>?_,λk t h1=>?_,λk t j e2 h1=>?_⟩
 .rw[hs,Ek,I4];split
  .grind
  .rename_i hc;exact I.f k t
 .rw[hs] at h1;rw[AA hn];split at h1
  .cases h1
  .rename_i hc;rw[AT hc,I.nn k t h1];rfl
 .rw[hs] at h1;rw[AA hn];split at h1
  .rename_i hc;cases h1;rw[By hc];simp at hc;rw[hc.1,kS hc.2,<-I.ss _ _ _ _ hl]
  .rename_i hc;rw[AT hc,afx,<-I.ss _ _ _ _ h1]
theorem TwI.add {N}{E}{met}{f}(I:TwI N E met f){x}{n}(hn:gt N x=some n)(hl:lk E n.kind n.text=none) s g f'
  (hf:∀k t,f' (DJ k t)=if (decide (k=n.kind)&&qk t n.text)=true then some (aA s) else f (DJ k t)) :
  TwI N (⟨n.kind,n.text,s,g,[x]⟩::E) (met++[x]) f':=by
 refine⟨λk t=>?_,λk t h1=>?_,λk t j e2 h1=>?_⟩
 .rw[hf,lk];split
  .rfl
  .rw[I.f,Option.map_map];rfl
 .rw[lk] at h1;rw[AA hn];split at h1
  .cases h1
  .rename_i hc;simp at h1;rw[AT hc,I.nn k t h1];rfl
 .rw[lk] at h1;rw[AA hn];split at h1
  .rename_i hc;cases h1;rw[By hc];simp at hc;rw[hc.1,kS hc.2,I.nn _ _ hl];rfl
  .rename_i hc;cases hr:lk E k t with
   |none=>grind
   |some p=>
    rw[hr] at h1;cases h1;rw[AT hc,afx,<-I.ss k t p.1 p.2 hr]
theorem ahB {s}{root}{N}(G:ou h0 s N){B}(hB:Bd N B){k}{x}{sl}{ys}(hl:ys.length<=B){o1}{b0} a1 a3 a4 a5 a6 a7 a8 a9
  (hr:∀h',Z h0 h' (o1::.ar b0 [aA s,vi root] aj::L)->IL h' sl ys) (hsl:sl.len=ys.length) :
  ∀n i r h ,k+(ys.length-i)<n->i<=ys.length->twC k N x (ys.drop i)=some r->Z h0 h (o1::.ar b0 [aA s,vi root] aj::L) ->
   Wp (pX n (ak b0) a1 x a3 a4 a5 a6 a7 a8 a9 sl (sl.len:Int) (i:Int)) h λz h'=>z=(if r then .inr true else .inl ())/\Z h0 h' (o1::.ar b0 [aA s,vi root] aj::L):=by
 intro n
 induction n with
 |zero=>intro i r h h1;omega
 |succ n ih=>
  intro i r h h1 h2 hv z;rw[Dm];unfold uH;rw[hsl];by_cases hi:i<ys.length
  .rw[By (by grind)];obtain⟨y,hy⟩:=eC hi;rw[drop_cons hy,twC] at hv;refine (hr h z).ix (by omega) (by simpa using hy) λa g c=>c.sL rfl rfl ?_;refine z.gh 1 (ls:=[.sl,li]) (x:=(s,root)) ?_;cases hs:same k N x y with
   |none=>rw[hs] at hv;cases hv
   |some b=>
    rw[hs] at hv;rw[ah];refine (afo z G hB (by omega) hs).mono λb' h3 hz=>?_;obtain⟨rfl,z⟩:=hz;cases b' with
    |true=>cases hv;rw[By rfl,ag];grind
    |false=>
     rw[AT (by simp),wZ h2 (by have:=hB.2.1;omega)];have:=ih (i+1) r h3 (by omega) (by omega) hv z
     rwa [hsl] at this
  .rw[AT (by grind),ag];have:ys.drop i=[]:=abY (by omega);rw[this] at hv;cases hv;grind
def filter_le {N}{met:ε} k t:(met.filter (isKey N k t)).length<=met.length:=List.length_filter_le _ _
theorem am7 {s}{root}{N}(G:ou h0 s N){B}(hB:Bd N B){k}{sl}{xs}(il:IL h0 sl xs)(hl:xs.length<=B){b0 m} a2 a3 a4 :
  ∀n i r h E met f c ,k+B+(xs.length-i)+2<n->i<=xs.length->met.length=i->XY k N met (xs.drop i)=some r->TwI N E met f ->
   Z h0 h (.ar b0 [aA s,vi root] aj::.map m eg f c::(E.map Qw.own++L)) ->
   Wp (mP n (ak b0) (some m) a2 a3 a4 sl (sl.len:Int) (i:Int)) h λz h'=>z=(if r then .inr true else .inl ())/\Z h0 h' (.ar b0 [aA s,vi root] aj::L):=by
 have hbig:B<=da:=by have:=hB.2.1;grind [da]
 have fin:∀{h:ai} {E:List Qw} {f:ξ->Option ξ} {c:Nat},Z h0 h (.ar b0 [aA s,vi root] aj::.map m eg f c::(E.map Qw.own++L))->Z h0 h (.ar b0 [aA s,vi root] aj::L):=λz=>
  z.sub ((List.Sublist.cons _ (ahY _ _)).cons₂ _)
 intro n
 induction n with
 |zero=>intro i r h E met f c h1;omega
 |succ n ih=>
  intro i r h E met f c h1 h2 hm hv I z;rw[Dp];unfold uI;rw[il.len];by_cases hi:i<xs.length
  .rw[By (by grind)];obtain⟨x,hx⟩:=eC hi;rw[drop_cons hx,XY] at hv;cases hn:gt N x with
   |none=>rw[hn] at hv;cases hv
   |some nx=>
   rw[hn] at hv;simp at hv;obtain⟨x1,x2⟩:=aB hn;refine (il.fr z.fr).ix (by omega) (by simpa using hx) λa g cl=>cl.sL rfl rfl ?_;refine z.dP [13] (by decide) (by decide) λnb h3 z=>?_;refine z.ld 1 ?_;refine G.at z x1 x2 λa1 k1 i1 n1 _ _=>n1.Q0 ?_;refine z.ld 1 ?_;refine G.at z x1 x2 λa2' k2 i2 n2 _ _=>n2.Q8 ?_;refine z.newAt 0 λh4 z=>z.st 0 λh5 z=>?_;refine z.gh 0 ?_;have z:Z h0 h5 (.ar (nb+13) [vi nx.kind,.string nx.text] eg::.ar b0 [aA s,vi root] aj::.map m eg f c::(E.map Qw.own++L)):=z;have hfk:f (DJ nx.kind nx.text)=(lk E nx.kind nx.text).map λp=>aA p.2.s:=I.f _ _;have hst:∀{E':List Qw} {f':ξ->Option ξ} {c':Nat} {h':ai},Z h0 h' (.ar (nb+13) [vi nx.kind,.string nx.text] eg::.ar b0 [aA s,vi root] aj::.map m eg f' c'::(E'.map Qw.own++L))->TwI N E' (met++[x]) f'->XY k N (met++[x]) (xs.drop (i+1))=some r ->
     Wp (mP n (ak b0) (some m) a2 a3 a4 sl (xs.length:Int) (IntKind.i64.wrap ((i:Int)+1))) h' λz h'=>z=(if r then .inr true else .inl ())/\Z h0 h' (.ar b0 [aA s,vi root] aj::L):=by
    intro E' f' c' h' z I hv;rw[wZ h2 (by have:=hB.2.1;omega)];have:=ih (i+1) r h' E' (met++[x]) f' c' (by omega) (by omega) (by simp[hm]) hv I z.drop
    rwa [il.len] at this
   cases hlk:lk E nx.kind nx.text with
   |none=>
    rw[hlk] at hfk;have hnil:=I.nn _ _ hlk;rw[hnil,twC] at hv;simp at hv;refine z.jz 2 (k:=DJ nx.kind nx.text) rfl (λv hv2=>by rw[hfk] at hv2;cases hv2) λ_=>?_;have hw:=ahB G hB (k:=k) (x:=x) (sl:=ow) (ys:=[]) (by simp) (some m) (ak (nb+13)) a2 a3 a4 sl (xs.length:Int) (i:Int) (λh' _=>⟨0,vR.nil rfl⟩) rfl n 0 false h5 (by simp;omega) (by simp) rfl z;rw[ah];refine hw.mono λy h6 hy=>?_;obtain⟨rfl,z⟩:=hy;show Wp (sh _ _) h6 _;refine z.gh 0 ?_;refine z.Zp 2 (k:=DJ nx.kind nx.text) rfl (by rw[I4];simp[Gh]) (λv hv2=>by grind) λ_ h7 st z hs=>?_;have z:=z.add (Fr.refl z.wf) (o:=.ps ⟨none,0,0⟩ 1 al [] 0) zb.nil (.inl rfl);refine z.V9 0 rfl (by decide) rfl (by grind) λs' h8 g' hs' z fr=>?_;have hs:=hs.fr fr (by simp);have z:Z h0 h8 (.ps s' 1 al [vi x] g'::.ar (nb+13) [vi nx.kind,.string nx.text] eg::.ar b0 [aA s,vi root] aj::.map m eg (Ek f (DJ nx.kind nx.text) (GH (Ty.one .sl) ow)) (c+1)::(E.map Qw.own++L)):=z;refine z.Zq 3 rfl hs λh9 z=>?_;have z:Z h0 h9 (.ps s' 1 al [vi x] g'::.ar (nb+13) [vi nx.kind,.string nx.text] eg::.ar b0 [aA s,vi root] aj::.map m eg (Ek (Ek f (DJ nx.kind nx.text) (GH (Ty.one .sl) ow)) (DJ nx.kind nx.text) (aA s')) (c+1)::(E.map Qw.own++L)):=z;have z:=z.perm (L':=.ar (nb+13) [vi nx.kind,.string nx.text] eg::.ar b0 [aA s,vi root] aj::.map m eg (Ek (Ek f (DJ nx.kind nx.text) (GH (Ty.one .sl) ow)) (DJ nx.kind nx.text) (aA s')) (c+1)::.ps s' 1 al [vi x] g'::(E.map Qw.own++L)) (al2 (l₁:=[_,_,_])).symm;refine hst z (I.add hn hlk s' g' _ λk' t'=>?_) hv;unfold Ek;rw[I4];split<;>rfl
   |some p=>
    obtain⟨j,e⟩:=p;rw[hlk] at hfk;obtain⟨e1,e2,e3⟩:=Vh hlk;have hxs:=I.ss _ _ _ _ hlk;have hjlt:=aJ e1;rw[<-hxs] at hv;have hown:∀{f':ξ->Option ξ} {c':Nat},(.ar (nb+13) [vi nx.kind,.string nx.text] eg::.ar b0 [aA s,vi root] aj::.map m eg f' c'::(E.map Qw.own++L):List aZ)[j+3]?=some (.ps e.s 1 al (e.xs.map vi) e.g):=by
     intro f' c';simp;rw[ahQ (by grind),abh,e1];rfl
    have hlen:e.s.len=e.xs.length:=(zb.GD (z.get (j+3) hown)).Aa;have hle:e.xs.length<=i:=(by rw[hxs,<-hm];exact filter_le _ _);refine z.jz 2 (k:=DJ nx.kind nx.text) rfl (λv hv2=>?_) λhv2=>(by rw[hfk] at hv2;cases hv2);rw[hfk] at hv2;cases hv2;refine⟨e.s,rfl,?_⟩;cases hc:twC k N x e.xs with
    |none=>rw[hc] at hv;cases hv
    |some b=>
    rw[hc] at hv;have hw:=ahB G hB (by omega) (some m) (ak (nb+13)) a2 a3 a4 sl (xs.length:Int) (i:Int) (λh' z=>⟨_,zb.GD (z.get (j+3) hown)⟩) hlen n 0 b h5 (by omega) (by omega) hc z;rw[ah];refine hw.mono λy h6 hy=>?_;obtain⟨rfl,z⟩:=hy;cases b with
    |true=>
     cases hv;exact ag.2 ⟨rfl,fin z.drop⟩
    |false=>
     simp at hv;show Wp (sh _ _) h6 _;refine z.gh 0 ?_;refine z.Zp 2 (k:=DJ nx.kind nx.text) rfl (by rw[I4];simp[Gh]) (λv hv2=>?_) λhv2=>(by rw[hfk] at hv2;cases hv2);rw[hfk] at hv2;cases hv2;refine⟨e.s,rfl,λst hs=>?_⟩;have hne:e.g≠m+1:=z.ne 2 (j+3) rfl hown (by omega) (by simp[aZ.jo]);refine z.V9 (j+3) hown (by decide) rfl (by grind) λs' h8 g' hs' z fr=>?_;have hs:=hs.fr fr (λe=>hne e.symm);refine z.Zq 2 rfl hs λh9 z=>?_;refine hst (c':=c) (z.perm ?_) (I.wj hn hlk s' g') hv;refine List.Perm.of_eq ?_;show aZ.ar (nb+13) _ _::aZ.ar b0 _ _::aZ.map m _ _ _::((E.map Qw.own++L).set j _)=_;rw[apY _ _ (by simpa using hjlt),an3]
     congr 4
     simp[Qw.own]
  .rw[AT (by grind),ag]
   grind [List.drop_eq_nil_of_le,XY,XY]
theorem am8 {s}{root}{N}(G:ou h0 s N){B}(hB:Bd N B){k b0} :
  ∀n i r h L ,k+(N.length-i)+2*B+7<n->i<=N.length->twN k N (N.drop i)=some r->Z h0 h (.ar b0 [aA s,vi root] aj::L) ->
   Wp (mQ n (ak b0) s (s.len:Int) (i:Int)) h λz h'=>z=(if r then .inr true else .inl ())/\Z h0 h' L:=by
 intro n
 induction n with
 |zero=>intro i r h L h1;omega
 |succ n ih=>
  intro i r h L h1 h2 hv z;rw[Dq];unfold uJ;rw[G.len];by_cases hi:i<N.length
  .rw[By (by grind)];obtain⟨x,hx⟩:=eC hi;rw[drop_cons hx,twN] at hv;have hbd:=hB.2.2 x (IN hx);refine G.at z (by omega) (by simpa using hx) λa ks is nd ik ii=>nd.gh ?_;refine z.node λx2 h2' z=>?_;refine z.aob λm h3 z=>?_;refine z.ld 1 (x:=ks) ?_;cases hk:XY k N [] x.keys with
   |none=>rw[hk] at hv;cases hv
   |some b=>
    rw[hk] at hv;have z:=z.perm (L':=.ar b0 [aA s,vi root] aj::.map m eg (λ_=>none) 0::([]++(.ar x2 [vi x.kind,.string x.text,.bool x.ord,aA ks,aA is] av::L))) ((al2 (l₁:=[_,_])).trans (apn _));rw[ah];refine (am7 (k:=k) G hB ik hbd.1 s (N.length:Int) (i:Int) n 0 b h3 [] [] _ 0 (by omega) (by omega) rfl (by grind) (TwI.nil N) z).mono λy h4 hy=>?_;obtain⟨rfl,z⟩:=hy;have z:=(z.perm (List.Perm.swap _ _ _)).drop;cases b with
    |true=>cases hv;exact ag.2 ⟨rfl,z.drop⟩
    |false=>
     simp at hv;show Wp (mQ n _ _ _ _) h4 _;rw[wZ h2 (by have:=hB.1;have:=hB.2.1;omega)];have:=ih (i+1) r h4 L (by omega) (by omega) hv z
     rwa [G.len] at this
  .rw[AT (by grind),ag];have:N.drop i=[]:=abY (by omega);rw[this] at hv;cases hv;exact⟨rfl,z.drop⟩
theorem abz {s}{root}{N}(z:Z h0 h L)(G:ou h0 s N){B}(hB:Bd N B){k n}(hn:k+3*B+8<n){r}(hr:twN k N N=some r) :
  Wp (ym n (s,root)) h λx h'=>x=r/\Z h0 h' L:=by
 unfold ym;refine z.new λx0 h1 z _=>?_;refine z.ld 0 ?_;rw[ah];refine (am8 G hB (k:=k) n 0 r h1 L (by have:=hB.1;omega) (by omega) (by grind) z).mono λy h2 hy=>?_;obtain⟨rfl,z⟩:=hy;cases r with
 |true=>exact ag.2 ⟨rfl,z⟩
 |false=>exact ag.2 ⟨rfl,z⟩
end
section
variable {α β:Type}{h h' h0:ai}{L:List aZ}{Q:β->ai->Prop}
structure TS where
 next:Int
 ix:ε
 lo:ε
 nn:ε
 on:List Bool
 gM:ε
 ff:ε
def mn (a b:Int):Int:=if b<a then b else a
def KM (a:Int)(st:TS):Option TS:=
 if st.gM.length+1<=da/\st.ff.length+1<=da/\(gt st.ix a).isSome/\(gt st.lo a).isSome/\(gt st.on a).isSome then
  let nx:=IntKind.i64.wrap (st.next+1)
  some { st with next:=nx,ix:=st.ix.set a.toNat nx,lo:=st.lo.set a.toNat nx,gM:=st.gM++[a],on:=st.on.set a.toNat true }
 else none
def LS (a v:Int)(st:TS):Option TS:=match gt st.lo a with
 |none=>none
 |some w=>some { st with lo:=st.lo.set a.toNat (mn w v) }
def tp:Nat->Int->TS->Int->Option (TS×Int)
 |0,_,_,_=>none
 |k+1,a,st,n=>match st.gM.getLast? with
  |none=>none
  |some x=>
   if (gt st.on x).isSome/\(gt st.nn x).isSome/\st.gM.length<=da then
    let st1:={ st with gM:=st.gM.dropLast,on:=st.on.set x.toNat false,nn:=st.nn.set x.toNat (st.ff.length:Int) }
    if x=a then some (st1,IntKind.i64.wrap (n+1)) else tp k a st1 (IntKind.i64.wrap (n+1))
   else none
mutual
def tv:Nat->List aq->Int->TS->Option TS
 |0,_,_,_=>none
 |k+1,N,a,st=>match KM a st with
  |none=>none
  |some st1=>match gt N a with
   |none=>none
   |some x=>match tl k N a x.keys st1 with
    |none=>none
    |some yW=>match tl k N a x.items yW with
     |none=>none
     |some st3=>match gt st3.lo a,gt st3.ix a with
      |some l,some i=>
       if l≠i then some st3 else match tp k a st3 0 with
        |none=>none
        |some (st4,n)=>if st4.ff.length+1<=da then some { st4 with ff:=st4.ff++[n] } else none
      |_,_=>none
def tl:Nat->List aq->Int->ε->TS->Option TS
 |0,_,_,_,_=>none
 |_+1,_,_,[],st=>some st
 |k+1,N,a,x::xs,st=>match ts k N a x st with
  |none=>none
  |some st1=>tl k N a xs st1
def ts:Nat->List aq->Int->Int->TS->Option TS
 |0,_,_,_,_=>none
 |k+1,N,a,x,st=>match gt st.ix x with
  |none=>none
  |some i=>
   if i=0 then match tv k N x st with
    |none=>none
    |some st1=>match gt st1.lo x with
     |none=>none
     |some l=>LS a l st1
   else match gt st.on x with
    |none=>none
    |some false=>some st
    |some true=>LS a i st
end
structure TC where
 c1:Nat
 c2:Nat
 c3:Nat
 c4:Nat
 c5:Nat
 c6:Nat
 c7:Nat
 c8:Nat
 c9:Nat
 bi:Nat
 bl:Nat
 bn:Nat
 bo:Nat
def pv (b:Nat):ξ:=Value.pointer (some (ak b))
def fnC (C:TC):ξ:=Value.func (Fn.func lD) #[] #[pv C.c1,pv C.c2,pv C.c3,pv C.c4,pv C.c5,pv C.c6,pv C.c7,pv C.c8,pv C.c9]
def fnS (C:TC)(b:Nat):ξ:=Value.func (Fn.func jR) #[] #[pv C.c2,pv C.c6,pv C.c3,pv b,pv C.c5]
def arr (b m:Nat):Sl:=⟨some ⟨b,0,none⟩,m,m+1⟩
def TL (C : TC) (m : Nat) (s : Sl) (root : Int) (st : TS) (s1 s2 : Sl) (g1 g2 : Nat) : List aZ:=
  [.ar C.c1 [vi st.next] al, .ar C.c2 [aA (arr C.bi m)] aF, .ar C.c3 [aA (arr C.bl m)] aF, .ar C.c4 [aA s1] aF, .ar C.c5 [aA (arr C.bo m)] wW, .ar C.c6 [fnC C] uC,
   .ar C.c7 [aA s, vi root] aj, .ar C.c8 [aA s2] aF, .ar C.c9 [aA (arr C.bn m)] aF,
   .ar C.bi (st.ix.map vi) al, .ar C.bl (st.lo.map vi) al, .ar C.bn (st.nn.map vi) al, .ar C.bo (st.on.map .bool) Ep,
   .ps s1 1 al (st.gM.map vi) g1, .ps s2 1 al (st.ff.map vi) g2]
structure Yr (m:Nat) (st:TS):Prop where
 ix:st.ix.length=m
 lo:st.lo.length=m
 nn:st.nn.length=m
 on:st.on.length=m
def TZ (C:TC)(m:Nat)(s:Sl)(root:Int)(h0 h:ai)(st:TS)(E:List aZ):Prop:=
 Yr m st/\∃s1 s2 g1 g2,Z h0 h (TL C m s root st s1 s2 g1 g2++E)
def _root_.Go.Ago.Z.Q5 (z:Z h0 h L)(i:Nat){b m:Nat}{e:κ}{c:ε}{a v:Int}{f:Int->M β}(hg:gt c a=some v)(hm:c.length=m)(q:Wp (f v) h Q)(hi:L[i]?=some (.ar b (c.map vi) e):=by rfl) :
  Wp (sh (mz (arr b m) a 1) λp=>sh (dL li p) f) h Q:=by
 obtain⟨g1,g2⟩:=aB hg;have hlt:=aJ g2;refine GF g1 (by omega) ?_;exact z.ld i q hi (by rw[ahS,abh,g2];rfl) rfl
def _root_.Go.Ago.Z.rdB (z:Z h0 h L)(i:Nat){b m:Nat}{e:κ}{c:List Bool}{a:Int}{v:Bool}{f:Bool->M β}(hg:gt c a=some v)(hm:c.length=m)(q:Wp (f v) h Q)(hi:L[i]?=some (.ar b (c.map .bool) e):=by rfl) :
  Wp (sh (mz (arr b m) a 1) λp=>sh (dL .bool p) f) h Q:=by
 obtain⟨g1,g2⟩:=aB hg;have hlt:=aJ g2;refine GF g1 (by omega) ?_;exact z.ld i q hi (by rw[ahS,abh,g2];rfl) rfl
def Qx {c:List α}{a}(hg:(gt c a).isSome=true):0<=a/\a.toNat<c.length/\∃v,gt c a=some v:=by
 cases h1:gt c a with
 |none=>grind
 |some v=>exact⟨(aB h1).1,aJ (aB h1).2,v,rfl⟩
def E7 {b m}{a}(h1:0<=a)(h2:a.toNat<m){f}(q:Wp (f ⟨b,a.toNat,none⟩) h Q):Wp (sh (mz (arr b m) a 1) f) h Q:=by
 refine GF h1 (by omega) ?_;rw[ahS];exact q
def Ti {l:List α}{x}(hl:l.getLast?=some x):l=l.dropLast++[x]:=by
 cases l with
 |nil=>cases hl
 |cons a r=>
  grind [List.getLast?_eq_some_getLast,Option.some.inj,List.dropLast_concat_getLast]
def am9 {C}{m}{s}{root}{b} :
  ∀k n a st r v w h E ,k<=n->tp k a st v=some (r,w)->TZ C m s root h0 h st (.ar b [vi a] al::E) ->
   Wp (eH n (ak C.c4) (ak C.c5) (ak C.c8) (ak C.c9) (ak b) v) h λy h'=>y=w/\TZ C m s root h0 h' r (.ar b [vi a] al::E):=by
 intro k
 induction k with
 |zero=>intro n a st r v w h E _ hv;cases hv
 |succ k ih=>
  intro n a st r v w h E hn hv tz;obtain⟨n,rfl⟩:∃m,n=m+1:=⟨n-1,by omega⟩;rw[xo];unfold mI;rw[tp] at hv;cases hx:st.gM.getLast? with
  |none=>rw[hx] at hv;cases hv
  |some x=>
   rw[hx] at hv;simp only at hv;split at hv
   case isFalse=>cases hv
   rename_i hc;obtain⟨x1,x2,_⟩:=Qx hc.1;obtain⟨_,x3,_⟩:=Qx hc.2.1;obtain⟨ok,s1,s2,g1,g2,z⟩:=tz;have hst:=Ti hx;have hps:zb h s1 1 al (st.gM.map vi) g1:=z.get 13 rfl;have hlen:s1.len=st.gM.length:=hps.GD.Aa;have hl2:=alZ List.length hst;simp at hl2;have hpos:st.gM.length≠0:=λe=>by grind
   have hbnd:s1.len<9223372036854775808:=by
    grind [da]
   have e1:IntKind.i64.wrap ((s1.len:Int)-1)=((s1.len:Nat):Int)-1:=IntWalk.i64_in _ ⟨by omega,by omega⟩;refine z.ld 3 ?_;refine z.ld 3 ?_;rw[e1];refine hps.GD.Ys (v:=x) (by omega) ?_ λad cl=>cl.sL rfl rfl ?_
   .rw[apA] at hx;rw[<-hx];congr 1;omega
   refine z.ld 3 ?_;refine z.ld 3 ?_;rw[e1];refine z.adJ 13 (by show some (aZ.ps s1 1 al (st.gM.map vi) g1)=_;(conv=>lhs;rw[hst]);rw[ahO];rfl) λs1' hs1 z=>?_
   refine z.st 3 λh1 z=>?_;refine z.ld 4 ?_;refine E7 x1 (by rw[<-ok.on];exact x2) ?_;refine z.DV 12 x2 λh2 z=>?_;refine z.ld 8 ?_;refine z.ld 7 ?_;refine E7 x1 (by rw[<-ok.nn];exact x3) ?_;have hsz:s2.len=st.ff.length:=(zb.GD (z.get 14 rfl)).Aa;rw[hsz];refine z.DV 11 x3 λh3 z=>?_;refine z.ld 15 ?_;have tz:TZ C m s root h0 h3 { st with gM:=st.gM.dropLast,on:=st.on.set x.toNat false,nn:=st.nn.set x.toNat (st.ff.length:Int) } (.ar b [vi a] al::E):=
    ⟨⟨ok.ix,ok.lo,by simp[ok.nn],by simp[ok.on]⟩,s1',s2,g1,g2,z⟩
   by_cases hxa:x=a
   .rw[By hxa] at hv;cases hv;rw[By (by grind),ag]
    grind
   .rw[AT hxa] at hv;rw[AT (by grind)];exact ih n a _ r _ w h3 E (by omega) hv tz
def ana {C}{m}{s}{root}{N}(G:ou h0 s N){B}(hB:Bd N B) :
  ∀k ,(∀n a st r h E ,k<=n->tv k N a st=some r->TZ C m s root h0 h st E ->
    Wp (fY n a (ak C.c1) (ak C.c2) (ak C.c3) (ak C.c4) (ak C.c5) (ak C.c6) (ak C.c7) (ak C.c8) (ak C.c9)) h λ_ h'=>TZ C m s root h0 h' r E) /\
   (∀n a b sl xs i st r h E ,k<=n->tl k N a (xs.drop i) st=some r->IL h0 sl xs->i<=xs.length->xs.length<=B->TZ C m s root h0 h st (.ar b [vi a] al::E) ->
    Wp (eK n (ak C.c2) (ak C.c3) (ak C.c4) (ak C.c5) (ak C.c7) (ak C.c8) (ak C.c9) (ak b) (fnS C b) sl (sl.len:Int) (i:Int)) h λ_ h'=>TZ C m s root h0 h' r (.ar b [vi a] al::E)) /\
   (∀n a b sl xs i st r h E ,k<=n->tl k N a (xs.drop i) st=some r->IL h0 sl xs->i<=xs.length->xs.length<=B->TZ C m s root h0 h st (.ar b [vi a] al::E) ->
    Wp (eJ n (ak C.c2) (ak C.c3) (ak C.c4) (ak C.c5) (ak C.c8) (ak C.c9) (ak b) (fnS C b) sl (sl.len:Int) (i:Int)) h λ_ h'=>TZ C m s root h0 h' r (.ar b [vi a] al::E)) /\
   (∀n a x b st r h E ,k<=n->ts k N a x st=some r->TZ C m s root h0 h st (.ar b [vi a] al::E) ->
    Wp (gp n x (ak C.c2) (ak C.c6) (ak C.c3) (ak b) (ak C.c5)) h λ_ h'=>TZ C m s root h0 h' r (.ar b [vi a] al::E)):=by
 intro k
 induction k with
 |zero=>grind [tv,tl,ts]
 |succ k ih=>
  obtain⟨ih1,ih2,ih3,ih4⟩:=ih;refine⟨λn a st r h E hn hv tz=>?_,λn a b sl xs i st r h E hn hv il hi hxB tz=>?_,λn a b sl xs i st r h E hn hv il hi hxB tz=>?_,λn a x b st r h E hn hv tz=>?_⟩
  .obtain⟨n,rfl⟩:∃m,n=m+1:=⟨n-1,by omega⟩;rw[zk];unfold pT;rw[tv] at hv;cases hp:KM a st with
   |none=>rw[hp] at hv;cases hv
   |some st1=>
   rw[hp] at hv;simp only at hv;unfold KM at hp;split at hp
   case isFalse=>cases hp
   rename_i hc;obtain⟨c1,c2,c3,c4,c5⟩:=hc;obtain⟨a1,a2,_⟩:=Qx c3;obtain⟨_,a3,_⟩:=Qx c4;obtain⟨_,a4,_⟩:=Qx c5;have hp:=acZ hp;obtain⟨ok,s1,s2,g1,g2,z⟩:=tz;refine z.new λb h1 z _=>?_;have z:=z.perm List.perm_middle.symm;refine z.ld 0 ?_;refine z.st 0 λh2 z=>?_;refine z.ld 1 ?_;refine z.ld 15 ?_;refine z.ld 2 ?_;refine z.ld 15 ?_;refine z.ld 0 ?_;refine E7 a1 (by rw[<-ok.ix];exact a2) ?_;refine z.ld 0 ?_;refine z.aip 9 a2 ?_ λh3 z=>?_
   .intro a' ha';simp at ha';rcases ha' with rfl|rfl|rfl
    .exact z.nbO 9 2 rfl rfl (by decide)
    .exact z.nbO 9 15 rfl rfl (by decide)
    .exact z.nbO 9 0 rfl rfl (by decide)
   refine E7 a1 (by rw[<-ok.lo];exact a3) ?_;refine z.DV 10 a3 λh4 z=>?_;refine z.ld 3 ?_;refine z.ld 15 ?_;have hps:zb h4 s1 1 al (st.gM.map vi) g1:=z.get 13 rfl;have hlen:s1.len=st.gM.length:=hps.GD.Aa;refine z.V9 13 (new:=[vi a]) rfl (by decide) rfl (by grind) λs1' h5 g1' hs1 z _=>?_;refine z.st 3 λh6 z=>?_;refine z.ld 4 ?_;refine z.ld 15 ?_;refine E7 a1 (by rw[<-ok.on];exact a4) ?_;refine z.DV 12 a4 λh7 z=>?_;have tz:TZ C m s root h0 h7 st1 (.ar b [vi a] al::E):=by
    subst hp;refine⟨⟨by simp[ok.ix],by simp[ok.lo],ok.nn,by simp[ok.on]⟩,s1',s2,g1',g2,?_⟩;have:(st.gM++[a]).map vi=st.gM.map vi++[vi a]:=(by simp);unfold TL;simp only;rw[this];exact z
   clear z hps hlen;obtain⟨ok,s1,s2,g1,g2,z⟩:=tz;cases hx:gt N a with
   |none=>rw[hx] at hv;cases hv
   |some x=>
   rw[hx] at hv;simp only at hv;obtain⟨x1,x2⟩:=aB hx;have hb:=hB.2.2 x (IN x2);cases hk:tl k N a x.keys st1 with
   |none=>rw[hk] at hv;cases hv
   |some yW=>
   rw[hk] at hv;simp only at hv;cases hi:tl k N a x.items yW with
   |none=>rw[hi] at hv;cases hv
   |some st3=>
   rw[hi] at hv;simp only at hv;refine z.ld 6 ?_;refine z.ld 15 ?_;refine G.at z x1 x2 λad ks is nd ik ii=>nd.Lp ?_;rw[ah];refine (ih2 n a b ks x.keys 0 st1 yW _ E (by omega) hk ik (by omega) hb.1 ⟨ok,s1,s2,g1,g2,z⟩).mono λ_ h8 tz=>?_;obtain⟨ok,s1,s2,g1,g2,z⟩:=tz;refine z.ld 6 ?_;refine z.ld 15 ?_;refine G.at z x1 x2 λad2 ks2 is2 nd2 ik2 ii2=>nd2.Lq ?_;rw[ah];refine (ih3 n a b is2 x.items 0 yW st3 _ E (by omega) hi ii2 (by omega) hb.2 ⟨ok,s1,s2,g1,g2,z⟩).mono λ_ h9 tz=>?_;obtain⟨ok,s1,s2,g1,g2,z⟩:=tz;cases hl:gt st3.lo a with
   |none=>rw[hl] at hv;cases hv
   |some l=>
   cases hj:gt st3.ix a with
   |none=>rw[hl,hj] at hv;cases hv
   |some j=>
   rw[hl,hj] at hv;simp only at hv;refine z.ld 2 ?_;refine z.ld 15 ?_;refine z.Q5 10 hl ok.lo ?_;refine z.ld 1 ?_;refine z.ld 15 ?_;refine z.Q5 9 hj ok.ix ?_;have fin:∀{h':ai} {r:TS},TZ C m s root h0 h' r (.ar b [vi a] al::E)->TZ C m s root h0 h' r E:=λtz=>by
    obtain⟨ok,s1,s2,g1,g2,z⟩:=tz;exact⟨ok,s1,s2,g1,g2,(z.perm al2).drop⟩
   by_cases hlj:l=j
   .rw[AT (by grind)] at hv;rw[AT (by grind)];cases ht:tp k a st3 0 with
    |none=>rw[ht] at hv;cases hv
    |some q=>
    obtain⟨st4,w⟩:=q;rw[ht] at hv;simp only at hv;split at hv
    case isFalse=>cases hv
    rename_i hcs;cases hv;rw[ah];refine (am9 k n a st3 st4 0 w h9 E (by omega) ht ⟨ok,s1,s2,g1,g2,z⟩).mono λy h10 hy=>?_;obtain⟨rfl,ok,s1,s2,g1,g2,z⟩:=hy;refine z.ld 7 ?_;have hsz:s2.len=st4.ff.length:=(zb.GD (z.get 14 rfl)).Aa;refine z.V9 14 (new:=[vi y]) rfl (by decide) rfl (by grind) λs2' h11 g2' hs2 z _=>?_;refine z.st 7 λh12 z=>?_;rw[ag];refine fin ⟨⟨ok.ix,ok.lo,ok.nn,ok.on⟩,s1,s2',g1,g2',?_⟩;have:(st4.ff++[y]).map vi=st4.ff.map vi++[vi y]:=(by simp);unfold TL;simp only;rw[this];exact z
   .rw[By (by grind)] at hv;cases hv;rw[By (by grind),ag];exact fin ⟨ok,s1,s2,g1,g2,z⟩
  .obtain⟨n,rfl⟩:∃m,n=m+1:=⟨n-1,by omega⟩;rw[xq];unfold mK;rw[il.len];by_cases hi2:i<xs.length
   .rw[By (by grind)];obtain⟨x,hx⟩:=eC hi2;rw[drop_cons hx,tl] at hv;cases hs:ts k N a x st with
    |none=>rw[hs] at hv;cases hv
    |some st1=>
     rw[hs] at hv;simp at hv;have fr:Fr (λ_=>False) h0 h:=(by obtain⟨_,_,_,_,_,z⟩:=tz;exact z.fr);refine (il.fr fr).ix (by omega) (by simpa using hx) λa1 g c=>c.sL rfl rfl ?_;unfold fL;rw[ah,By (by rfl),ah];refine iA (c:=(ak C.c2,ak C.c6,ak C.c3,ak b,ak C.c5)) rfl ?_;refine (ih4 n a x b st st1 h E (by omega) hs tz).mono λ_ h2 tz=>?_;rw[wZ hi (by have:=hB.2.1;omega)];have:=ih2 n a b sl xs (i+1) st1 r h2 E (by omega) hv il (by omega) hxB tz
     rwa [il.len] at this
   .rw[AT (by grind),ag]
    grind [List.drop_eq_nil_of_le,tl]
  .obtain⟨n,rfl⟩:∃m,n=m+1:=⟨n-1,by omega⟩;rw[xp];unfold mJ;rw[il.len];by_cases hi2:i<xs.length
   .rw[By (by grind)];obtain⟨x,hx⟩:=eC hi2;rw[drop_cons hx,tl] at hv;cases hs:ts k N a x st with
    |none=>rw[hs] at hv;cases hv
    |some st1=>
     rw[hs] at hv;simp only at hv;have fr:Fr (λ_=>False) h0 h:=(by obtain⟨_,_,_,_,_,z⟩:=tz;exact z.fr);refine (il.fr fr).ix (by omega) (by simpa using hx) λa1 g c=>c.sL (l:=li) rfl rfl ?_;unfold lW fL;rw[ah,By (by rfl),ah];refine iA (c:=(ak C.c2,ak C.c6,ak C.c3,ak b,ak C.c5)) rfl ?_;refine (ih4 n a x b st st1 h E (by omega) hs tz).mono λ_ h2 tz=>?_;rw[wZ hi (by have:=hB.2.1;omega)];have:=ih3 n a b sl xs (i+1) st1 r h2 E (by omega) hv il (by omega) hxB tz
     rwa [il.len] at this
   .rw[AT (by grind),ag]
    grind [List.drop_eq_nil_of_le,tl]
  .obtain⟨n,rfl⟩:∃m,n=m+1:=⟨n-1,by omega⟩;rw[xR];unfold nQ;rw[ts] at hv;cases hx:gt st.ix x with
   |none=>rw[hx] at hv;cases hv
   |some i=>
   rw[hx] at hv;simp at hv;obtain⟨ok,s1,s2,g1,g2,z⟩:=tz;refine z.ld 1 ?_;refine z.Q5 9 hx ok.ix ?_;by_cases hi0:i=0
   .rw[By hi0] at hv;rw[By (by grind)];cases hv1:tv k N x st with
    |none=>rw[hv1] at hv;cases hv
    |some st1=>
    rw[hv1] at hv;simp at hv;refine z.ld 5 ?_;unfold kq;rw[ah,By (by rfl),ah];refine iA (c:=(ak C.c1,ak C.c2,ak C.c3,ak C.c4,ak C.c5,ak C.c6,ak C.c7,ak C.c8,ak C.c9)) rfl ?_;refine (ih1 n x st st1 h _ (by omega) hv1 ⟨ok,s1,s2,g1,g2,z⟩).mono λ_ h2 tz=>?_;obtain⟨ok,s1,s2,g1,g2,z⟩:=tz;cases hl:gt st1.lo x with
    |none=>rw[hl] at hv;cases hv
    |some l=>
    rw[hl] at hv;simp at hv;unfold LS at hv;cases hw:gt st1.lo a with
    |none=>rw[hw] at hv;cases hv
    |some w=>
    rw[hw] at hv;have hv:=acZ hv;refine z.ld 2 ?_;refine z.ld 15 ?_;refine z.ld 2 ?_;refine z.ld 15 ?_;refine z.Q5 10 hw ok.lo ?_;refine z.ld 2 ?_;refine z.Q5 10 hl ok.lo ?_;obtain⟨w1,w2⟩:=aB hw;refine E7 w1 (by rw[<-ok.lo];exact aJ w2) ?_;refine z.DV 10 (v:=mn w l) (aJ w2) λh3 z=>?_;rw[ag,<-hv];exact⟨⟨ok.ix,by simp[ok.lo],ok.nn,ok.on⟩,s1,s2,g1,g2,z⟩
   .rw[AT hi0] at hv;rw[AT (by grind)];cases ho:gt st.on x with
    |none=>rw[ho] at hv;cases hv
    |some o=>
    rw[ho] at hv;refine z.ld 4 ?_;refine z.rdB 12 ho ok.on ?_;cases o with
    |false=>
     cases hv;rw[AT (by simp),ag];exact⟨ok,s1,s2,g1,g2,z⟩
    |true=>
     simp at hv;rw[By rfl];unfold LS at hv;cases hw:gt st.lo a with
     |none=>rw[hw] at hv;cases hv
     |some w=>
     rw[hw] at hv;have hv:=acZ hv;refine z.ld 2 ?_;refine z.ld 15 ?_;refine z.ld 2 ?_;refine z.ld 15 ?_;refine z.Q5 10 hw ok.lo ?_;refine z.ld 1 ?_;refine z.Q5 9 hx ok.ix ?_;obtain⟨w1,w2⟩:=aB hw;refine E7 w1 (by rw[<-ok.lo];exact aJ w2) ?_;refine z.DV 10 (v:=mn w i) (aJ w2) λh3 z=>?_;rw[ag,<-hv];exact⟨⟨ok.ix,by simp[ok.lo],ok.nn,ok.on⟩,s1,s2,g1,g2,z⟩
end
section
variable {α β:Type}{h h' h0:ai}{L:List aZ}{Q:β->ai->Prop}
def na (m:Nat):TS:=⟨0,List.replicate m 0,List.replicate m 0,List.replicate m (-1),List.replicate m false,[],[]⟩
def comp (k:Nat)(N:List aq)(root:Int):Option (ε×ε):=(tv k N root (na N.length)).map λst=>(st.nn,st.ff)
def abA {m i}(hi:i<m):(List.replicate i (-1:Int)++List.replicate (m-i) 0).set i (-1)=List.replicate (i+1) (-1)++List.replicate (m-(i+1)) 0:=by
 have e:m-i=(m-(i+1))+1:=by omega
 rw[al8 _ _ (by simp),e,amV,af2,amW,amc,apb,acX];rfl
theorem afp {bn c9 m}(hm:m<1073741824){o1 o2 o3 o4} a0 a1 a2 a3 :
  ∀n i h ,m-i<n->i<=m->Z h0 h (o1::o2::.ar bn ((List.replicate i (-1)++List.replicate (m-i) 0).map vi) al::o3::o4::.ar c9 [aA (arr bn m)] aF::L) ->
   Wp (jE n a0 a1 a2 a3 (ak c9) (m:Int) (i:Int)) h λ_ h'=>Z h0 h' (o1::o2::.ar bn ((List.replicate m (-1)).map vi) al::o3::o4::.ar c9 [aA (arr bn m)] aF::L):=by
 intro n
 induction n with
 |zero=>intro i h h1;omega
 |succ n ih=>
  intro i h h1 h2 z;rw[yN];unfold pg;by_cases hi:i<m
  .rw[By (by grind)];refine z.ld 5 (x:=arr bn m) ?_;refine E7 (by omega) (by omega) ?_;rw[aba];refine z.DV 2 (xs:=List.replicate i (-1)++List.replicate (m-i) 0) (by grind) λh3 z=>?_;rw[wZ h2 (by omega)];rw[abA hi] at z;exact ih (i+1) h3 (by omega) (by omega) z
  .rw[AT (by grind),ag];have:i=m:=by omega
   simp_all
theorem LU {s}{root}{N}(z:Z h0 h L)(G:ou h0 s N){B}(hB:Bd N B){k n}(hk:k<=n)(hn:B+2<n){nn ff}(hv:comp k N root=some (nn,ff)) :
  Wp (qz n (s,root)) h λx h'=>nn.length=N.length/\∃bn s2 g2,x=(arr bn N.length,s2)/\Z h0 h' (.ar bn (nn.map vi) al::.ps s2 1 al (ff.map vi) g2::L):=by
 unfold qz;unfold comp at hv;cases ht:tv k N root (na N.length) with
 |none=>rw[ht] at hv;cases hv
 |some st=>
 rw[ht] at hv;have hv:=acZ hv;have e1:st.nn=nn:=alZ Prod.fst hv;have e2:st.ff=ff:=alZ Prod.snd hv;subst e1 e2;have hb1:(N.length:Int)<=da:=by have:=hB.1;have:=hB.2.1;grind [da]
 refine z.new λx0 h1 z _=>?_;refine z.ld 0 ?_;rw[G.len];refine z.dP [1,3,5,6,7,8] (by decide) (by decide) λnb h2 z=>?_;refine z.adK 0 (by omega) hb1 λh3 z=>?_;refine z.adK 1 (by omega) hb1 λh4 z=>?_;refine z.adK 2 (by omega) hb1 λh5 z=>?_;rw[aba] at z⊢;rw[pI] at z;refine z.newAt 3 λh6 z=>z.newAt 4 λh7 z=>z.newAt 5 λh8 z=>?_;refine z.Jj 3 (by simp_all) ?_;refine z.stC 3 (by grind) λh9 z=>?_;refine z.Jj 4 (by grind) ?_;refine z.stC 4 (by grind) λh10 z=>?_;refine z.st 5 λh11 z=>?_;refine z.ld 5 ?_;rw[ah];refine (afp (m:=N.length) (by have:=hB.1;have:=hB.2.1;omega) (ak x0) (N.length:Int) (ak (nb+6)) (ak (nb+7)) n 0 h11 (by have:=hB.1;omega) (by omega) z).mono λ_ h12 z=>?_;refine z.new λb14 h13 z _=>?_;refine z.new λb15 h14 z _=>?_;refine z.Mi (by omega) hb1 λbo h15 z _=>?_;rw[aba] at z⊢;rw[pI] at z;refine z.new λb17 h16 z _=>z.st 0 λh17 z=>?_;refine z.new λb19 h18 z _=>z.st 0 λh19 z=>?_;refine z.new λb21 h20 z _=>z.st 0 λh21 z=>?_;refine z.ld 0 ?_;refine z.ld 12 (x:=root) ?_;have z:=z.add (Fr.refl z.wf) (o:=.ps ⟨none,0,0⟩ 1 al [] 0) zb.nil (.inl rfl);have z:=z.add (Fr.refl z.wf) (o:=.ps ⟨none,0,0⟩ 1 al [] 0) zb.nil (.inl rfl);have z:=Z.nK (pre:=[_,_,_,_,_,_,_,_,_,_,_,_,_,_,_]) z [3,11,12,6,4,2,14,7,13,8,9,10,5,0,1] (by simp only[abK,agt];decide);have tz:TZ ⟨b19,nb+6,nb+7,b15,b17,b21,x0,b14,nb+8,nb+1,nb+3,nb+5,bo⟩ N.length s root h0 h21 (na N.length) L:=
  ⟨⟨by simp[na],by simp[na],by simp[na],by simp[na]⟩,⟨none,0,0⟩,⟨none,0,0⟩,0,0,z⟩
 unfold pY;rw[ah,By (by rfl),ah];refine iA (c:=(ak b19,ak (nb+6),ak (nb+7),ak b15,ak b17,ak b21,ak x0,ak b14,ak (nb+8))) rfl ?_;refine ((ana G hB k).1 n root _ st h21 L hk ht tz).mono λ_ h22 tz=>?_;obtain⟨ok,s1,s2,g1,g2,z⟩:=tz;refine z.ld 8 ?_;refine z.ld 7 ?_;rw[ag];exact⟨ok.nn,nb+5,s2,g2,rfl,z.sub ((List.Sublist.cons _<|List.Sublist.cons _<|List.Sublist.cons _<|List.Sublist.cons _<|List.Sublist.cons _<|List.Sublist.cons _<|List.Sublist.cons _<|List.Sublist.cons _<|List.Sublist.cons _<|List.Sublist.cons _<|List.Sublist.cons _<|List.Sublist.cons₂ _<|List.Sublist.cons _<|List.Sublist.cons _<|List.Sublist.cons₂ _ (anZ L)))⟩
end
section
variable {α β:Type}{h h' h0:ai}{L:List aZ}{Q:β->ai->Prop}
def mx (p q:Int):Int:=if p<q then q else p
def mem:Nat->ε->List ε->Option (List ε)
 |_,[],X=>some X
 |i,c::cs,X=>match gt X c with
  |none=>none
  |some xs=>mem (i+1) cs (X.set c.toNat (xs++[(i:Int)]))
def dR (nn:ε)(c:Int):ε->ε->Bool->Option (ε×Bool)
 |[],b,a=>some (b,a)
 |x::xs,b,a=>match gt nn x with
  |none=>none
  |some d=>if d=c then dR nn c xs b false else match gt b c,gt b d with
   |some p,some q=>dR nn c xs (b.set c.toNat (mx p q)) a
   |_,_=>none
def dM (N:List aq)(nn:ε)(c:Int):ε->ε->Bool->Option (ε×Bool)
 |[],b,a=>some (b,a)
 |i::is,b,a=>match gt N i with
  |none=>none
  |some x=>match dR nn c x.keys b a with
   |none=>none
   |some (b1,a1)=>match dR nn c x.items b1 a1 with
    |none=>none
    |some (b2,a2)=>dM N nn c is b2 a2
def dC (N:List aq)(nn:ε):Nat->List (ε×Int)->ε->Bool->Option (ε×Bool)
 |_,[],b,a=>some (b,a)
 |c,(xs,sz)::r,b,a=>match dM N nn (c:Int) xs b a with
  |none=>none
  |some (b1,a1)=>match gt b1 (c:Int) with
   |none=>none
   |some p=>dC N nn (c+1) r (b1.set c (IntKind.i64.wrap (p+sz))) a1
def dep (k:Nat)(N:List aq)(root:Int):Option (Int×Bool):=match comp k N root with
 |none=>none
 |some (nn,ff)=>if ff.length<=N.length then match mem 0 nn (List.replicate ff.length []) with
  |none=>none
  |some X=>match dC N nn 0 (X.zip ff) (List.replicate ff.length 0) true with
   |none=>none
   |some (b,a)=>match gt nn root with
    |none=>none
    |some c=>match gt b c with
     |none=>none
     |some v=>some (IntKind.i64.wrap (v-1),a)
  else none
theorem Vi:∀{cs} {i} {X Y},mem i cs X=some Y->Y.length=X.length
 |[],i,X,Y,he=>by cases he;rfl
 |c::cs,i,X,Y,he=>by
  rw[mem] at he;cases hg:gt X c with
  |none=>grind
  |some xs=>rw[hg] at he;rw[Vi he,ah8]
theorem abB:∀{cs} {i} {X Y},mem i cs X=some Y->(∀xs∈X,xs.length<=i)->∀xs∈Y,xs.length<=i+cs.length
 |[],i,X,Y,he,hX=>by cases he;grind
 |c::cs,i,X,Y,he,hX=>by
  rw[mem] at he;cases hg:gt X c with
  |none=>grind
  |some xs=>
   rw[hg] at he;intro ys hy;have:=abB he (λzs hz=>?_) ys hy
   .grind
   .rcases al7 hz with hz|rfl
    .grind
    .have:=hX xs (IN (aB hg).2);grind
theorem E8 {nn}{c}:∀{xs b} {a} {b'} {a'},dR nn c xs b a=some (b',a')->b'.length=b.length
 |[],b,a,b',a',he=>by cases he;rfl
 |x::xs,b,a,b',a',he=>by
  rw[dR] at he;split at he
  .cases he
  .split at he
   .exact E8 he
   .split at he
    .rw[E8 he,ah8]
    grind
theorem Tj {N}{nn}{c}:∀{xs b} {a} {b'} {a'},dM N nn c xs b a=some (b',a')->b'.length=b.length
 |[],b,a,b',a',he=>by cases he;rfl
 |x::xs,b,a,b',a',he=>by
  rw[dM] at he;split at he
  .cases he
  .split at he
   .cases he
   .rename_i h1;split at he
    .cases he
    .rename_i h2;rw[Tj he,E8 h2,E8 h1]
def abC {N}{nn}:∀{r} {c} {b} {a} {b'} {a'},dC N nn c r b a=some (b',a')->b'.length=b.length
 |[],c,b,a,b',a',he=>by cases he;rfl
 |(xs,sz)::r,c,b,a,b',a',he=>by
  rw[dC] at he;split at he
  .cases he
  .rename_i h1;split at he
   .cases he
   .rw[abC he,ah8,Tj h1]
structure ME where
 s:Sl
 g:Nat
 xs:ε
def ME.own (e:ME):aZ:=.ps e.s 1 al (e.xs.map vi) e.g
def DL (bb bn x0 bm:Nat)(s2 s:Sl)(g2:Nat)(root:Int)(nn ff b:ε)(M:List ME):List aZ:=
 [.ar bb (b.map vi) al,.ar bn (nn.map vi) al,.ps s2 1 al (ff.map vi) g2,.ar x0 [aA s,vi root] aj,.ar bm ((M.map ME.s).map aA) aF]
theorem akY {M:List ME}{c}{e}(he:M[c]?=some e){bb bn x0 bm}{s2 s}{g2}{root}{nn ff b}{M'} :
  (DL bb bn x0 bm s2 s g2 root nn ff b M'++(M.map ME.own++L))[c+5]?=some (.ps e.s 1 al (e.xs.map vi) e.g):=by
 simp[DL,acV,afk,apL];rw[ahQ (by grind),abh,he];rfl
theorem akZ {bb bn x0 bm}{s2 s}{g2}{root}{nn ff b}{m}(hm:nn.length=m)(hb:m<1073741824) a4 a3 a2 a1 :
  ∀n i h M X ,m-i<n->i<=m->mem i (nn.drop i) (M.map ME.xs)=some X->(∀e∈M,e.xs.length<=i)->Z h0 h (DL bb bn x0 bm s2 s g2 root nn ff b M++(M.map ME.own++L)) ->
   Wp (qc n (ak x0) a1 a2 a3 a4 (arr bm M.length) (arr bn m) (m:Int) (i:Int)) h λ_ h'=>∃M',M'.map ME.xs=X/\Z h0 h' (DL bb bn x0 bm s2 s g2 root nn ff b M'++(M'.map ME.own++L)):=by
 intro n
 induction n with
 |zero=>intro i h M X h1;omega
 |succ n ih=>
  intro i h M X h1 h2 hv hle z;rw[Dw];unfold uP;by_cases hi:i<m
  .rw[By (by grind)];obtain⟨c,hc⟩:=eC (l:=nn) (i:=i) (by omega);rw[drop_cons hc,mem] at hv;cases hg:gt (M.map ME.xs) c with
   |none=>rw[hg] at hv;cases hv
   |some xs=>
   rw[hg] at hv;simp at hv;obtain⟨g1,gg⟩:=aB hg;rw[abh] at gg;cases hM:M[c.toNat]? with
   |none=>rw[hM] at gg;cases gg
   |some e=>
   rw[hM] at gg;have gg:e.xs=xs:=acZ gg;have hlt:=aJ hM;refine z.Q5 1 (by unfold gt;rw[By (by omega)];simpa using hc) hm ?_;refine E7 g1 hlt ?_;refine z.ld 4 (x:=e.s) ?_ rfl (by rw[abh,abh,hM];rfl) rfl;have hown:=akY (L:=L) hM (bb:=bb) (bn:=bn) (x0:=x0) (bm:=bm) (s2:=s2) (s:=s) (g2:=g2) (root:=root) (nn:=nn) (ff:=ff) (b:=b) (M':=M);have hlen:e.s.len=e.xs.length:=(zb.GD (z.get _ hown)).Aa;have hel:=hle e (IN hM);refine z.V9 (c.toNat+5) (new:=[vi (i:Int)]) hown (by decide) rfl (by grind [da]) λs' h3 g' hs' z _=>?_;refine E7 g1 hlt ?_;refine z.DV 4 (xs:=M.map ME.s) (by grind) (λh4 z=>?_);rw[wZ h2 (by omega)];have hl':(M.set c.toNat ⟨s',g',e.xs++[(i:Int)]⟩).length=M.length:=by simp
   have z:Z h0 h4 (DL bb bn x0 bm s2 s g2 root nn ff b (M.set c.toNat ⟨s',g',e.xs++[(i:Int)]⟩)++((M.set c.toNat ⟨s',g',e.xs++[(i:Int)]⟩).map ME.own++L)):=by
    refine z.perm (List.Perm.of_eq ?_);simp only[DL,acV,afk,anL,amc]
    grind [List.set_append_left,List.map_set,ME.own]
   have:=ih (i+1) h4 (M.set c.toNat ⟨s',g',e.xs++[(i:Int)]⟩) X (by omega) (by omega) (by simp_all) (λx hx=>?_) z
   .rw[hl'] at this;exact this
   grind
  .rw[AT (by grind),ag];have:nn.drop i=[]:=abY (by omega);rw[this] at hv;cases hv;grind
theorem abD {bb bn}{nn}{m p}(hm:nn.length=m){sl}{xs}(il:IL h0 sl xs){B}(hB:B<1073741824)(hl:xs.length<=B){c:Nat} a0 a2 a5 a7 a8 a9 a10 a11 a12 a13 a14 :
  ∀n i h b b' a a' R ,xs.length-i<n->i<=xs.length->b.length=p->dR nn c (xs.drop i) b a=some (b',a')->Z h0 h (.ar bb (b.map vi) al::.ar bn (nn.map vi) al::R) ->
   Wp (p8 n a0 (arr bn m) a2 a (arr bb p) a5 (c:Int) a7 a8 a9 a10 a11 a12 a13 a14 sl (sl.len:Int) (i:Int)) h λy h'=>y=a'/\Z h0 h' (.ar bb (b'.map vi) al::.ar bn (nn.map vi) al::R):=by
 intro n
 induction n with
 |zero=>intro i h b b' a a' R h1;omega
 |succ n ih=>
  intro i h b b' a a' R h1 h2 hp hv z;rw[Dt];unfold uM;rw[il.len];by_cases hi:i<xs.length
  .rw[By (by grind)];obtain⟨x,hx⟩:=eC hi;rw[drop_cons hx,dR] at hv;refine (il.fr z.fr).ix (by omega) (by simpa using hx) λa1 g cl=>cl.sL rfl rfl ?_;cases hg:gt nn x with
   |none=>rw[hg] at hv;cases hv
   |some d=>
   rw[hg] at hv;simp only at hv;refine z.Q5 1 hg hm ?_;rw[wZ h2 (by omega)];by_cases hd:d=c
   .rw[By hd] at hv;rw[By (by grind)];have:=ih (i+1) h b b' false a' R (by omega) (by omega) hp hv z
    rwa [il.len] at this
   .rw[AT hd] at hv;rw[AT (by grind)];cases hq1:gt b (c:Int) with
    |none=>rw[hq1] at hv;cases hv
    |some v=>
    cases hq2:gt b d with
    |none=>rw[hq1,hq2] at hv;cases hv
    |some w=>
    rw[hq1,hq2] at hv;simp only at hv;obtain⟨g1,g2⟩:=aB hq1;obtain⟨g3,g4⟩:=aB hg;have hlt:=aJ g2;refine E7 g1 (by omega) ?_;refine E7 g3 (by grind) ?_;refine z.ld 0 ?_ rfl (by rw[abh,g2];rfl) rfl;refine z.ld 1 ?_ rfl (by rw[abh,g4];rfl) rfl;refine z.Q5 0 hq2 hp ?_;refine E7 g1 (by omega) ?_;refine z.DV 0 (v:=mx v w) hlt (λh3 z=>?_);have:=ih (i+1) h3 (b.set (c:Int).toNat (mx v w)) b' a a' R (by omega) (by omega) (by grind) hv z
    rwa [il.len] at this
  .rw[AT (by grind),ag];have:xs.drop i=[]:=abY (by omega);rw[this] at hv;cases hv;grind
theorem ak0 {bb bn b1}{nn}{m p}(hm:nn.length=m){ks is}{kl il}(ik:IL h0 ks kl)(ii:IL h0 is il){B}(hB:B<1073741824)(hl:kl.length<=B)(hl2:il.length<=B){c:Nat} a0 a2 a5 a7 a8 a9 a10 a11
  n (hn:B+5<=n) h b b2 b' a a2' a' R (hp:b.length=p) (hv1:dR nn c kl b a=some (b2,a2')) (hv2:dR nn c il b2 a2'=some (b',a')) (z:Z h0 h (.ar bb (b.map vi) al::.ar bn (nn.map vi) al::.ar b1 [aA ks,aA is] aF::R)) :
   Wp (p9 n a0 (arr bn m) a2 a (arr bb p) a5 (c:Int) a7 a8 a9 a10 a11 { a:=some (ak b1),len:=2,cap:=3 } (2:Nat) 0) h λy h'=>y=a'/\Z h0 h' (.ar bb (b'.map vi) al::.ar bn (nn.map vi) al::.ar b1 [aA ks,aA is] aF::R):=by
 obtain⟨n,rfl⟩:∃m,n=m+3:=⟨n-3,by omega⟩;have rs:∀{h},Cl h ⟨b1,0,none⟩ [aA ks,aA is] (b1+1)->vR h { a:=some (ak b1),len:=2,cap:=3 } 1 [aA ks,aA is] (b1+1):=λc=>⟨rfl,.inr ⟨_,rfl,c⟩⟩;rw[qM];unfold mT;rw[By (by decide)];refine (rs (z.cl 2 rfl)).ix (by decide) (by simp) λad cl=>cl.sL rfl rfl ?_;rw[ah];refine (abD hm ik hB hl a0 a2 a5 a7 a8 a9 a10 a11 _ _ _ _ 0 h b b2 a a2' _ (by omega) (by omega) hp (by grind) z).mono λy h1 hy=>?_;obtain⟨rfl,z⟩:=hy;rw[show IntKind.i64.wrap (0+1)=1 from by decide,qM];unfold mT;rw[By (by decide)];refine (rs (z.cl 2 rfl)).ix (by decide) (by simp) λad cl=>cl.sL rfl rfl ?_;rw[ah];refine (abD hm ii hB hl2 a0 a2 a5 a7 a8 a9 a10 a11 _ _ _ _ 0 h1 b2 b' y a' _ (by omega) (by omega) (by grind [E8]) (by grind) z).mono λy2 h2 hy=>?_;obtain⟨rfl,z⟩:=hy;rw[show IntKind.i64.wrap (1+1)=2 from by decide,qM];unfold mT;rw[AT (by decide),ag]
 grind
theorem ak1 {s}{N}(G:ou h0 s N){B}(hB:Bd N B){bb bn x0}{root}{nn}{m p}(hm:nn.length=m){sl}{xs}(hl:xs.length<=B){o2}{c:Nat} a2 a5 a7 a8
  (hr:∀h' b,Z h0 h' (.ar bb b al::.ar bn (nn.map vi) al::o2::.ar x0 [aA s,vi root] aj::L)->IL h' sl xs) (hsl:sl.len=xs.length) :
  ∀n i h b b' a a' ,B+6+(xs.length-i)<n->i<=xs.length->b.length=p->dM N nn c (xs.drop i) b a=some (b',a')->Z h0 h (.ar bb (b.map vi) al::.ar bn (nn.map vi) al::o2::.ar x0 [aA s,vi root] aj::L) ->
   Wp (qa n (ak x0) (arr bn m) a2 a (arr bb p) a5 (c:Int) a7 a8 sl (sl.len:Int) (i:Int)) h λy h'=>y=a'/\Z h0 h' (.ar bb (b'.map vi) al::.ar bn (nn.map vi) al::o2::.ar x0 [aA s,vi root] aj::L):=by
 intro n
 induction n with
 |zero=>intro i h b b' a a' h1;omega
 |succ n ih=>
  intro i h b b' a a' h1 h2 hp hv z;rw[Du];unfold uN;rw[hsl];by_cases hi:i<xs.length
  .rw[By (by grind)];obtain⟨x,hx⟩:=eC hi;rw[drop_cons hx,dM] at hv;cases hg:gt N x with
   |none=>rw[hg] at hv;cases hv
   |some nx=>
   rw[hg] at hv;simp at hv;obtain⟨x1,x2⟩:=aB hg;have hb:=hB.2.2 nx (IN x2);cases hv1:dR nn c nx.keys b a with
   |none=>rw[hv1] at hv;cases hv
   |some q1=>
   obtain⟨b1,a1⟩:=q1;rw[hv1] at hv;simp at hv;cases hv2:dR nn c nx.items b1 a1 with
   |none=>rw[hv2] at hv;cases hv
   |some q2=>
   obtain⟨b2,a2'⟩:=q2;rw[hv2] at hv;simp at hv;refine (hr h _ z).ix (by omega) (by simpa using hx) λad g cl=>cl.sL rfl rfl ?_;refine z.dP [12] (by decide) (by decide) λnb h3 z=>?_;refine z.ld 4 ?_;refine G.P3 z x1 x2 λad1 ks is nd=>(nd.fr z.fr).Lp ?_;refine z.ld 4 ?_;refine G.P3 z x1 x2 λad2 ks2 is2 nd2=>(nd2.fr z.fr).Lq ?_;refine z.newAt 0 λh4 z=>?_;have z:=Z.nK (pre:=[_,_,_]) z [1,2,0] (by simp only[abK,agt];decide);rw[ah];refine (ak0 hm nd.keys nd2.items hB.2.1 hb.1 hb.2 _ _ _ _ _ _ _ _ n (by omega) h4 b b1 b2 a a1 a2' _ hp hv1 hv2 z).mono λy h5 hy=>?_;obtain⟨rfl,z⟩:=hy;have z:=(Z.nK (pre:=[_,_,_]) z [2,0,1] (by simp only[abK,agt];decide)).drop;rw[wZ h2 (by have:=hB.2.1;omega)];have:=ih (i+1) h5 b2 b' y a' (by omega) (by omega) (by rw[E8 hv2,E8 hv1];exact hp) hv z
   rwa [hsl] at this
  .rw[AT (by grind),ag];have:xs.drop i=[]:=abY (by omega);rw[this] at hv;cases hv;grind
theorem ak2 {s}{N}(G:ou h0 s N){B}(hB:Bd N B){bb bn x0 bm}{s2}{g2}{root}{nn ff}{m p}(hm:nn.length=m){M}(hM:M.length=p)(hs:ff.length=p)(hpB:p<=B)(hle:∀e∈M,e.xs.length<=B) :
  ∀n i h b b' a a' ,2*B+8+(p-i)<n->i<=p->b.length=p->dC N nn i (((M.map ME.xs).zip ff).drop i) b a=some (b',a')->Z h0 h (DL bb bn x0 bm s2 s g2 root nn ff b M++(M.map ME.own++L)) ->
   Wp (qb n (ak x0) (arr bn m) s2 a (arr bb p) (arr bm p) (p:Int) (i:Int)) h λy h'=>y=a'/\Z h0 h' (DL bb bn x0 bm s2 s g2 root nn ff b' M++(M.map ME.own++L)):=by
 intro n
 induction n with
 |zero=>intro i h b b' a a' h1;omega
 |succ n ih=>
  intro i h b b' a a' h1 h2 hp hv z;rw[Dv];unfold uO;by_cases hi:i<p
  .rw[By (by grind)];obtain⟨e,he⟩:=eC (l:=M) (i:=i) (by omega);obtain⟨sz,hz⟩:=eC (l:=ff) (i:=i) (by omega);have hzip:((M.map ME.xs).zip ff)[i]?=some (e.xs,sz):=by
    grind
   rw[drop_cons hzip,dC] at hv;cases hv1:dM N nn (i:Int) e.xs b a with
   |none=>rw[hv1] at hv;cases hv
   |some q1=>
   obtain⟨b1,a1⟩:=q1;rw[hv1] at hv;simp at hv;cases hg:gt b1 (i:Int) with
   |none=>rw[hg] at hv;cases hv
   |some v=>
   rw[hg] at hv;simp at hv;obtain⟨g1,gg⟩:=aB hg;refine E7 (by omega) (by omega) ?_;refine z.ld 4 (x:=e.s) ?_ rfl (by rw[aba,abh,abh,he];rfl) rfl;have hown:∀{b:δ},(.ar bb b al::.ar bn (nn.map vi) al::.ps s2 1 al (ff.map vi) g2::.ar x0 [aA s,vi root] aj::.ar bm ((M.map ME.s).map aA) aF::(M.map ME.own++L):List aZ)[i+5]?=some (.ps e.s 1 al (e.xs.map vi) e.g):=by
    intro b;simp;rw[ahQ (by grind),abh,he];rfl
   have hlen:e.s.len=e.xs.length:=(zb.GD (z.get _ (hown))).Aa;have hel:=hle e (IN he);rw[ah];refine (ak1 G hB hm hel s2 (arr bm p) (p:Int) (i:Int) (λh' b z=>⟨_,zb.GD (z.get _ hown)⟩) hlen n 0 h b b1 a a1 (by omega) (by omega) hp (by grind) z).mono λy h3 hy=>?_;obtain⟨rfl,z⟩:=hy;have hlb:b1.length=p:=by grind [Tj]
   refine E7 (by omega) (by omega) ?_;have hps:zb h3 s2 1 al (ff.map vi) g2:=z.get 2 rfl;refine hps.GD.Ys (by omega) (by simpa using hz) λad cl=>?_;refine z.ld 0 ?_ rfl (by rw[abh,gg];rfl) rfl;refine cl.sL rfl rfl ?_;refine E7 (by omega) (by omega) ?_;refine z.DV 0 (aJ gg) (λh4 z=>?_);rw[wZ h2 (by have:=hB.2.1;omega)];exact ih (i+1) h4 _ b' y a' (by omega) (by omega) (by grind) hv z
  .rw[AT (by grind),ag];have:((M.map ME.xs).zip ff).drop i=[]:=abY (by grind);rw[this] at hv;cases hv;grind
theorem Qy {s}{root}{N}(z:Z h0 h L)(G:ou h0 s N){B}(hB:Bd N B){k n}(hk:k<=n)(hn:3*B+10<n){d}{a}(hv:dep k N root=some (d,a)) :
  Wp (vG n (s,root)) h λx h'=>x=(d,a)/\Z h0 h' L:=by
 unfold vG;unfold dep at hv;cases hc:comp k N root with
 |none=>rw[hc] at hv;cases hv
 |some q=>
 obtain⟨nn,ff⟩:=q;rw[hc] at hv;simp only at hv;split at hv
 case isFalse=>cases hv
 rename_i hsz;cases hm:mem 0 nn (List.replicate ff.length []) with
 |none=>rw[hm] at hv;cases hv
 |some X=>
 rw[hm] at hv;simp at hv;cases hd:dC N nn 0 (X.zip ff) (List.replicate ff.length 0) true with
 |none=>rw[hd] at hv;cases hv
 |some q=>
 obtain⟨b,a1⟩:=q;rw[hd] at hv;simp at hv;cases hg:gt nn root with
 |none=>rw[hg] at hv;cases hv
 |some c=>
 rw[hg] at hv;simp at hv;cases hg2:gt b c with
 |none=>rw[hg2] at hv;cases hv
 |some v=>
 rw[hg2] at hv;simp at hv;obtain⟨rfl,rfl⟩:=hv;have hNB:=hB.1;have hBB:=hB.2.1;refine z.new λx0 h1 z _=>?_;refine z.gh 0 (ls:=[.sl,li]) (x:=(s,root)) ?_;rw[ah];refine (LU z G hB hk (by omega) hc).mono λy h2 hy=>?_;obtain⟨hnn,bn,s2,g2,rfl,z⟩:=hy;have hs2:s2.len=ff.length:=(zb.GD (z.get 1 rfl)).Aa;simp;rw[hs2];refine z.Mi (by omega) (by grind [da]) λbb h3 z _=>?_;refine z.Mi (by omega) (by grind [da]) λbm h4 z _=>?_;rw[aba] at z⊢;rw[pI (enc:=vi),show aE=aA ow from rfl,pI] at z;have z:=Z.nK (pre:=[_,_,_,_,_]) z [1,2,3,4,0] (by grind);have hown:∀n,((List.replicate n (⟨⟨none,0,0⟩,0,[]⟩:ME)).map ME.own)=List.replicate n (.ps ⟨none,0,0⟩ 1 al [] 0):=by
  intro n;rw[am0];rfl
 have addn:∀(n:Nat) {L:List aZ},Z h0 h4 L->Z h0 h4 (List.replicate n (.ps ⟨none,0,0⟩ 1 al [] 0)++L):=by
  intro n
  induction n with
  |zero=>grind
  |succ n ih=>intro L z;exact (ih z).add (Fr.refl z.wf) zb.nil (.inl rfl)
 have z:=addn ff.length z;have z:Z h0 h4 (DL bb bn x0 bm s2 s g2 root nn ff (List.replicate ff.length 0) (List.replicate ff.length ⟨⟨none,0,0⟩,0,[]⟩)++((List.replicate ff.length (⟨⟨none,0,0⟩,0,[]⟩:ME)).map ME.own++L)):=by
  refine z.perm ?_;rw[hown];have e:(List.replicate ff.length (⟨⟨none,0,0⟩,0,[]⟩:ME)).map ME.s=List.replicate ff.length ow:=by rw[am0]
  unfold DL;rw[e];simp only[acV,afk];have:=aow L (aiu (l₁:=List.replicate ff.length (aZ.ps ⟨none,0,0⟩ 1 al [] 0)) (l₂:=[.ar bb ((List.replicate ff.length 0).map vi) al,.ar bn (nn.map vi) al,.ps s2 1 al (ff.map vi) g2,.ar x0 [aA s,vi root] aj,.ar bm ((List.replicate ff.length ow).map aA) aF]))
  simp_all
 rw[ah];have hl0:=akZ hnn (by omega) (arr bb ff.length) true s2 (arr bn N.length) n 0 h4 (List.replicate ff.length ⟨⟨none,0,0⟩,0,[]⟩) X (by omega) (by omega) (by grind [List.map_replicate]) (λe he=>by grind) z;rw[af2] at hl0;refine hl0.mono λ_ h5 hx=>?_;obtain⟨M,rfl,z⟩:=hx;have hML:M.length=ff.length:=by have:=Vi hm;grind
 rw[ah];refine (ak2 G hB hnn hML rfl (by omega) (λe he=>?_) n 0 h5 _ b true a1 (by omega) (by omega) (by simp) (by grind) z).mono λy h6 hy=>?_
 .have:=abB hm (λxs hx=>by grind) e.xs (List.mem_map.2 ⟨e,he,rfl⟩);omega
 obtain⟨rfl,z⟩:=hy;refine z.ld 3 ?_;refine z.Q5 1 hg hnn ?_;have hbl:b.length=ff.length:=by rw[abC hd,af2]
 refine z.Q5 0 hg2 hbl ?_;rw[ag];refine⟨rfl,?_⟩;have z:=z.drop.drop.drop.drop.drop;exact z.sub (ahY _ _)
end
section
variable {α β:Type}{h h' h0:ai}{L:List aZ}{Q:β->ai->Prop}
noncomputable def gA:List Bool->List aq->Option Bool
 |m::ms,x::xs=>if m=false then some false else match rA x with
  |none=>none
  |some false=>some false
  |some true=>gA ms xs
 |_,[]=>some true
 |[],_::_=>none
def gB:List Bool->ε->Bool
 |b::bs,c::cs=>if b=true/\c≠1 then false else gB bs cs
 |_,_=>true
noncomputable def ve (k:Nat)(N:List aq)(root:Int):Option Int:=
 if 4096<N.length then some 7
 else if N.length=0 then some 3
 else if LN N root=false then some 3
 else match D4 k N root (List.replicate N.length false) with
  |none=>none
  |some ms=>match gA ms N with
   |none=>none
   |some false=>some 3
   |some true=>match gC N root with
    |none=>none
    |some c=>match Ve k N N (List.replicate N.length false) with
     |none=>none
     |some ks=>
      if gB ks c=false then some 3
      else match twN k N N with
       |none=>none
       |some true=>some 8
       |some false=>match dep k N root with
        |none=>none
        |some (d,_)=>if 32<d then some 5 else some 0
theorem abE {s}{N}(G:ou h0 s N){B}(hB:Bd N B)(ht:∀x∈N,x.text.size<=65536){bm}{ms:List Bool}(hm:ms.length=N.length){e} a0 :
  ∀n i r h L ,(N.length-i)+65540<n->i<=N.length->gA (ms.drop i) (N.drop i)=some r->Z h0 h (.ar bm (ms.map .bool) e::L) ->
   Wp (qg n a0 (arr bm N.length) s (s.len:Int) (i:Int)) h λy h'=>y=(if r then .inl () else .inr 3)/\Z h0 h' (.ar bm (ms.map .bool) e::L):=by
 intro n
 induction n with
 |zero=>intro i r h L h1;omega
 |succ n ih=>
  intro i r h L h1 h2 hv z;rw[Dz];unfold uU;rw[G.len];by_cases hi:i<N.length
  .rw[By (by grind)];obtain⟨x,hx⟩:=eC hi;obtain⟨b,hb⟩:=eC (l:=ms) (i:=i) (by omega);rw[drop_cons hx,drop_cons hb,gA] at hv;refine G.at z (by omega) (by simpa using hx) λa ks is nd ik ii=>nd.gh ?_;refine z.node λx2 h2' z=>?_;refine z.rdB 1 (by unfold gt;rw[By (by omega)];simpa using hb) hm ?_;cases b with
   |false=>
    rw[By rfl] at hv;cases hv;rw[By (by rfl),ag];exact⟨rfl,z.drop⟩
   |true=>
    rw[AT (by simp)] at hv;rw[AT (by simp)];refine z.gh 0 (ls:=[li,.str,.bool,.sl,.sl]) (x:=(x.kind,x.text,x.ord,ks,is)) ?_;cases hf:rA x with
    |none=>rw[hf] at hv;cases hv
    |some f=>
     rw[hf] at hv;have htx:=ht x (IN hx);rw[ah];refine (afn z ik ii htx (by omega) hf).mono λy h3 hy=>?_;obtain⟨rfl,z⟩:=hy;cases y with
     |false=>
      cases hv;rw[By (by rfl),ag];exact⟨rfl,z.drop⟩
     |true=>
      simp at hv;rw[AT (by simp),wZ h2 (by have:=hB.1;have:=hB.2.1;omega)];have:=ih (i+1) r h3 L (by omega) (by omega) hv z.drop
      rwa [G.len] at this
  .rw[AT (by grind),ag];have e1:N.drop i=[]:=abY (by omega);have e2:ms.drop i=[]:=abY (by omega);rw[e1,e2] at hv;cases hv;grind
theorem abF {bk bc m}{ks:List Bool}{c:ε}(hk:ks.length=m)(hc:c.length=m)(hb:m<1073741824){e1 e2} a0 (z:Z h0 h (.ar bk (ks.map .bool) e1::.ar bc (c.map vi) e2::L)) :
  ∀n i ,m-i<n->i<=m->Wp (qf n a0 (arr bc m) (arr bk m) (m:Int) (i:Int)) h λy h'=>y=(if gB (ks.drop i) (c.drop i) then .inl () else .inr 3)/\h'=h:=by
 intro n
 induction n with
 |zero=>intro i h1;omega
 |succ n ih=>
  intro i h1 h2;rw[Dy];unfold uT;by_cases hi:i<m
  .rw[By (by grind)];obtain⟨b,hb⟩:=eC (l:=ks) (i:=i) (by omega);obtain⟨v,hv⟩:=eC (l:=c) (i:=i) (by omega);have hg:gB (ks.drop i) (c.drop i)=if b=true/\v≠1 then false else gB (ks.drop (i+1)) (c.drop (i+1)):=by rw[drop_cons hb,drop_cons hv,gB]
   rw[hg];clear hg;refine z.rdB 0 (by unfold gt;rw[By (by omega)];simpa using hb) hk ?_;have hnx:=ih (i+1) (by omega) (by omega);rw[<-wZ h2 (by omega)] at hnx;cases b with
   |false=>
    have e:(if false=true/\v≠1 then false else gB (ks.drop (i+1)) (c.drop (i+1)))=gB (ks.drop (i+1)) (c.drop (i+1)):=AT (by simp);rw[e,AT (by simp)];exact hnx
   |true=>
    rw[By rfl];refine z.Q5 1 (by unfold gt;rw[By (by omega)];simpa using hv) hc ?_;by_cases h1:v=1
    .have e:(if true=true/\v≠1 then false else gB (ks.drop (i+1)) (c.drop (i+1)))=gB (ks.drop (i+1)) (c.drop (i+1)):=AT (by simp[h1]);rw[e,AT (by grind)];exact hnx
    .have e:(if true=true/\v≠1 then false else gB (ks.drop (i+1)) (c.drop (i+1)))=false:=By ⟨rfl,h1⟩;rw[e,By (by grind),ag]
     grind
  .rw[AT (by grind),ag];have e1:ks.drop i=[]:=abY (by omega);rw[e1];exact⟨rfl,rfl⟩
theorem rB {s}{root}{N}(z:Z h0 h L)(G:ou h0 s N){B}(hB:Bd N B)(ht:∀x∈N,x.text.size<=65536){k n}(hn:k+4*B+65600<n){r}(hv:ve k N root=some r) :
  Wp (e9 n (s,root)) h λx h'=>x=r/\Z h0 h' L:=by
 have hNB:=hB.1;have hBB:=hB.2.1;unfold e9;unfold ve at hv;refine z.new λx0 h1 z _=>?_;refine z.ld 0 ?_;rw[G.len];by_cases c1:4096<N.length
 .rw[By c1] at hv;cases hv;rw[By (by grind),ag];exact⟨rfl,z.drop⟩
 rw[AT c1] at hv;rw[AT (by grind)];refine z.ld 0 ?_;rw[G.len];by_cases c2:N.length=0
 .rw[By c2] at hv;cases hv;rw[By (by simp[c2]),ag];exact⟨rfl,z.drop⟩
 rw[AT c2] at hv;rw[AT (by grind)];refine z.gh 0 (ls:=[.sl,li]) (x:=(s,root)) ?_;rw[ah];refine (SX z G hB (by omega)).mono λy h2 hy=>?_;obtain⟨rfl,z⟩:=hy;cases c3:LN N root with
 |false=>
  rw[By c3] at hv;cases hv;rw[By (by rfl),ag];exact⟨rfl,z.drop⟩
 |true=>
 rw[AT (by simp[c3])] at hv;rw[AT (by simp)];unfold xE;refine z.ld 0 ?_;rw[G.len];refine z.Mi (by omega) (by grind [da]) λbm h3 z _=>?_;rw[aba] at z⊢;rw[pI] at z;refine z.gh 1 (ls:=[.sl,li]) (x:=(s,root)) ?_;refine z.ld 1 (x:=root) ?_;cases hvis:D4 k N root (List.replicate N.length false) with
 |none=>rw[hvis] at hv;cases hv
 |some ms=>
 rw[hvis] at hv;simp at hv;rw[ah];have hms:ms.length=N.length:=by have:=(N0 k N).1 _ _ _ hvis;grind
 have hw:=KK (cap:=N.length+1) z G hB hvis (n:=n) (root:=root) (by omega);rw[af2] at hw;refine hw.mono λ_ h4 z=>?_;refine z.ld 1 ?_;cases hA:gA ms N with
 |none=>rw[hA] at hv;cases hv
 |some b=>
 rw[hA] at hv;rw[ah];refine (abE G hB ht hms (ak x0) n 0 b h4 _ (by omega) (by omega) (by grind) z).mono λy h5 hy=>?_;obtain⟨rfl,z⟩:=hy;cases b with
 |false=>cases hv;exact ag.2 ⟨rfl,z.drop.drop⟩
 |true=>
 simp at hv;show Wp (sh _ _) h5 _;refine z.gh 1 (ls:=[.sl,li]) (x:=(s,root)) ?_;cases hc:gC N root with
 |none=>rw[hc] at hv;cases hv
 |some c=>
 rw[hc] at hv;simp at hv;rw[ah];refine (XV z G hB (by omega) hc).mono λy h6 hy=>?_;obtain⟨bc,rfl,hcl,z⟩:=hy;refine z.gh 2 (ls:=[.sl,li]) (x:=(s,root)) ?_;cases hi:Ve k N N (List.replicate N.length false) with
 |none=>rw[hi] at hv;cases hv
 |some ks=>
 rw[hi] at hv;simp at hv;rw[ah];refine (XW z G hB (by omega) hi).mono λy h7 hy=>?_;obtain⟨bk,rfl,hkl,z⟩:=hy;rw[ah];refine (abF hkl hcl (by omega) (ak x0) z n 0 (by omega) (by omega)).mono λy h8 hy=>?_;obtain⟨rfl,rfl⟩:=hy;simp only[aiq];cases hgB:gB ks c with
 |false=>
  rw[By hgB] at hv;cases hv;exact ag.2 ⟨rfl,z.drop.drop.drop.drop⟩
 |true=>
 rw[AT (by grind)] at hv;show Wp (sh _ _) h8 _;refine z.gh 3 (ls:=[.sl,li]) (x:=(s,root)) ?_;cases htw:twN k N N with
 |none=>rw[htw] at hv;cases hv
 |some b=>
 rw[htw] at hv;rw[ah];refine (abz z G hB (by omega) htw).mono λy h9 hy=>?_;obtain⟨rfl,z⟩:=hy;cases y with
 |true=>cases hv;rw[By rfl,ag];exact⟨rfl,z.drop.drop.drop.drop⟩
 |false=>
 simp at hv;rw[AT (by simp)];refine z.gh 3 (ls:=[.sl,li]) (x:=(s,root)) ?_;cases hd:dep k N root with
 |none=>rw[hd] at hv;cases hv
 |some q=>
 obtain⟨d,a⟩:=q;rw[hd] at hv;simp at hv;rw[ah];refine (Qy z G hB (by omega) (by omega) hd).mono λy h10 hy=>?_;obtain⟨rfl,z⟩:=hy;by_cases h32:32<d
 .rw[By h32] at hv;cases hv;rw[By (by grind),ag];exact⟨rfl,z.drop.drop.drop.drop⟩
 .rw[AT h32] at hv;cases hv;rw[AT (by grind),ag];exact⟨rfl,z.drop.drop.drop.drop⟩
end
section
variable {α β:Type}{h h' h0:ai}{L:List aZ}{Q:β->ai->Prop}
def kAt:List Bool->Nat->ε
 |[],_=>[]
 |b::bs,n=>(n:Int)::kAt bs (if b then n+1 else n)
def mvs (at':ε):ε->Option ε
 |[]=>some []
 |x::xs=>match gt at' x,mvs at' xs with
  |some v,some r=>some (v::r)
  |_,_=>none
def kN (at':ε):List Bool->List aq->Option (List aq)
 |_,[]=>some []
 |[],_::_=>none
 |b::bs,x::xs=>if b then match mvs at' x.keys,mvs at' x.items,kN at' bs xs with
   |some ks,some is,some r=>some ({ x with keys:=ks,items:=is }::r)
   |_,_,_=>none
  else kN at' bs xs
def kept (k:Nat)(N:List aq)(root:Int):Option (List aq×Int):=match D4 k N root (List.replicate N.length false) with
 |none=>none
 |some ms=>match gt (kAt ms 0) root,kN (kAt ms 0) ms N with
  |some r,some N'=>some (N',r)
  |_,_=>none
theorem fill {ys:ε}{i}{v}(hv:ys[i]?=some v):(ys.take i++List.replicate (ys.length-i) 0).set i v=ys.take (i+1)++List.replicate (ys.length-(i+1)) 0:=by
 have hlt:=aJ hv;have e:ys.length-i=(ys.length-(i+1))+1:=by omega
 rw[al8 _ _ (by grind),e,amV,ahT,apa (by omega),amW,amc,aov,hv,acX];rfl
def xM {cks}{m:M α}{f}{P}(ha:∀a,some a∈cks->∃cs e,LB h a.block cs e/\∀r h',P r h'->LB h' a.block cs e)(hm:Wp m h P)(q:∀r h',P r h'->Wp (f r) h' Q):Wp (sh (tX cks m) f) h Q:=by
 rw[ah];refine JQ (hm.mono λr h' hp=>⟨λa hma=>?_,q r h' hp⟩);obtain⟨cs,e,l1,l2⟩:=ha a hma;rw[(l2 r h' hp).get,l1.get]
end
end Go.Sh
