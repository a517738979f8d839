
import Derived.Test.YtdbjhobkhjneeaaGreatDoorGfPa
set_option linter.all false
namespace Go.Sh
open Go Go.Ago Go.Proofs
section
variable {α β:Type}{h h' h0:aj}{L:List bJ}{Q:β->aj->Prop}
mutual
def same:Nat->List al->Int->Int->Option Bool
 |0,_,_,_=>none
 |k+1,N,i,j=>match gt N i,gt N j with
  |some x,some y=>
   if x.kind≠y.kind then some false
   else if mQ x.text y.text=false then some false
   else if x.ord≠y.ord then some false
   else if x.items.length≠y.items.length then some false
   else if x.kind=10/\x.ord=false then Cu k N x y 0
   else yz k N x y 0
  |_,_=>none
def Cu:Nat->List al->al->al->Nat->Option Bool
 |0,_,_,_,_=>none
 |k+1,N,x,y,i=>match x.keys[i]? with
  |none=>some true
  |some kx=>match wR k N x y i kx 0 false with
   |none=>none
   |some false=>some false
   |some true=>Cu k N x y (i+1)
def wR:Nat->List al->al->al->Nat->Int->Nat->Bool->Option Bool
 |0,_,_,_,_,_,_,_=>none
 |k+1,N,x,y,i,kx,j,b=>match y.keys[j]? with
  |none=>some b
  |some ky=>match b with
   |true=>wR k N x y i kx (j+1) true
   |false=>match same k N kx ky with
    |none=>none
    |some false=>wR k N x y i kx (j+1) false
    |some true=>match x.items[i]?,y.items[j]? with
     |some p,some q=>match same k N p q with
      |none=>none
      |some c=>wR k N x y i kx (j+1) c
     |_,_=>none
def yz:Nat->List al->al->al->Nat->Option Bool
 |0,_,_,_,_=>none
 |k+1,N,x,y,i=>match x.items[i]? with
  |none=>some true
  |some p=>match y.items[i]? with
   |none=>none
   |some q=>
    if x.kind=10 then match x.keys[i]?,y.keys[i]? with
     |some kx,some ky=>match same k N kx ky with
      |none=>none
      |some false=>some false
      |some true=>match same k N p q with
       |none=>none
       |some false=>some false
       |some true=>yz k N x y (i+1)
     |_,_=>none
    else match same k N p q with
     |none=>none
     |some false=>some false
     |some true=>yz k N x y (i+1)
end
def SO (b8 b9 b0:Nat)(x y:al)(kx ix ky iy s:Sl)(root:Int):List bJ:=
 [.au b8 [vi x.kind,.string x.text,.bool x.ord,aC kx,aC ix] ar,.au b9 [vi y.kind,.string y.text,.bool y.ord,aC ky,aC iy] ar,.au b0 [aC s,vi root] ah]
structure S4 (h0:aj) (B:Nat) (x y:al) (kx ix ky iy:Sl):Prop where
 kx:IL h0 kx x.keys
 ix:IL h0 ix x.items
 ky:IL h0 ky y.keys
 iy:IL h0 iy y.items
 b1:x.keys.length<=B
 b2:x.items.length<=B
 b3:y.keys.length<=B
 b4:y.items.length<=B
theorem aZ {l:List α}{i}{x}(hx:l[i]?=some x):i<l.length:=(List.getElem?_eq_some_iff.1 hx).1
def Fy {l:List α}{i}(hx:l[i]?=none):l.length<=i:=List.getElem?_eq_none_iff.1 hx
def OT {s}{root}{N}(G:kP h0 s N){B}(hB:Bd N B) :
  ∀k ,(∀n i j r h L ,k<=n->same k N i j=some r->Z h0 h L->Wp (jy n (s,root) i j) h λx h'=>x=r/\Z h0 h' L) /\
   (∀n i r x y kx ix ky iy b8 b9 b0 h L ,k<=n->Cu k N x y i=some r->S4 h0 B x y kx ix ky iy->i<=x.keys.length->Z h0 h (SO b8 b9 b0 x y kx ix ky iy s root++L) ->
    Wp (lN n (ak b0) (ak b8) (ak b9) kx (kx.len:Int) (i:Int)) h λz h'=>z=(if r then .inl () else .inr false)/\Z h0 h' (SO b8 b9 b0 x y kx ix ky iy s root++L)) /\
   (∀n i j v b r x y kx ix ky iy a6 a7 b8 b9 b0 h L ,k<=n->wR k N x y i v j b=some r->S4 h0 B x y kx ix ky iy->j<=y.keys.length->Z h0 h (SO b8 b9 b0 x y kx ix ky iy s root++L) ->
    Wp (iS n (ak b0) (ak b8) (ak b9) (i:Int) v b a6 a7 (i:Int) ky (ky.len:Int) (j:Int)) h λz h'=>z=r/\Z h0 h' (SO b8 b9 b0 x y kx ix ky iy s root++L)) /\
   (∀n i r x y kx ix ky iy b8 b9 b0 h L ,k<=n->yz k N x y i=some r->S4 h0 B x y kx ix ky iy->i<=x.items.length->Z h0 h (SO b8 b9 b0 x y kx ix ky iy s root++L) ->
    Wp (gU n (ak b0) (ak b8) (ak b9) (ix.len:Int) (i:Int)) h λz h'=>z=(if r then .inl () else .inr false)/\Z h0 h' (SO b8 b9 b0 x y kx ix ky iy s root++L)):=by
 intro k
 induction k with
 |zero=>grind [same,Cu,wR,yz]
 |succ k ih=>
  obtain⟨ih1,ih2,ih3,ih4⟩:=ih;refine⟨λn i j r h L hn hv z=>?_,λn i r x y kx ix ky iy b8 b9 b0 h L hn hv S hi z=>?_,λn i j v b r x y kx ix ky iy a6 a7 b8 b9 b0 h L hn hv S hj z=>?_,λn i r x y kx ix ky iy b8 b9 b0 h L hn hv S hi z=>?_⟩
  .obtain⟨n,rfl⟩:∃m,n=m+1:=⟨n-1,by omega⟩;rw[Gm];unfold y8;rw[same] at hv;cases hx:gt N i with
   |none=>rw[hx] at hv;cases hv
   |some x=>
   cases hy:gt N j with
   |none=>rw[hx,hy] at hv;cases hv
   |some y=>
   rw[hx,hy] at hv;simp only at hv;obtain⟨x1,x2⟩:=aB hx;obtain⟨y1,y2⟩:=aB hy;refine z.new λb0 h1 z _=>?_;refine z.eA [10,11] (by decide) (by decide) λnb h2 z=>?_;refine z.ld 2 ?_;refine G.Ss z x1 x2 λa kx ix nx=>(nx.fr z.fr).fH ?_;refine z.ld 2 ?_;refine G.Ss z y1 y2 λa2 ky iy ny=>(ny.fr z.fr).fH ?_;refine z.newAt 0 λh3 z=>z.newAt 1 λh4 z=>?_;refine z.stC 0 ?_ λh5 z=>z.st 1 λh6 z=>?_
   .intro a' ha';simp at ha';rcases ha' with rfl|rfl
    .exact z.nbO 0 2 rfl rfl (by decide)
    .obtain⟨g,c⟩:=ny.cl;exact z.nb0 0 c rfl
   have z:Z h0 h6 (SO (nb+10) (nb+11) b0 x y kx ix ky iy s root++L):=z;have hbx:=hB.2.2 x (IN x2);have hby:=hB.2.2 y (IN y2);have S:S4 h0 B x y kx ix ky iy:=⟨nx.keys,nx.items,ny.keys,ny.items,hbx.1,hbx.2,hby.1,hby.2⟩;have dr:∀{h},Z h0 h (SO (nb+10) (nb+11) b0 x y kx ix ky iy s root++L)->Z h0 h L:=λz=>z.drop.drop.drop;refine z.ld 0 ?_;refine z.ld 1 ?_;by_cases e1:x.kind=y.kind
   case neg=>
    rw[By e1] at hv;cases hv;rw[By (by simpa using e1),af];exact⟨rfl,dr z⟩
   rw[AT (by simpa using e1)] at hv;rw[AT (by simpa using e1)];refine z.ld 0 ?_;refine z.ld 1 ?_;cases e2:mQ x.text y.text with
   |false=>
    rw[By e2] at hv;cases hv;rw[By (by rfl),af];exact⟨rfl,dr z⟩
   |true=>
   rw[AT (by simp[e2])] at hv;rw[AT (by simp)];refine z.ld 0 ?_;refine z.ld 1 ?_;by_cases e3:x.ord=y.ord
   case neg=>
    rw[By e3] at hv;cases hv;rw[By (by simpa using e3),af];exact⟨rfl,dr z⟩
   rw[AT (by simpa using e3)] at hv;rw[AT (by simpa using e3)];refine z.ld 0 (x:=ix) ?_;refine z.ld 1 (x:=iy) ?_;rw[S.ix.len,S.iy.len];by_cases e4:x.items.length=y.items.length
   case neg=>
    rw[By e4] at hv;cases hv;rw[By (by simp;omega),af];exact⟨rfl,dr z⟩
   rw[AT (by simpa using e4)] at hv;rw[AT (by simp;omega)];unfold u0;have fin:∀{z:Unit⊕Bool} {h'} {g1:Unit->M Bool} {g2:Bool->M Bool},(z=(if r then .inl () else .inr false)/\Z h0 h' (SO (nb+10) (nb+11) b0 x y kx ix ky iy s root++L))->(g1=λ_=>AI true)->(g2=λx=>AI x) ->
     Wp (dU g1 g2 z) h' λx h'=>x=r/\Z h0 h' L:=by
    intro z h' g1 g2 hz e1 e2;obtain⟨rfl,z⟩:=hz;subst e1 e2;cases r with
    |true=>exact af.2 ⟨rfl,dr z⟩
    |false=>exact af.2 ⟨rfl,dr z⟩
   refine z.ld 0 ?_;by_cases e5:x.kind=10
   .rw[By (by simpa using e5)];refine z.ld 0 ?_;cases e6:x.ord with
    |false=>
     rw[By ⟨e5,e6⟩] at hv;rw[By (by rfl)];refine z.ld 0 (x:=kx) ?_;rw[ag];exact (ih2 n 0 r x y kx ix ky iy _ _ _ _ L (by omega) hv S (by omega) z).mono λ_ h' hz=>fin hz rfl rfl
    |true=>
     rw[AT (by simp[e6])] at hv;rw[AT (by simp)];refine z.ld 0 (x:=ix) ?_;rw[ag];exact (ih4 n 0 r x y kx ix ky iy _ _ _ _ L (by omega) hv S (by omega) z).mono λ_ h' hz=>fin hz rfl rfl
   .rw[AT (by simpa using e5)];rw[AT (λe=>e5 e.1)] at hv;refine z.ld 0 (x:=ix) ?_;rw[ag];exact (ih4 n 0 r x y kx ix ky iy _ _ _ _ L (by omega) hv S (by omega) z).mono λ_ h' hz=>fin hz rfl rfl
  .obtain⟨n,rfl⟩:∃m,n=m+1:=⟨n-1,by omega⟩;rw[CX];unfold uY;rw[S.kx.len];rw[Cu] at hv;cases hx:x.keys[i]? with
   |none=>
    rw[hx] at hv;cases hv;have:=Fy hx;rw[AT (by simp;omega),af];exact⟨rfl,z⟩
   |some v=>
    rw[hx] at hv;simp at hv;have hlt:=aZ hx;rw[By (by simp;omega)];refine (S.kx.fr z.fr).ix (by omega) (by simpa using hx) λa1 g c=>c.tC rfl rfl ?_;refine z.ld 1 (x:=ky) ?_;cases hf:wR k N x y i v 0 false with
    |none=>rw[hf] at hv;cases hv
    |some b=>
     rw[hf] at hv;rw[ag];refine (ih3 n i 0 v false b x y kx ix ky iy kx _ _ _ _ _ L (by omega) hf S (by omega) z).mono λb' h2 hz=>?_;obtain⟨rfl,z⟩:=hz;cases b' with
     |false=>
      cases hv;rw[By (by rfl),af];exact⟨rfl,z⟩
     |true=>
      rw[AT (by simp),wX hi (by have:=S.b1;have:=hB.2.1;omega)];have:=ih2 n (i+1) r x y kx ix ky iy _ _ _ _ L (by omega) hv S (by omega) z
      rwa [S.kx.len] at this
  .obtain⟨n,rfl⟩:∃m,n=m+1:=⟨n-1,by omega⟩;rw[CW];unfold uX;rw[S.ky.len];rw[wR] at hv;cases hx:y.keys[j]? with
   |none=>
    rw[hx] at hv;cases hv;have:=Fy hx;rw[AT (by simp;omega),af];exact⟨rfl,z⟩
   |some w=>
    rw[hx] at hv;simp at hv;have hlt:=aZ hx;rw[By (by simp;omega)];refine (S.ky.fr z.fr).ix (by omega) (by simpa using hx) λa1 g c=>c.tC rfl rfl ?_;rw[wX hj (by have:=S.b3;have:=hB.2.1;omega)];cases b with
    |true=>
     simp at hv;rw[By rfl];have:=ih3 n i (j+1) v true r x y kx ix ky iy a6 a7 _ _ _ _ L (by omega) hv S (by omega) z
     rwa [S.ky.len] at this
    |false=>
     simp at hv;rw[AT (by simp)];refine z.fH 2 (ls:=[.sl,li]) (x:=(s,root)) ?_;cases hs:same k N v w with
     |none=>rw[hs] at hv;cases hv
     |some b1=>
      rw[hs] at hv;rw[ag];refine (ih1 n v w b1 h _ (by omega) hs z).mono λb' h2 hz=>?_;obtain⟨rfl,z⟩:=hz;cases b' with
      |false=>
       simp at hv;rw[AT (by simp)];have:=ih3 n i (j+1) v false r x y kx ix ky iy a6 a7 _ _ _ _ L (by omega) hv S (by omega) z
       rwa [S.ky.len] at this
      |true=>
       simp at hv;rw[By rfl];refine z.fH 2 (ls:=[.sl,li]) (x:=(s,root)) ?_;cases hp:x.items[i]? with
       |none=>rw[hp] at hv;cases hv
       |some p=>
       cases hq:y.items[j]? with
       |none=>rw[hp,hq] at hv;cases hv
       |some q=>
       rw[hp,hq] at hv;simp at hv;refine z.ld 0 (x:=ix) ?_;refine (S.ix.fr z.fr).ix (by omega) (by simpa using hp) λa1 g c=>c.tC rfl rfl ?_;refine z.ld 1 (x:=iy) ?_;refine (S.iy.fr z.fr).ix (by omega) (by simpa using hq) λa1 g c=>c.tC rfl rfl ?_;cases hs2:same k N p q with
       |none=>rw[hs2] at hv;cases hv
       |some b2=>
        rw[hs2] at hv;simp at hv;rw[ag];refine (ih1 n p q b2 _ _ (by omega) hs2 z).mono λb' h3 hz=>?_;obtain⟨rfl,z⟩:=hz;have:=ih3 n i (j+1) v b' r x y kx ix ky iy a6 a7 _ _ _ _ L (by omega) hv S (by omega) z
        rwa [S.ky.len] at this
  .obtain⟨n,rfl⟩:∃m,n=m+1:=⟨n-1,by omega⟩;rw[CY];unfold uZ;rw[S.ix.len];rw[yz] at hv;cases hp:x.items[i]? with
   |none=>
    rw[hp] at hv;cases hv;have:=Fy hp;rw[AT (by simp;omega),af];exact⟨rfl,z⟩
   |some p=>
   cases hq:y.items[i]? with
   |none=>rw[hp,hq] at hv;cases hv
   |some q=>
   rw[hp,hq] at hv;simp at hv;have hlt:=aZ hp;rw[By (by simp;omega)];rw[wX hi (by have:=S.b2;have:=hB.2.1;omega)];refine z.ld 0 ?_;have nxt:∀{h},yz k N x y (i+1)=some r->Z h0 h (SO b8 b9 b0 x y kx ix ky iy s root++L)->Wp ((bw.at n).gU (ak b0) (ak b8) (ak b9) (x.items.length:Int) ((i+1:Nat):Int)) h λz h'=>z=(if r then .inl () else .inr false)/\Z h0 h' (SO b8 b9 b0 x y kx ix ky iy s root++L):=by
    intro h hv z;have:=ih4 n (i+1) r x y kx ix ky iy _ _ _ _ L (by omega) hv S (by omega) z
    rwa [S.ix.len] at this
   by_cases e5:x.kind=10
   .rw[By e5] at hv;rw[By (by simpa using e5)];cases hk:x.keys[i]? with
    |none=>rw[hk] at hv;cases hv
    |some v=>
    cases hk2:y.keys[i]? with
    |none=>rw[hk,hk2] at hv;cases hv
    |some w=>
    rw[hk,hk2] at hv;simp at hv;refine z.fH 2 (ls:=[.sl,li]) (x:=(s,root)) ?_;refine z.ld 0 (x:=kx) ?_;refine (S.kx.fr z.fr).ix (by omega) (by simpa using hk) λa1 g c=>c.tC rfl rfl ?_;refine z.ld 1 (x:=ky) ?_;refine (S.ky.fr z.fr).ix (by omega) (by simpa using hk2) λa1 g c=>c.tC rfl rfl ?_;cases hs:same k N v w with
    |none=>rw[hs] at hv;cases hv
    |some b1=>
    rw[hs] at hv;rw[ag];refine (ih1 n v w b1 h _ (by omega) hs z).mono λb' h2 hz=>?_;obtain⟨rfl,z⟩:=hz;cases b' with
    |false=>
     cases hv;rw[By (by rfl),af];exact⟨rfl,z⟩
    |true=>
     simp at hv;rw[AT (by simp)];refine z.fH 2 (ls:=[.sl,li]) (x:=(s,root)) ?_;refine z.ld 0 (x:=ix) ?_;refine (S.ix.fr z.fr).ix (by omega) (by simpa using hp) λa1 g c=>c.tC rfl rfl ?_;refine z.ld 1 (x:=iy) ?_;refine (S.iy.fr z.fr).ix (by omega) (by simpa using hq) λa1 g c=>c.tC rfl rfl ?_;cases hs2:same k N p q with
     |none=>rw[hs2] at hv;cases hv
     |some b2=>
     rw[hs2] at hv;rw[ag];refine (ih1 n p q b2 _ _ (by omega) hs2 z).mono λb' h3 hz=>?_;obtain⟨rfl,z⟩:=hz;cases b' with
     |false=>
      cases hv;rw[By (by rfl),af];exact⟨rfl,z⟩
     |true=>
      simp at hv;rw[AT (by simp)];exact nxt hv z
   .rw[AT e5] at hv;rw[AT (by simpa using e5)];refine z.fH 2 (ls:=[.sl,li]) (x:=(s,root)) ?_;refine z.ld 0 (x:=ix) ?_;refine (S.ix.fr z.fr).ix (by omega) (by simpa using hp) λa1 g c=>c.tC rfl rfl ?_;refine z.ld 1 (x:=iy) ?_;refine (S.iy.fr z.fr).ix (by omega) (by simpa using hq) λa1 g c=>c.tC rfl rfl ?_;cases hs2:same k N p q with
    |none=>rw[hs2] at hv;cases hv
    |some b2=>
    rw[hs2] at hv;rw[ag];refine (ih1 n p q b2 _ _ (by omega) hs2 z).mono λb' h3 hz=>?_;obtain⟨rfl,z⟩:=hz;cases b' with
    |false=>
     cases hv;rw[By (by rfl),af];exact⟨rfl,z⟩
    |true=>
     simp at hv;rw[AT (by simp)];exact nxt hv z
def adG {s}{root}{N}(z:Z h0 h L)(G:kP h0 s N){B}(hB:Bd N B){k n}{i j}{r}(hn:k<=n)(hv:same k N i j=some r):Wp (jy n (s,root) i j) h λx h'=>x=r/\Z h0 h' L:=
 (OT G hB k).1 n i j r h L hn hv z
end
section
variable {α β:Type}{h h' h0:aj}{L:List bJ}{Q:β->aj->Prop}
def isKey (N:List al)(k:Int)(t:ζ)(y:Int):Bool:=match gt N y with
 |some n=>decide (k=n.kind)&&mQ t n.text
 |none=>false
def Z3 (k:Nat)(N:List al)(x:Int):ε->Option Bool
 |[]=>some false
 |y::ys=>match same k N x y with
  |none=>none
  |some true=>some true
  |some false=>Z3 k N x ys
def Wq (k:Nat)(N:List al):ε->ε->Option Bool
 |_,[]=>some false
 |met,x::xs=>match gt N x with
  |none=>none
  |some n=>match Z3 k N x (met.filter (isKey N n.kind n.text)) with
   |none=>none
   |some true=>some true
   |some false=>Wq k N (met++[x]) xs
def twN (k:Nat)(N:List al):List al->Option Bool
 |[]=>some false
 |x::xs=>match Wq k N [] x.keys with
  |none=>none
  |some true=>some true
  |some false=>twN k N xs
structure OU where
 kind:Int
 text:ζ
 s:Sl
 g:Nat
 xs:ε
def OU.own (e:OU):bJ:=.ps e.s 1 av (e.xs.map vi) e.g
def Cg (k:Int)(t:ζ):ο:=Value.agg #[vi k,Value.string t]
def G0 k k' t t':Cm (Cg k t) (Cg k' t')=(decide (k=k')&&mQ t t'):=by
 show Aq [vi k,Value.string t] [vi k',Value.string t']=_;unfold Aq Aq Aq;show (((PZ .i64 .i64&&decide (k=k')))&&(mQ t t'&&true))=_;rw[show PZ .i64 .i64=true from rfl];simp
theorem G3 a:mQ a a=true:=(ac8 a a).2 rfl
def lk:List OU->Int->ζ->Option (Nat×OU)
 |[],_,_=>none
 |e::r,k,t=>if (decide (k=e.kind)&&mQ t e.text)=true then some (0,e) else (lk r k t).map λp=>(p.1+1,p.2)
theorem Te:∀{E} {k} {t} {i} {e},lk E k t=some (i,e)->E[i]?=some e/\k=e.kind/\t=e.text
 |[],k,t,i,e,hl=>by cases hl
 |x::r,k,t,i,e,hl=>by
  rw[lk] at hl;split at hl
  .rename_i hc;cases hl;simp at hc;exact⟨rfl,hc.1,iI hc.2⟩
  .cases hr:lk r k t with
   |none=>grind
   |some p=>
    rw[hr] at hl;cases hl;have:=Te hr
    grind
theorem Z4:∀{E} {k} {t} {i} {e e'},lk E k t=some (i,e)->e'.kind=k->e'.text=t->∀k' t',lk (E.set i e') k' t'=if (decide (k'=k)&&mQ t' t)=true then some (i,e') else lk E k' t'
 |[],k,t,i,e,e',hl,_,_=>by cases hl
 |x::r,k,t,i,e,e',hl,h1,h2=>by
  intro k' t';rw[lk] at hl;split at hl
  .rename_i hc;cases hl;simp at hc;rw[akB,lk,h1,h2];split
   .rfl
   .rename_i hn;rw[lk,AT]
    grind [iI]
  .rename_i hc;cases hr:lk r k t with
   |none=>grind
   |some p=>
    rw[hr] at hl;cases hl;rw[alI,lk,Z4 hr h1 h2 k' t',lk];by_cases hx:(decide (k'=x.kind)&&mQ t' x.text)=true
    .rw[By hx,By hx,AT]
     grind [iI]
    grind
structure Z5 (N:List al) (E:List OU) (met:ε) (f:ο->Option ο):Prop where
 f:∀k t,f (Cg k t)=(lk E k t).map λp=>aC p.2.s
 nn:∀k t,lk E k t=none->met.filter (isKey N k t)=[]
 ss:∀k t i e,lk E k t=some (i,e)->e.xs=met.filter (isKey N k t)
def Z5.nil N:Z5 N [] [] λ_=>none:=⟨λ_ _=>rfl,λ_ _ _=>rfl,λ_ _ _ _ hl=>by cases hl⟩
theorem zB {N}{met}{x}{n}(hn:gt N x=some n) k t :
  (met++[x]).filter (isKey N k t)=met.filter (isKey N k t)++if (decide (k=n.kind)&&mQ t n.text)=true then [x] else []:=by
 grind [isKey]
theorem Z5.vR {N}{E}{met}{f}(I:Z5 N E met f){x}{n}(hn:gt N x=some n){i}{e}(hl:lk E n.kind n.text=some (i,e)) s g :
  Z5 N (E.set i ⟨n.kind,n.text,s,g,e.xs++[x]⟩) (met++[x]) (zW f (Cg n.kind n.text) (aC s)):=by
 have hs:=Z4 (e':=⟨n.kind,n.text,s,g,e.xs++[x]⟩) hl rfl rfl;refine⟨λk t=>?_,λk t h1=>?_,λk t j e2 h1=>?_⟩
 .rw[hs,zW,G0];split
  .grind
  .rename_i hc;exact I.f k t
 .rw[hs] at h1;rw[zB hn];split at h1
  .cases h1
  .rename_i hc;rw[AT hc,I.nn k t h1];rfl
 .rw[hs] at h1;rw[zB hn];split at h1
  .rename_i hc;cases h1;rw[By hc];simp at hc;rw[hc.1,iI hc.2,<-I.ss _ _ _ _ hl]
  .rename_i hc;rw[AT hc,agj,<-I.ss _ _ _ _ h1]
theorem Z5.add {N}{E}{met}{f}(I:Z5 N E met f){x}{n}(hn:gt N x=some n)(hl:lk E n.kind n.text=none) s g f'
  (hf:∀k t,f' (Cg k t)=if (decide (k=n.kind)&&mQ t n.text)=true then some (aC s) else f (Cg k t)) :
  Z5 N (⟨n.kind,n.text,s,g,[x]⟩::E) (met++[x]) f':=by
 refine⟨λk t=>?_,λk t h1=>?_,λk t j e2 h1=>?_⟩
 .rw[hf,lk];split
  .rfl
  .rw[I.f,Option.map_map];rfl
 .rw[lk] at h1;rw[zB hn];split at h1
  .cases h1
  .rename_i hc;simp at h1;rw[AT hc,I.nn k t h1];rfl
 .rw[lk] at h1;rw[zB hn];split at h1
  .rename_i hc;cases h1;rw[By hc];simp at hc;rw[hc.1,iI hc.2,I.nn _ _ hl];rfl
  .rename_i hc;cases hr:lk E k t with
   |none=>grind
   |some p=>
    rw[hr] at h1;cases h1;rw[AT hc,agj,<-I.ss k t p.1 p.2 hr]
theorem af4 {s}{root}{N}(G:kP h0 s N){B}(hB:Bd N B){k}{x}{sl}{ys}(hl:ys.length<=B){o1}{b0} a1 a3 a4 a5 a6 a7 a8 a9
  (hr:∀h',Z h0 h' (o1::.au b0 [aC s,vi root] ah::L)->IL h' sl ys) (hsl:sl.len=ys.length) :
  ∀n i r h ,k+(ys.length-i)<n->i<=ys.length->Z3 k N x (ys.drop i)=some r->Z h0 h (o1::.au b0 [aC s,vi root] ah::L) ->
   Wp (o7 n (ak b0) a1 x a3 a4 a5 a6 a7 a8 a9 sl (sl.len:Int) (i:Int)) h λz h'=>z=(if r then .inr true else .inl ())/\Z h0 h' (o1::.au b0 [aC s,vi root] ah::L):=by
 intro n
 induction n with
 |zero=>intro i r h h1;omega
 |succ n ih=>
  intro i r h h1 h2 hv z;rw[B3];unfold tN;rw[hsl];by_cases hi:i<ys.length
  .rw[By (by grind)];obtain⟨y,hy⟩:=gS hi;rw[drop_cons hy,Z3] at hv;refine (hr h z).ix (by omega) (by simpa using hy) λa g c=>c.tC rfl rfl ?_;refine z.fH 1 (ls:=[.sl,li]) (x:=(s,root)) ?_;cases hs:same k N x y with
   |none=>rw[hs] at hv;cases hv
   |some b=>
    rw[hs] at hv;rw[ag];refine (adG z G hB (by omega) hs).mono λb' h3 hz=>?_;obtain⟨rfl,z⟩:=hz;cases b' with
    |true=>cases hv;rw[By rfl,af];grind
    |false=>
     rw[AT (by simp),wX h2 (by have:=hB.2.1;omega)];have:=ih (i+1) r h3 (by omega) (by omega) hv z
     rwa [hsl] at this
  .rw[AT (by grind),af];have:ys.drop i=[]:=abG (by omega);rw[this] at hv;cases hv;grind
def filter_le {N}{met:ε} k t:(met.filter (isKey N k t)).length<=met.length:=List.length_filter_le _ _
theorem alr {s}{root}{N}(G:kP h0 s N){B}(hB:Bd N B){k}{sl}{xs}(il:IL h0 sl xs)(hl:xs.length<=B){b0 m} a2 a3 a4 :
  ∀n i r h E met f c ,k+B+(xs.length-i)+2<n->i<=xs.length->met.length=i->Wq k N met (xs.drop i)=some r->Z5 N E met f ->
   Z h0 h (.au b0 [aC s,vi root] ah::.map m aE f c::(E.map OU.own++L)) ->
   Wp (mB n (ak b0) (some m) a2 a3 a4 sl (sl.len:Int) (i:Int)) h λz h'=>z=(if r then .inr true else .inl ())/\Z h0 h' (.au b0 [aC s,vi root] ah::L):=by
 have hbig:B<=cP:=by have:=hB.2.1;grind [cP]
 have fin:∀{h:aj} {E:List OU} {f:ο->Option ο} {c:Nat},Z h0 h (.au b0 [aC s,vi root] ah::.map m aE f c::(E.map OU.own++L))->Z h0 h (.au b0 [aC s,vi root] ah::L):=λz=>
  z.sub ((List.Sublist.cons _ (ajY _ _)).cons₂ _)
 intro n
 induction n with
 |zero=>intro i r h E met f c h1;omega
 |succ n ih=>
  intro i r h E met f c h1 h2 hm hv I z;rw[B4];unfold tO;rw[il.len];by_cases hi:i<xs.length
  .rw[By (by grind)];obtain⟨x,hx⟩:=gS hi;rw[drop_cons hx,Wq] at hv;cases hn:gt N x with
   |none=>rw[hn] at hv;cases hv
   |some nx=>
   rw[hn] at hv;simp at hv;obtain⟨x1,x2⟩:=aB hn;refine (il.fr z.fr).ix (by omega) (by simpa using hx) λa g cl=>cl.tC rfl rfl ?_;refine z.eA [13] (by decide) (by decide) λnb h3 z=>?_;refine z.ld 1 ?_;refine G.at z x1 x2 λa1 k1 i1 n1 _ _=>n1.Ov ?_;refine z.ld 1 ?_;refine G.at z x1 x2 λa2' k2 i2 n2 _ _=>n2.Jd ?_;refine z.newAt 0 λh4 z=>z.st 0 λh5 z=>?_;refine z.fH 0 ?_;have z:Z h0 h5 (.au (nb+13) [vi nx.kind,.string nx.text] aE::.au b0 [aC s,vi root] ah::.map m aE f c::(E.map OU.own++L)):=z;have hfk:f (Cg nx.kind nx.text)=(lk E nx.kind nx.text).map λp=>aC p.2.s:=I.f _ _;have hst:∀{E':List OU} {f':ο->Option ο} {c':Nat} {h':aj},Z h0 h' (.au (nb+13) [vi nx.kind,.string nx.text] aE::.au b0 [aC s,vi root] ah::.map m aE f' c'::(E'.map OU.own++L))->Z5 N E' (met++[x]) f'->Wq k N (met++[x]) (xs.drop (i+1))=some r ->
     Wp (mB n (ak b0) (some m) a2 a3 a4 sl (xs.length:Int) (IntKind.i64.wrap ((i:Int)+1))) h' λz h'=>z=(if r then .inr true else .inl ())/\Z h0 h' (.au b0 [aC s,vi root] ah::L):=by
    intro E' f' c' h' z I hv;rw[wX h2 (by have:=hB.2.1;omega)];have:=ih (i+1) r h' E' (met++[x]) f' c' (by omega) (by omega) (by simp[hm]) hv I z.drop
    rwa [il.len] at this
   cases hlk:lk E nx.kind nx.text with
   |none=>
    rw[hlk] at hfk;have hnil:=I.nn _ _ hlk;rw[hnil,Z3] at hv;simp at hv;refine z.jW 2 (k:=Cg nx.kind nx.text) rfl (λv hv2=>by rw[hfk] at hv2;cases hv2) λ_=>?_;have hw:=af4 G hB (k:=k) (x:=x) (sl:=pH) (ys:=[]) (by simp) (some m) (ak (nb+13)) a2 a3 a4 sl (xs.length:Int) (i:Int) (λh' _=>⟨0,rY.nil rfl⟩) rfl n 0 false h5 (by simp;omega) (by simp) rfl z;rw[ag];refine hw.mono λy h6 hy=>?_;obtain⟨rfl,z⟩:=hy;show Wp (sh _ _) h6 _;refine z.fH 0 ?_;refine z.X8 2 (k:=Cg nx.kind nx.text) rfl (by rw[G0];simp[G3]) (λv hv2=>by grind) λ_ h7 st z hs=>?_;have z:=z.add (Fr.refl z.wf) (o:=.ps ⟨none,0,0⟩ 1 av [] 0) zO.nil (.inl rfl);refine z.UE 0 rfl (by decide) rfl (by grind) λs' h8 g' hs' z fr=>?_;have hs:=hs.fr fr (by simp);have z:Z h0 h8 (.ps s' 1 av [vi x] g'::.au (nb+13) [vi nx.kind,.string nx.text] aE::.au b0 [aC s,vi root] ah::.map m aE (zW f (Cg nx.kind nx.text) (EG (Ty.one .sl) pH)) (c+1)::(E.map OU.own++L)):=z;refine z.X9 3 rfl hs λh9 z=>?_;have z:Z h0 h9 (.ps s' 1 av [vi x] g'::.au (nb+13) [vi nx.kind,.string nx.text] aE::.au b0 [aC s,vi root] ah::.map m aE (zW (zW f (Cg nx.kind nx.text) (EG (Ty.one .sl) pH)) (Cg nx.kind nx.text) (aC s')) (c+1)::(E.map OU.own++L)):=z;have z:=z.perm (L':=.au (nb+13) [vi nx.kind,.string nx.text] aE::.au b0 [aC s,vi root] ah::.map m aE (zW (zW f (Cg nx.kind nx.text) (EG (Ty.one .sl) pH)) (Cg nx.kind nx.text) (aC s')) (c+1)::.ps s' 1 av [vi x] g'::(E.map OU.own++L)) (amg (l₁:=[_,_,_])).symm;refine hst z (I.add hn hlk s' g' _ λk' t'=>?_) hv;unfold zW;rw[G0];split<;>rfl
   |some p=>
    obtain⟨j,e⟩:=p;rw[hlk] at hfk;obtain⟨e1,e2,e3⟩:=Te hlk;have hxs:=I.ss _ _ _ _ hlk;have hjlt:=aZ e1;rw[<-hxs] at hv;have hown:∀{f':ο->Option ο} {c':Nat},(.au (nb+13) [vi nx.kind,.string nx.text] aE::.au b0 [aC s,vi root] ah::.map m aE f' c'::(E.map OU.own++L):List bJ)[j+3]?=some (.ps e.s 1 av (e.xs.map vi) e.g):=by
     intro f' c';simp;rw[amc (by grind),abF,e1];rfl
    have hlen:e.s.len=e.xs.length:=(zO.Jf (z.get (j+3) hown)).Jq;have hle:e.xs.length<=i:=(by rw[hxs,<-hm];exact filter_le _ _);refine z.jW 2 (k:=Cg nx.kind nx.text) rfl (λv hv2=>?_) λhv2=>(by rw[hfk] at hv2;cases hv2);rw[hfk] at hv2;cases hv2;refine⟨e.s,rfl,?_⟩;cases hc:Z3 k N x e.xs with
    |none=>rw[hc] at hv;cases hv
    |some b=>
    rw[hc] at hv;have hw:=af4 G hB (by omega) (some m) (ak (nb+13)) a2 a3 a4 sl (xs.length:Int) (i:Int) (λh' z=>⟨_,zO.Jf (z.get (j+3) hown)⟩) hlen n 0 b h5 (by omega) (by omega) hc z;rw[ag];refine hw.mono λy h6 hy=>?_;obtain⟨rfl,z⟩:=hy;cases b with
    |true=>
     cases hv;exact af.2 ⟨rfl,fin z.drop⟩
    |false=>
     simp at hv;show Wp (sh _ _) h6 _;refine z.fH 0 ?_;refine z.X8 2 (k:=Cg nx.kind nx.text) rfl (by rw[G0];simp[G3]) (λv hv2=>?_) λhv2=>(by rw[hfk] at hv2;cases hv2);rw[hfk] at hv2;cases hv2;refine⟨e.s,rfl,λst hs=>?_⟩;have hne:e.g≠m+1:=z.ne 2 (j+3) rfl hown (by omega) (by simp[bJ.iL]);refine z.UE (j+3) hown (by decide) rfl (by grind) λs' h8 g' hs' z fr=>?_;have hs:=hs.fr fr (λe=>hne e.symm);refine z.X9 2 rfl hs λh9 z=>?_;refine hst (c':=c) (z.perm ?_) (I.vR hn hlk s' g') hv;refine List.Perm.of_eq ?_;show bJ.au (nb+13) _ _::bJ.au b0 _ _::bJ.map m _ _ _::((E.map OU.own++L).set j _)=_;rw[aoi _ _ (by simpa using hjlt),anz]
     congr 4
     simp[OU.own]
  .rw[AT (by grind),af]
   grind [List.drop_eq_nil_of_le,Wq,Wq]
theorem als {s}{root}{N}(G:kP h0 s N){B}(hB:Bd N B){k b0} :
  ∀n i r h L ,k+(N.length-i)+2*B+7<n->i<=N.length->twN k N (N.drop i)=some r->Z h0 h (.au b0 [aC s,vi root] ah::L) ->
   Wp (mC n (ak b0) s (s.len:Int) (i:Int)) h λz h'=>z=(if r then .inr true else .inl ())/\Z h0 h' L:=by
 intro n
 induction n with
 |zero=>intro i r h L h1;omega
 |succ n ih=>
  intro i r h L h1 h2 hv z;rw[B5];unfold tP;rw[G.len];by_cases hi:i<N.length
  .rw[By (by grind)];obtain⟨x,hx⟩:=gS hi;rw[drop_cons hx,twN] at hv;have hbd:=hB.2.2 x (IN hx);refine G.at z (by omega) (by simpa using hx) λa ks is nd ik ii=>nd.fH ?_;refine z.node λx2 h2' z=>?_;refine z.akZ λm h3 z=>?_;refine z.ld 1 (x:=ks) ?_;cases hk:Wq k N [] x.keys with
   |none=>rw[hk] at hv;cases hv
   |some b=>
    rw[hk] at hv;have z:=z.perm (L':=.au b0 [aC s,vi root] ah::.map m aE (λ_=>none) 0::([]++(.au x2 [vi x.kind,.string x.text,.bool x.ord,aC ks,aC is] ar::L))) ((amg (l₁:=[_,_])).trans (List.Perm.refl _));rw[ag];refine (alr (k:=k) G hB ik hbd.1 s (N.length:Int) (i:Int) n 0 b h3 [] [] _ 0 (by omega) (by omega) rfl (by grind) (Z5.nil N) z).mono λy h4 hy=>?_;obtain⟨rfl,z⟩:=hy;have z:=(z.perm (List.Perm.swap _ _ _)).drop;cases b with
    |true=>cases hv;exact af.2 ⟨rfl,z.drop⟩
    |false=>
     simp at hv;show Wp (mC n _ _ _ _) h4 _;rw[wX h2 (by have:=hB.1;have:=hB.2.1;omega)];have:=ih (i+1) r h4 L (by omega) (by omega) hv z
     rwa [G.len] at this
  .rw[AT (by grind),af];have:N.drop i=[]:=abG (by omega);rw[this] at hv;cases hv;exact⟨rfl,z.drop⟩
theorem Z6 {s}{root}{N}(z:Z h0 h L)(G:kP h0 s N){B}(hB:Bd N B){k n}(hn:k+3*B+8<n){r}(hr:twN k N N=some r) :
  Wp (xm n (s,root)) h λx h'=>x=r/\Z h0 h' L:=by
 unfold xm;refine z.new λx0 h1 z _=>?_;refine z.ld 0 ?_;rw[ag];refine (als G hB (k:=k) n 0 r h1 L (by have:=hB.1;omega) (by omega) (by grind) z).mono λy h2 hy=>?_;obtain⟨rfl,z⟩:=hy;cases r with
 |true=>exact af.2 ⟨rfl,z⟩
 |false=>exact af.2 ⟨rfl,z⟩
end
section
variable {α β:Type}{h h' h0:aj}{L:List bJ}{Q:β->aj->Prop}
structure TS where
 next:Int
 ix:ε
 lo:ε
 nn:ε
 on:List Bool
 gV:ε
 fq:ε
def mn (a b:Int):Int:=if b<a then b else a
def Iz (a:Int)(st:TS):Option TS:=
 if st.gV.length+1<=cP/\st.fq.length+1<=cP/\(gt st.ix a).isSome/\(gt st.lo a).isSome/\(gt st.on a).isSome then
  let nx:=IntKind.i64.wrap (st.next+1)
  some { st with next:=nx,ix:=st.ix.set a.toNat nx,lo:=st.lo.set a.toNat nx,gV:=st.gV++[a],on:=st.on.set a.toNat true }
 else none
def JJ (a v:Int)(st:TS):Option TS:=match gt st.lo a with
 |none=>none
 |some w=>some { st with lo:=st.lo.set a.toNat (mn w v) }
def tp:Nat->Int->TS->Int->Option (TS×Int)
 |0,_,_,_=>none
 |k+1,a,st,n=>match st.gV.getLast? with
  |none=>none
  |some x=>
   if (gt st.on x).isSome/\(gt st.nn x).isSome/\st.gV.length<=cP then
    let st1:={ st with gV:=st.gV.dropLast,on:=st.on.set x.toNat false,nn:=st.nn.set x.toNat (st.fq.length:Int) }
    if x=a then some (st1,IntKind.i64.wrap (n+1)) else tp k a st1 (IntKind.i64.wrap (n+1))
   else none
mutual
def tv:Nat->List al->Int->TS->Option TS
 |0,_,_,_=>none
 |k+1,N,a,st=>match Iz a st with
  |none=>none
  |some st1=>match gt N a with
   |none=>none
   |some x=>match tl k N a x.keys st1 with
    |none=>none
    |some BD=>match tl k N a x.items BD with
     |none=>none
     |some st3=>match gt st3.lo a,gt st3.ix a with
      |some l,some i=>
       if l≠i then some st3 else match tp k a st3 0 with
        |none=>none
        |some (st4,n)=>if st4.fq.length+1<=cP then some { st4 with fq:=st4.fq++[n] } else none
      |_,_=>none
def tl:Nat->List al->Int->ε->TS->Option TS
 |0,_,_,_,_=>none
 |_+1,_,_,[],st=>some st
 |k+1,N,a,x::xs,st=>match ts k N a x st with
  |none=>none
  |some st1=>tl k N a xs st1
def ts:Nat->List al->Int->Int->TS->Option TS
 |0,_,_,_,_=>none
 |k+1,N,a,x,st=>match gt st.ix x with
  |none=>none
  |some i=>
   if i=0 then match tv k N x st with
    |none=>none
    |some st1=>match gt st1.lo x with
     |none=>none
     |some l=>JJ a l st1
   else match gt st.on x with
    |none=>none
    |some false=>some st
    |some true=>JJ a i st
end
structure TC where
 c1:Nat
 c2:Nat
 c3:Nat
 c4:Nat
 c5:Nat
 c6:Nat
 c7:Nat
 c8:Nat
 c9:Nat
 bi:Nat
 bl:Nat
 bn:Nat
 bo:Nat
def pv (b:Nat):ο:=Value.pointer (some (ak b))
def fnC (C:TC):ο:=Value.func (Fn.func lh) #[] #[pv C.c1,pv C.c2,pv C.c3,pv C.c4,pv C.c5,pv C.c6,pv C.c7,pv C.c8,pv C.c9]
def fnS (C:TC)(b:Nat):ο:=Value.func (Fn.func jO) #[] #[pv C.c2,pv C.c6,pv C.c3,pv b,pv C.c5]
def arr (b m:Nat):Sl:=⟨some ⟨b,0,none⟩,m,m+1⟩
def TL (C : TC) (m : Nat) (s : Sl) (root : Int) (st : TS) (s1 s2 : Sl) (g1 g2 : Nat) : List bJ:=
  [.au C.c1 [vi st.next] av, .au C.c2 [aC (arr C.bi m)] aJ, .au C.c3 [aC (arr C.bl m)] aJ, .au C.c4 [aC s1] aJ, .au C.c5 [aC (arr C.bo m)] BC, .au C.c6 [fnC C] yW,
   .au C.c7 [aC s, vi root] ah, .au C.c8 [aC s2] aJ, .au C.c9 [aC (arr C.bn m)] aJ,
   .au C.bi (st.ix.map vi) av, .au C.bl (st.lo.map vi) av, .au C.bn (st.nn.map vi) av, .au C.bo (st.on.map .bool) xH,
   .ps s1 1 av (st.gV.map vi) g1, .ps s2 1 av (st.fq.map vi) g2]
structure Xb (m:Nat) (st:TS):Prop where
 ix:st.ix.length=m
 lo:st.lo.length=m
 nn:st.nn.length=m
 on:st.on.length=m
def TZ (C:TC)(m:Nat)(s:Sl)(root:Int)(h0 h:aj)(st:TS)(E:List bJ):Prop:=
 Xb m st/\∃s1 s2 g1 g2,Z h0 h (TL C m s root st s1 s2 g1 g2++E)
def _root_.Go.Ago.Z.JK (z:Z h0 h L)(i:Nat){b m:Nat}{e:μ}{c:ε}{a v:Int}{f:Int->M β}(hg:gt c a=some v)(hm:c.length=m)(q:Wp (f v) h Q)(hi:L[i]?=some (.au b (c.map vi) e):=by rfl) :
  Wp (sh (mc (arr b m) a 1) λp=>sh (eU li p) f) h Q:=by
 obtain⟨g1,g2⟩:=aB hg;have hlt:=aZ g2;refine Jr g1 (by omega) ?_;exact z.ld i q hi (by rw[aes,abF,g2];rfl) rfl
def _root_.Go.Ago.Z.rdB (z:Z h0 h L)(i:Nat){b m:Nat}{e:μ}{c:List Bool}{a:Int}{v:Bool}{f:Bool->M β}(hg:gt c a=some v)(hm:c.length=m)(q:Wp (f v) h Q)(hi:L[i]?=some (.au b (c.map .bool) e):=by rfl) :
  Wp (sh (mc (arr b m) a 1) λp=>sh (eU .bool p) f) h Q:=by
 obtain⟨g1,g2⟩:=aB hg;have hlt:=aZ g2;refine Jr g1 (by omega) ?_;exact z.ld i q hi (by rw[aes,abF,g2];rfl) rfl
def OW {c:List α}{a}(hg:(gt c a).isSome=true):0<=a/\a.toNat<c.length/\∃v,gt c a=some v:=by
 cases h1:gt c a with
 |none=>grind
 |some v=>exact⟨(aB h1).1,aZ (aB h1).2,v,rfl⟩
def Me {b m}{a}(h1:0<=a)(h2:a.toNat<m){f}(q:Wp (f ⟨b,a.toNat,none⟩) h Q):Wp (sh (mc (arr b m) a 1) f) h Q:=by
 refine Jr h1 (by omega) ?_;rw[aes];exact q
def Rj {l:List α}{x}(hl:l.getLast?=some x):l=l.dropLast++[x]:=by
 cases l with
 |nil=>cases hl
 |cons a r=>
  grind [List.getLast?_eq_some_getLast,Option.some.inj,List.dropLast_concat_getLast]
def alv {C}{m}{s}{root}{b} :
  ∀k n a st r v w h E ,k<=n->tp k a st v=some (r,w)->TZ C m s root h0 h st (.au b [vi a] av::E) ->
   Wp (eD n (ak C.c4) (ak C.c5) (ak C.c8) (ak C.c9) (ak b) v) h λy h'=>y=w/\TZ C m s root h0 h' r (.au b [vi a] av::E):=by
 intro k
 induction k with
 |zero=>intro n a st r v w h E _ hv;cases hv
 |succ k ih=>
  intro n a st r v w h E hn hv tz;obtain⟨n,rfl⟩:∃m,n=m+1:=⟨n-1,by omega⟩;rw[wu];unfold mu;rw[tp] at hv;cases hx:st.gV.getLast? with
  |none=>rw[hx] at hv;cases hv
  |some x=>
   rw[hx] at hv;simp only at hv;split at hv
   case isFalse=>cases hv
   rename_i hc;obtain⟨x1,x2,_⟩:=OW hc.1;obtain⟨_,x3,_⟩:=OW hc.2.1;obtain⟨ok,s1,s2,g1,g2,z⟩:=tz;have hst:=Rj hx;have hps:zO h s1 1 av (st.gV.map vi) g1:=z.get 13 rfl;have hlen:s1.len=st.gV.length:=hps.Jf.Jq;have hl2:=akL List.length hst;simp at hl2;have hpos:st.gV.length≠0:=λe=>by grind
   have hbnd:s1.len<9223372036854775808:=by
    grind [cP]
   have e1:IntKind.i64.wrap ((s1.len:Int)-1)=((s1.len:Nat):Int)-1:=IntWalk.i64_in _ ⟨by omega,by omega⟩;refine z.ld 3 ?_;refine z.ld 3 ?_;rw[e1];refine hps.Jf.X7 (v:=x) (by omega) ?_ λad cl=>cl.tC rfl rfl ?_
   .rw[anR] at hx;rw[<-hx];congr 1;omega
   refine z.ld 3 ?_;refine z.ld 3 ?_;rw[e1];refine z.agP 13 (by show some (bJ.ps s1 1 av (st.gV.map vi) g1)=_;(conv=>lhs;rw[hst]);rw[ajt];rfl) λs1' hs1 z=>?_
   refine z.st 3 λh1 z=>?_;refine z.ld 4 ?_;refine Me x1 (by rw[<-ok.on];exact x2) ?_;refine z.CH 12 x2 λh2 z=>?_;refine z.ld 8 ?_;refine z.ld 7 ?_;refine Me x1 (by rw[<-ok.nn];exact x3) ?_;have hsz:s2.len=st.fq.length:=(zO.Jf (z.get 14 rfl)).Jq;rw[hsz];refine z.CH 11 x3 λh3 z=>?_;refine z.ld 15 ?_;have tz:TZ C m s root h0 h3 { st with gV:=st.gV.dropLast,on:=st.on.set x.toNat false,nn:=st.nn.set x.toNat (st.fq.length:Int) } (.au b [vi a] av::E):=
    ⟨⟨ok.ix,ok.lo,by simp[ok.nn],by simp[ok.on]⟩,s1',s2,g1,g2,z⟩
   by_cases hxa:x=a
   .rw[By hxa] at hv;cases hv;rw[By (by grind),af]
    grind
   .rw[AT hxa] at hv;rw[AT (by grind)];exact ih n a _ r _ w h3 E (by omega) hv tz
def alw {C}{m}{s}{root}{N}(G:kP h0 s N){B}(hB:Bd N B) :
  ∀k ,(∀n a st r h E ,k<=n->tv k N a st=some r->TZ C m s root h0 h st E ->
    Wp (gw n a (ak C.c1) (ak C.c2) (ak C.c3) (ak C.c4) (ak C.c5) (ak C.c6) (ak C.c7) (ak C.c8) (ak C.c9)) h λ_ h'=>TZ C m s root h0 h' r E) /\
   (∀n a b sl xs i st r h E ,k<=n->tl k N a (xs.drop i) st=some r->IL h0 sl xs->i<=xs.length->xs.length<=B->TZ C m s root h0 h st (.au b [vi a] av::E) ->
    Wp (eG n (ak C.c2) (ak C.c3) (ak C.c4) (ak C.c5) (ak C.c7) (ak C.c8) (ak C.c9) (ak b) (fnS C b) sl (sl.len:Int) (i:Int)) h λ_ h'=>TZ C m s root h0 h' r (.au b [vi a] av::E)) /\
   (∀n a b sl xs i st r h E ,k<=n->tl k N a (xs.drop i) st=some r->IL h0 sl xs->i<=xs.length->xs.length<=B->TZ C m s root h0 h st (.au b [vi a] av::E) ->
    Wp (eE n (ak C.c2) (ak C.c3) (ak C.c4) (ak C.c5) (ak C.c8) (ak C.c9) (ak b) (fnS C b) sl (sl.len:Int) (i:Int)) h λ_ h'=>TZ C m s root h0 h' r (.au b [vi a] av::E)) /\
   (∀n a x b st r h E ,k<=n->ts k N a x st=some r->TZ C m s root h0 h st (.au b [vi a] av::E) ->
    Wp (gF n x (ak C.c2) (ak C.c6) (ak C.c3) (ak b) (ak C.c5)) h λ_ h'=>TZ C m s root h0 h' r (.au b [vi a] av::E)):=by
 intro k
 induction k with
 |zero=>grind [tv,tl,ts]
 |succ k ih=>
  obtain⟨ih1,ih2,ih3,ih4⟩:=ih;refine⟨λn a st r h E hn hv tz=>?_,λn a b sl xs i st r h E hn hv il hi hxB tz=>?_,λn a b sl xs i st r h E hn hv il hi hxB tz=>?_,λn a x b st r h E hn hv tz=>?_⟩
  .obtain⟨n,rfl⟩:∃m,n=m+1:=⟨n-1,by omega⟩;rw[ym];unfold oZ;rw[tv] at hv;cases hp:Iz a st with
   |none=>rw[hp] at hv;cases hv
   |some st1=>
   rw[hp] at hv;simp only at hv;unfold Iz at hp;split at hp
   case isFalse=>cases hp
   rename_i hc;obtain⟨c1,c2,c3,c4,c5⟩:=hc;obtain⟨a1,a2,_⟩:=OW c3;obtain⟨_,a3,_⟩:=OW c4;obtain⟨_,a4,_⟩:=OW c5;have hp:=abL hp;obtain⟨ok,s1,s2,g1,g2,z⟩:=tz;refine z.new λb h1 z _=>?_;have z:=z.perm List.perm_middle.symm;refine z.ld 0 ?_;refine z.st 0 λh2 z=>?_;refine z.ld 1 ?_;refine z.ld 15 ?_;refine z.ld 2 ?_;refine z.ld 15 ?_;refine z.ld 0 ?_;refine Me a1 (by rw[<-ok.ix];exact a2) ?_;refine z.ld 0 ?_;refine z.amz 9 a2 ?_ λh3 z=>?_
   .intro a' ha';simp at ha';rcases ha' with rfl|rfl|rfl
    .exact z.nbO 9 2 rfl rfl (by decide)
    .exact z.nbO 9 15 rfl rfl (by decide)
    .exact z.nbO 9 0 rfl rfl (by decide)
   refine Me a1 (by rw[<-ok.lo];exact a3) ?_;refine z.CH 10 a3 λh4 z=>?_;refine z.ld 3 ?_;refine z.ld 15 ?_;have hps:zO h4 s1 1 av (st.gV.map vi) g1:=z.get 13 rfl;have hlen:s1.len=st.gV.length:=hps.Jf.Jq;refine z.UE 13 (new:=[vi a]) rfl (by decide) rfl (by grind) λs1' h5 g1' hs1 z _=>?_;refine z.st 3 λh6 z=>?_;refine z.ld 4 ?_;refine z.ld 15 ?_;refine Me a1 (by rw[<-ok.on];exact a4) ?_;refine z.CH 12 a4 λh7 z=>?_;have tz:TZ C m s root h0 h7 st1 (.au b [vi a] av::E):=by
    subst hp;refine⟨⟨by simp[ok.ix],by simp[ok.lo],ok.nn,by simp[ok.on]⟩,s1',s2,g1',g2,?_⟩;have:(st.gV++[a]).map vi=st.gV.map vi++[vi a]:=(by simp);unfold TL;simp only;rw[this];exact z
   clear z hps hlen;obtain⟨ok,s1,s2,g1,g2,z⟩:=tz;cases hx:gt N a with
   |none=>rw[hx] at hv;cases hv
   |some x=>
   rw[hx] at hv;simp only at hv;obtain⟨x1,x2⟩:=aB hx;have hb:=hB.2.2 x (IN x2);cases hk:tl k N a x.keys st1 with
   |none=>rw[hk] at hv;cases hv
   |some BD=>
   rw[hk] at hv;simp only at hv;cases hi:tl k N a x.items BD with
   |none=>rw[hi] at hv;cases hv
   |some st3=>
   rw[hi] at hv;simp only at hv;refine z.ld 6 ?_;refine z.ld 15 ?_;refine G.at z x1 x2 λad ks is nd ik ii=>nd.Js ?_;rw[ag];refine (ih2 n a b ks x.keys 0 st1 BD _ E (by omega) hk ik (by omega) hb.1 ⟨ok,s1,s2,g1,g2,z⟩).mono λ_ h8 tz=>?_;obtain⟨ok,s1,s2,g1,g2,z⟩:=tz;refine z.ld 6 ?_;refine z.ld 15 ?_;refine G.at z x1 x2 λad2 ks2 is2 nd2 ik2 ii2=>nd2.Ed ?_;rw[ag];refine (ih3 n a b is2 x.items 0 BD st3 _ E (by omega) hi ii2 (by omega) hb.2 ⟨ok,s1,s2,g1,g2,z⟩).mono λ_ h9 tz=>?_;obtain⟨ok,s1,s2,g1,g2,z⟩:=tz;cases hl:gt st3.lo a with
   |none=>rw[hl] at hv;cases hv
   |some l=>
   cases hj:gt st3.ix a with
   |none=>rw[hl,hj] at hv;cases hv
   |some j=>
   rw[hl,hj] at hv;simp only at hv;refine z.ld 2 ?_;refine z.ld 15 ?_;refine z.JK 10 hl ok.lo ?_;refine z.ld 1 ?_;refine z.ld 15 ?_;refine z.JK 9 hj ok.ix ?_;have fin:∀{h':aj} {r:TS},TZ C m s root h0 h' r (.au b [vi a] av::E)->TZ C m s root h0 h' r E:=λtz=>by
    obtain⟨ok,s1,s2,g1,g2,z⟩:=tz;exact⟨ok,s1,s2,g1,g2,(z.perm amg).drop⟩
   by_cases hlj:l=j
   .rw[AT (by grind)] at hv;rw[AT (by grind)];cases ht:tp k a st3 0 with
    |none=>rw[ht] at hv;cases hv
    |some q=>
    obtain⟨st4,w⟩:=q;rw[ht] at hv;simp only at hv;split at hv
    case isFalse=>cases hv
    rename_i hcs;cases hv;rw[ag];refine (alv k n a st3 st4 0 w h9 E (by omega) ht ⟨ok,s1,s2,g1,g2,z⟩).mono λy h10 hy=>?_;obtain⟨rfl,ok,s1,s2,g1,g2,z⟩:=hy;refine z.ld 7 ?_;have hsz:s2.len=st4.fq.length:=(zO.Jf (z.get 14 rfl)).Jq;refine z.UE 14 (new:=[vi y]) rfl (by decide) rfl (by grind) λs2' h11 g2' hs2 z _=>?_;refine z.st 7 λh12 z=>?_;rw[af];refine fin ⟨⟨ok.ix,ok.lo,ok.nn,ok.on⟩,s1,s2',g1,g2',?_⟩;have:(st4.fq++[y]).map vi=st4.fq.map vi++[vi y]:=(by simp);unfold TL;simp only;rw[this];exact z
   .rw[By (by grind)] at hv;cases hv;rw[By (by grind),af];exact fin ⟨ok,s1,s2,g1,g2,z⟩
  .obtain⟨n,rfl⟩:∃m,n=m+1:=⟨n-1,by omega⟩;rw[wx];unfold mz;rw[il.len];by_cases hi2:i<xs.length
   .rw[By (by grind)];obtain⟨x,hx⟩:=gS hi2;rw[drop_cons hx,tl] at hv;cases hs:ts k N a x st with
    |none=>rw[hs] at hv;cases hv
    |some st1=>
     rw[hs] at hv;simp at hv;have fr:Fr (λ_=>False) h0 h:=(by obtain⟨_,_,_,_,_,z⟩:=tz;exact z.fr);refine (il.fr fr).ix (by omega) (by simpa using hx) λa1 g c=>c.tC rfl rfl ?_;unfold fU;rw[ag,By (by rfl),ag];refine lg (c:=(ak C.c2,ak C.c6,ak C.c3,ak b,ak C.c5)) rfl ?_;refine (ih4 n a x b st st1 h E (by omega) hs tz).mono λ_ h2 tz=>?_;rw[wX hi (by have:=hB.2.1;omega)];have:=ih2 n a b sl xs (i+1) st1 r h2 E (by omega) hv il (by omega) hxB tz
     rwa [il.len] at this
   .rw[AT (by grind),af]
    grind [List.drop_eq_nil_of_le,tl]
  .obtain⟨n,rfl⟩:∃m,n=m+1:=⟨n-1,by omega⟩;rw[wv];unfold mw;rw[il.len];by_cases hi2:i<xs.length
   .rw[By (by grind)];obtain⟨x,hx⟩:=gS hi2;rw[drop_cons hx,tl] at hv;cases hs:ts k N a x st with
    |none=>rw[hs] at hv;cases hv
    |some st1=>
     rw[hs] at hv;simp only at hv;have fr:Fr (λ_=>False) h0 h:=(by obtain⟨_,_,_,_,_,z⟩:=tz;exact z.fr);refine (il.fr fr).ix (by omega) (by simpa using hx) λa1 g c=>c.tC (l:=li) rfl rfl ?_;unfold lO fU;rw[ag,By (by rfl),ag];refine lg (c:=(ak C.c2,ak C.c6,ak C.c3,ak b,ak C.c5)) rfl ?_;refine (ih4 n a x b st st1 h E (by omega) hs tz).mono λ_ h2 tz=>?_;rw[wX hi (by have:=hB.2.1;omega)];have:=ih3 n a b sl xs (i+1) st1 r h2 E (by omega) hv il (by omega) hxB tz
     rwa [il.len] at this
   .rw[AT (by grind),af]
    grind [List.drop_eq_nil_of_le,tl]
  .obtain⟨n,rfl⟩:∃m,n=m+1:=⟨n-1,by omega⟩;rw[wZ];unfold np;rw[ts] at hv;cases hx:gt st.ix x with
   |none=>rw[hx] at hv;cases hv
   |some i=>
   rw[hx] at hv;simp at hv;obtain⟨ok,s1,s2,g1,g2,z⟩:=tz;refine z.ld 1 ?_;refine z.JK 9 hx ok.ix ?_;by_cases hi0:i=0
   .rw[By hi0] at hv;rw[By (by grind)];cases hv1:tv k N x st with
    |none=>rw[hv1] at hv;cases hv
    |some st1=>
    rw[hv1] at hv;simp at hv;refine z.ld 5 ?_;unfold j8;rw[ag,By (by rfl),ag];refine lg (c:=(ak C.c1,ak C.c2,ak C.c3,ak C.c4,ak C.c5,ak C.c6,ak C.c7,ak C.c8,ak C.c9)) rfl ?_;refine (ih1 n x st st1 h _ (by omega) hv1 ⟨ok,s1,s2,g1,g2,z⟩).mono λ_ h2 tz=>?_;obtain⟨ok,s1,s2,g1,g2,z⟩:=tz;cases hl:gt st1.lo x with
    |none=>rw[hl] at hv;cases hv
    |some l=>
    rw[hl] at hv;simp at hv;unfold JJ at hv;cases hw:gt st1.lo a with
    |none=>rw[hw] at hv;cases hv
    |some w=>
    rw[hw] at hv;have hv:=abL hv;refine z.ld 2 ?_;refine z.ld 15 ?_;refine z.ld 2 ?_;refine z.ld 15 ?_;refine z.JK 10 hw ok.lo ?_;refine z.ld 2 ?_;refine z.JK 10 hl ok.lo ?_;obtain⟨w1,w2⟩:=aB hw;refine Me w1 (by rw[<-ok.lo];exact aZ w2) ?_;refine z.CH 10 (v:=mn w l) (aZ w2) λh3 z=>?_;rw[af,<-hv];exact⟨⟨ok.ix,by simp[ok.lo],ok.nn,ok.on⟩,s1,s2,g1,g2,z⟩
   .rw[AT hi0] at hv;rw[AT (by grind)];cases ho:gt st.on x with
    |none=>rw[ho] at hv;cases hv
    |some o=>
    rw[ho] at hv;refine z.ld 4 ?_;refine z.rdB 12 ho ok.on ?_;cases o with
    |false=>
     cases hv;rw[AT (by simp),af];exact⟨ok,s1,s2,g1,g2,z⟩
    |true=>
     simp at hv;rw[By rfl];unfold JJ at hv;cases hw:gt st.lo a with
     |none=>rw[hw] at hv;cases hv
     |some w=>
     rw[hw] at hv;have hv:=abL hv;refine z.ld 2 ?_;refine z.ld 15 ?_;refine z.ld 2 ?_;refine z.ld 15 ?_;refine z.JK 10 hw ok.lo ?_;refine z.ld 1 ?_;refine z.JK 9 hx ok.ix ?_;obtain⟨w1,w2⟩:=aB hw;refine Me w1 (by rw[<-ok.lo];exact aZ w2) ?_;refine z.CH 10 (v:=mn w i) (aZ w2) λh3 z=>?_;rw[af,<-hv];exact⟨⟨ok.ix,by simp[ok.lo],ok.nn,ok.on⟩,s1,s2,g1,g2,z⟩
end
section
variable {α β:Type}{h h' h0:aj}{L:List bJ}{Q:β->aj->Prop}
def mN (m:Nat):TS:=⟨0,List.replicate m 0,List.replicate m 0,List.replicate m (-1),List.replicate m false,[],[]⟩
def comp (k:Nat)(N:List al)(root:Int):Option (ε×ε):=(tv k N root (mN N.length)).map λst=>(st.nn,st.fq)
def Z7 {m i}(hi:i<m):(List.replicate i (-1:Int)++List.replicate (m-i) 0).set i (-1)=List.replicate (i+1) (-1)++List.replicate (m-(i+1)) 0:=by
 have e:m-i=(m-(i+1))+1:=by omega
 rw[alj _ _ (by simp),e,ak0,agi,amf,akB,amU,abM];rfl
theorem adH {bn c9 m}(hm:m<1073741824){o1 o2 o3 o4} a0 a1 a2 a3 :
  ∀n i h ,m-i<n->i<=m->Z h0 h (o1::o2::.au bn ((List.replicate i (-1)++List.replicate (m-i) 0).map vi) av::o3::o4::.au c9 [aC (arr bn m)] aJ::L) ->
   Wp (jI n a0 a1 a2 a3 (ak c9) (m:Int) (i:Int)) h λ_ h'=>Z h0 h' (o1::o2::.au bn ((List.replicate m (-1)).map vi) av::o3::o4::.au c9 [aC (arr bn m)] aJ::L):=by
 intro n
 induction n with
 |zero=>intro i h h1;omega
 |succ n ih=>
  intro i h h1 h2 z;rw[xL];unfold oD;by_cases hi:i<m
  .rw[By (by grind)];refine z.ld 5 (x:=arr bn m) ?_;refine Me (by omega) (by omega) ?_;rw[OF];refine z.CH 2 (xs:=List.replicate i (-1)++List.replicate (m-i) 0) (by grind) λh3 z=>?_;rw[wX h2 (by omega)];rw[Z7 hi] at z;exact ih (i+1) h3 (by omega) (by omega) z
  .rw[AT (by grind),af];have:i=m:=by omega
   simp_all
theorem JL {s}{root}{N}(z:Z h0 h L)(G:kP h0 s N){B}(hB:Bd N B){k n}(hk:k<=n)(hn:B+2<n){nn fq}(hv:comp k N root=some (nn,fq)) :
  Wp (pU n (s,root)) h λx h'=>nn.length=N.length/\∃bn s2 g2,x=(arr bn N.length,s2)/\Z h0 h' (.au bn (nn.map vi) av::.ps s2 1 av (fq.map vi) g2::L):=by
 unfold pU;unfold comp at hv;cases ht:tv k N root (mN N.length) with
 |none=>rw[ht] at hv;cases hv
 |some st=>
 rw[ht] at hv;have hv:=abL hv;have e1:st.nn=nn:=akL Prod.fst hv;have e2:st.fq=fq:=akL Prod.snd hv;subst e1 e2;have hb1:(N.length:Int)<=cP:=by have:=hB.1;have:=hB.2.1;grind [cP]
 refine z.new λx0 h1 z _=>?_;refine z.ld 0 ?_;rw[G.len];refine z.eA [1,3,5,6,7,8] (by decide) (by decide) λnb h2 z=>?_;refine z.acv 0 (by omega) hb1 λh3 z=>?_;refine z.acv 1 (by omega) hb1 λh4 z=>?_;refine z.acv 2 (by omega) hb1 λh5 z=>?_;rw[OF] at z⊢;rw[pQ] at z;refine z.newAt 3 λh6 z=>z.newAt 4 λh7 z=>z.newAt 5 λh8 z=>?_;refine z.Hj 3 (by simp_all) ?_;refine z.stC 3 (by grind) λh9 z=>?_;refine z.Hj 4 (by grind) ?_;refine z.stC 4 (by grind) λh10 z=>?_;refine z.st 5 λh11 z=>?_;refine z.ld 5 ?_;rw[ag];refine (adH (m:=N.length) (by have:=hB.1;have:=hB.2.1;omega) (ak x0) (N.length:Int) (ak (nb+6)) (ak (nb+7)) n 0 h11 (by have:=hB.1;omega) (by omega) z).mono λ_ h12 z=>?_;refine z.new λb14 h13 z _=>?_;refine z.new λb15 h14 z _=>?_;refine z.MW (by omega) hb1 λbo h15 z _=>?_;rw[OF] at z⊢;rw[pQ] at z;refine z.new λb17 h16 z _=>z.st 0 λh17 z=>?_;refine z.new λb19 h18 z _=>z.st 0 λh19 z=>?_;refine z.new λb21 h20 z _=>z.st 0 λh21 z=>?_;refine z.ld 0 ?_;refine z.ld 12 (x:=root) ?_;have z:=z.add (Fr.refl z.wf) (o:=.ps ⟨none,0,0⟩ 1 av [] 0) zO.nil (.inl rfl);have z:=z.add (Fr.refl z.wf) (o:=.ps ⟨none,0,0⟩ 1 av [] 0) zO.nil (.inl rfl);have z:=Z.uV (pre:=[_,_,_,_,_,_,_,_,_,_,_,_,_,_,_]) z [3,11,12,6,4,2,14,7,13,8,9,10,5,0,1] (by simp only[abv,ad8];decide);have tz:TZ ⟨b19,nb+6,nb+7,b15,b17,b21,x0,b14,nb+8,nb+1,nb+3,nb+5,bo⟩ N.length s root h0 h21 (mN N.length) L:=
  ⟨⟨by simp[mN],by simp[mN],by simp[mN],by simp[mN]⟩,⟨none,0,0⟩,⟨none,0,0⟩,0,0,z⟩
 unfold o8;rw[ag,By (by rfl),ag];refine lg (c:=(ak b19,ak (nb+6),ak (nb+7),ak b15,ak b17,ak b21,ak x0,ak b14,ak (nb+8))) rfl ?_;refine ((alw G hB k).1 n root _ st h21 L hk ht tz).mono λ_ h22 tz=>?_;obtain⟨ok,s1,s2,g1,g2,z⟩:=tz;refine z.ld 8 ?_;refine z.ld 7 ?_;rw[af];exact⟨ok.nn,nb+5,s2,g2,rfl,z.sub ((List.Sublist.cons _<|List.Sublist.cons _<|List.Sublist.cons _<|List.Sublist.cons _<|List.Sublist.cons _<|List.Sublist.cons _<|List.Sublist.cons _<|List.Sublist.cons _<|List.Sublist.cons _<|List.Sublist.cons _<|List.Sublist.cons _<|List.Sublist.cons₂ _<|List.Sublist.cons _<|List.Sublist.cons _<|List.Sublist.cons₂ _ (ai3 L)))⟩
end
section
variable {α β:Type}{h h' h0:aj}{L:List bJ}{Q:β->aj->Prop}
def mx (p q:Int):Int:=if p<q then q else p
def mem:Nat->ε->List ε->Option (List ε)
 |_,[],X=>some X
 |i,c::cs,X=>match gt X c with
  |none=>none
  |some xs=>mem (i+1) cs (X.set c.toNat (xs++[(i:Int)]))
def dR (nn:ε)(c:Int):ε->ε->Bool->Option (ε×Bool)
 |[],b,a=>some (b,a)
 |x::xs,b,a=>match gt nn x with
  |none=>none
  |some d=>if d=c then dR nn c xs b false else match gt b c,gt b d with
   |some p,some q=>dR nn c xs (b.set c.toNat (mx p q)) a
   |_,_=>none
def dM (N:List al)(nn:ε)(c:Int):ε->ε->Bool->Option (ε×Bool)
 |[],b,a=>some (b,a)
 |i::is,b,a=>match gt N i with
  |none=>none
  |some x=>match dR nn c x.keys b a with
   |none=>none
   |some (b1,a1)=>match dR nn c x.items b1 a1 with
    |none=>none
    |some (b2,a2)=>dM N nn c is b2 a2
def dC (N:List al)(nn:ε):Nat->List (ε×Int)->ε->Bool->Option (ε×Bool)
 |_,[],b,a=>some (b,a)
 |c,(xs,sz)::r,b,a=>match dM N nn (c:Int) xs b a with
  |none=>none
  |some (b1,a1)=>match gt b1 (c:Int) with
   |none=>none
   |some p=>dC N nn (c+1) r (b1.set c (IntKind.i64.wrap (p+sz))) a1
def dep (k:Nat)(N:List al)(root:Int):Option (Int×Bool):=match comp k N root with
 |none=>none
 |some (nn,fq)=>if fq.length<=N.length then match mem 0 nn (List.replicate fq.length []) with
  |none=>none
  |some X=>match dC N nn 0 (X.zip fq) (List.replicate fq.length 0) true with
   |none=>none
   |some (b,a)=>match gt nn root with
    |none=>none
    |some c=>match gt b c with
     |none=>none
     |some v=>some (IntKind.i64.wrap (v-1),a)
  else none
theorem Tf:∀{cs} {i} {X Y},mem i cs X=some Y->Y.length=X.length
 |[],i,X,Y,he=>by cases he;rfl
 |c::cs,i,X,Y,he=>by
  rw[mem] at he;cases hg:gt X c with
  |none=>grind
  |some xs=>rw[hg] at he;rw[Tf he,ajZ]
theorem Z8:∀{cs} {i} {X Y},mem i cs X=some Y->(∀xs∈X,xs.length<=i)->∀xs∈Y,xs.length<=i+cs.length
 |[],i,X,Y,he,hX=>by cases he;grind
 |c::cs,i,X,Y,he,hX=>by
  rw[mem] at he;cases hg:gt X c with
  |none=>grind
  |some xs=>
   rw[hg] at he;intro ys hy;have:=Z8 he (λzs hz=>?_) ys hy
   .grind
   .rcases amb hz with hz|rfl
    .grind
    .have:=hX xs (IN (aB hg).2);grind
theorem Dw {nn}{c}:∀{xs b} {a} {b'} {a'},dR nn c xs b a=some (b',a')->b'.length=b.length
 |[],b,a,b',a',he=>by cases he;rfl
 |x::xs,b,a,b',a',he=>by
  rw[dR] at he;split at he
  .cases he
  .split at he
   .exact Dw he
   .split at he
    .rw[Dw he,ajZ]
    grind
theorem Rk {N}{nn}{c}:∀{xs b} {a} {b'} {a'},dM N nn c xs b a=some (b',a')->b'.length=b.length
 |[],b,a,b',a',he=>by cases he;rfl
 |x::xs,b,a,b',a',he=>by
  rw[dM] at he;split at he
  .cases he
  .split at he
   .cases he
   .rename_i h1;split at he
    .cases he
    .rename_i h2;rw[Rk he,Dw h2,Dw h1]
def Z9 {N}{nn}:∀{r} {c} {b} {a} {b'} {a'},dC N nn c r b a=some (b',a')->b'.length=b.length
 |[],c,b,a,b',a',he=>by cases he;rfl
 |(xs,sz)::r,c,b,a,b',a',he=>by
  rw[dC] at he;split at he
  .cases he
  .rename_i h1;split at he
   .cases he
   .rw[Z9 he,ajZ,Rk h1]
structure ME where
 s:Sl
 g:Nat
 xs:ε
def ME.own (e:ME):bJ:=.ps e.s 1 av (e.xs.map vi) e.g
def DL (bb bn x0 bm:Nat)(s2 s:Sl)(g2:Nat)(root:Int)(nn fq b:ε)(M:List ME):List bJ:=
 [.au bb (b.map vi) av,.au bn (nn.map vi) av,.ps s2 1 av (fq.map vi) g2,.au x0 [aC s,vi root] ah,.au bm ((M.map ME.s).map aC) aJ]
theorem ajn {M:List ME}{c}{e}(he:M[c]?=some e){bb bn x0 bm}{s2 s}{g2}{root}{nn fq b}{M'} :
  (DL bb bn x0 bm s2 s g2 root nn fq b M'++(M.map ME.own++L))[c+5]?=some (.ps e.s 1 av (e.xs.map vi) e.g):=by
 simp[DL,abE,abJ,aml];rw[amc (by grind),abF,he];rfl
theorem ajo {bb bn x0 bm}{s2 s}{g2}{root}{nn fq b}{m}(hm:nn.length=m)(hb:m<1073741824) a4 a3 a2 a1 :
  ∀n i h M X ,m-i<n->i<=m->mem i (nn.drop i) (M.map ME.xs)=some X->(∀e∈M,e.xs.length<=i)->Z h0 h (DL bb bn x0 bm s2 s g2 root nn fq b M++(M.map ME.own++L)) ->
   Wp (pn n (ak x0) a1 a2 a3 a4 (arr bm M.length) (arr bn m) (m:Int) (i:Int)) h λ_ h'=>∃M',M'.map ME.xs=X/\Z h0 h' (DL bb bn x0 bm s2 s g2 root nn fq b M'++(M'.map ME.own++L)):=by
 intro n
 induction n with
 |zero=>intro i h M X h1;omega
 |succ n ih=>
  intro i h M X h1 h2 hv hle z;rw[Cb];unfold tV;by_cases hi:i<m
  .rw[By (by grind)];obtain⟨c,hc⟩:=gS (l:=nn) (i:=i) (by omega);rw[drop_cons hc,mem] at hv;cases hg:gt (M.map ME.xs) c with
   |none=>rw[hg] at hv;cases hv
   |some xs=>
   rw[hg] at hv;simp at hv;obtain⟨g1,gg⟩:=aB hg;rw[abF] at gg;cases hM:M[c.toNat]? with
   |none=>rw[hM] at gg;cases gg
   |some e=>
   rw[hM] at gg;have gg:e.xs=xs:=abL gg;have hlt:=aZ hM;refine z.JK 1 (by unfold gt;rw[By (by omega)];simpa using hc) hm ?_;refine Me g1 hlt ?_;refine z.ld 4 (x:=e.s) ?_ rfl (by rw[abF,abF,hM];rfl) rfl;have hown:=ajn (L:=L) hM (bb:=bb) (bn:=bn) (x0:=x0) (bm:=bm) (s2:=s2) (s:=s) (g2:=g2) (root:=root) (nn:=nn) (fq:=fq) (b:=b) (M':=M);have hlen:e.s.len=e.xs.length:=(zO.Jf (z.get _ hown)).Jq;have hel:=hle e (IN hM);refine z.UE (c.toNat+5) (new:=[vi (i:Int)]) hown (by decide) rfl (by grind [cP]) λs' h3 g' hs' z _=>?_;refine Me g1 hlt ?_;refine z.CH 4 (xs:=M.map ME.s) (by grind) (λh4 z=>?_);rw[wX h2 (by omega)];have hl':(M.set c.toNat ⟨s',g',e.xs++[(i:Int)]⟩).length=M.length:=by simp
   have z:Z h0 h4 (DL bb bn x0 bm s2 s g2 root nn fq b (M.set c.toNat ⟨s',g',e.xs++[(i:Int)]⟩)++((M.set c.toNat ⟨s',g',e.xs++[(i:Int)]⟩).map ME.own++L)):=by
    refine z.perm (List.Perm.of_eq ?_);simp only[DL,abE,abJ,alI,akB]
    grind [List.set_append_left,List.map_set,ME.own]
   have:=ih (i+1) h4 (M.set c.toNat ⟨s',g',e.xs++[(i:Int)]⟩) X (by omega) (by omega) (by simp_all) (λx hx=>?_) z
   .rw[hl'] at this;exact this
   grind
  .rw[AT (by grind),af];have:nn.drop i=[]:=abG (by omega);rw[this] at hv;cases hv;grind
theorem aaa {bb bn}{nn}{m p}(hm:nn.length=m){sl}{xs}(il:IL h0 sl xs){B}(hB:B<1073741824)(hl:xs.length<=B){c:Nat} a0 a2 a5 a7 a8 a9 a10 a11 a12 a13 a14 :
  ∀n i h b b' a a' R ,xs.length-i<n->i<=xs.length->b.length=p->dR nn c (xs.drop i) b a=some (b',a')->Z h0 h (.au bb (b.map vi) av::.au bn (nn.map vi) av::R) ->
   Wp (pc n a0 (arr bn m) a2 a (arr bb p) a5 (c:Int) a7 a8 a9 a10 a11 a12 a13 a14 sl (sl.len:Int) (i:Int)) h λy h'=>y=a'/\Z h0 h' (.au bb (b'.map vi) av::.au bn (nn.map vi) av::R):=by
 intro n
 induction n with
 |zero=>intro i h b b' a a' R h1;omega
 |succ n ih=>
  intro i h b b' a a' R h1 h2 hp hv z;rw[B8];unfold tS;rw[il.len];by_cases hi:i<xs.length
  .rw[By (by grind)];obtain⟨x,hx⟩:=gS hi;rw[drop_cons hx,dR] at hv;refine (il.fr z.fr).ix (by omega) (by simpa using hx) λa1 g cl=>cl.tC rfl rfl ?_;cases hg:gt nn x with
   |none=>rw[hg] at hv;cases hv
   |some d=>
   rw[hg] at hv;simp only at hv;refine z.JK 1 hg hm ?_;rw[wX h2 (by omega)];by_cases hd:d=c
   .rw[By hd] at hv;rw[By (by grind)];have:=ih (i+1) h b b' false a' R (by omega) (by omega) hp hv z
    rwa [il.len] at this
   .rw[AT hd] at hv;rw[AT (by grind)];cases hq1:gt b (c:Int) with
    |none=>rw[hq1] at hv;cases hv
    |some v=>
    cases hq2:gt b d with
    |none=>rw[hq1,hq2] at hv;cases hv
    |some w=>
    rw[hq1,hq2] at hv;simp only at hv;obtain⟨g1,g2⟩:=aB hq1;obtain⟨g3,g4⟩:=aB hg;have hlt:=aZ g2;refine Me g1 (by omega) ?_;refine Me g3 (by grind) ?_;refine z.ld 0 ?_ rfl (by rw[abF,g2];rfl) rfl;refine z.ld 1 ?_ rfl (by rw[abF,g4];rfl) rfl;refine z.JK 0 hq2 hp ?_;refine Me g1 (by omega) ?_;refine z.CH 0 (v:=mx v w) hlt (λh3 z=>?_);have:=ih (i+1) h3 (b.set (c:Int).toNat (mx v w)) b' a a' R (by omega) (by omega) (by grind) hv z
    rwa [il.len] at this
  .rw[AT (by grind),af];have:xs.drop i=[]:=abG (by omega);rw[this] at hv;cases hv;grind
theorem ajp {bb bn b1}{nn}{m p}(hm:nn.length=m){ks is}{kl il}(ik:IL h0 ks kl)(ii:IL h0 is il){B}(hB:B<1073741824)(hl:kl.length<=B)(hl2:il.length<=B){c:Nat} a0 a2 a5 a7 a8 a9 a10 a11
  n (hn:B+5<=n) h b b2 b' a a2' a' R (hp:b.length=p) (hv1:dR nn c kl b a=some (b2,a2')) (hv2:dR nn c il b2 a2'=some (b',a')) (z:Z h0 h (.au bb (b.map vi) av::.au bn (nn.map vi) av::.au b1 [aC ks,aC is] aJ::R)) :
   Wp (pf n a0 (arr bn m) a2 a (arr bb p) a5 (c:Int) a7 a8 a9 a10 a11 { a:=some (ak b1),len:=2,cap:=3 } (2:Nat) 0) h λy h'=>y=a'/\Z h0 h' (.au bb (b'.map vi) av::.au bn (nn.map vi) av::.au b1 [aC ks,aC is] aJ::R):=by
 obtain⟨n,rfl⟩:∃m,n=m+3:=⟨n-3,by omega⟩;have rs:∀{h},Cl h ⟨b1,0,none⟩ [aC ks,aC is] (b1+1)->rY h { a:=some (ak b1),len:=2,cap:=3 } 1 [aC ks,aC is] (b1+1):=λc=>⟨rfl,.inr ⟨_,rfl,c⟩⟩;rw[qi];unfold mF;rw[By (by decide)];refine (rs (z.cl 2 rfl)).ix (by decide) (by simp) λad cl=>cl.tC rfl rfl ?_;rw[ag];refine (aaa hm ik hB hl a0 a2 a5 a7 a8 a9 a10 a11 _ _ _ _ 0 h b b2 a a2' _ (by omega) (by omega) hp (by grind) z).mono λy h1 hy=>?_;obtain⟨rfl,z⟩:=hy;rw[show IntKind.i64.wrap (0+1)=1 from by decide,qi];unfold mF;rw[By (by decide)];refine (rs (z.cl 2 rfl)).ix (by decide) (by simp) λad cl=>cl.tC rfl rfl ?_;rw[ag];refine (aaa hm ii hB hl2 a0 a2 a5 a7 a8 a9 a10 a11 _ _ _ _ 0 h1 b2 b' y a' _ (by omega) (by omega) (by grind [Dw]) (by grind) z).mono λy2 h2 hy=>?_;obtain⟨rfl,z⟩:=hy;rw[show IntKind.i64.wrap (1+1)=2 from by decide,qi];unfold mF;rw[AT (by decide),af]
 grind
theorem ajq {s}{N}(G:kP h0 s N){B}(hB:Bd N B){bb bn x0}{root}{nn}{m p}(hm:nn.length=m){sl}{xs}(hl:xs.length<=B){o2}{c:Nat} a2 a5 a7 a8
  (hr:∀h' b,Z h0 h' (.au bb b av::.au bn (nn.map vi) av::o2::.au x0 [aC s,vi root] ah::L)->IL h' sl xs) (hsl:sl.len=xs.length) :
  ∀n i h b b' a a' ,B+6+(xs.length-i)<n->i<=xs.length->b.length=p->dM N nn c (xs.drop i) b a=some (b',a')->Z h0 h (.au bb (b.map vi) av::.au bn (nn.map vi) av::o2::.au x0 [aC s,vi root] ah::L) ->
   Wp (pg n (ak x0) (arr bn m) a2 a (arr bb p) a5 (c:Int) a7 a8 sl (sl.len:Int) (i:Int)) h λy h'=>y=a'/\Z h0 h' (.au bb (b'.map vi) av::.au bn (nn.map vi) av::o2::.au x0 [aC s,vi root] ah::L):=by
 intro n
 induction n with
 |zero=>intro i h b b' a a' h1;omega
 |succ n ih=>
  intro i h b b' a a' h1 h2 hp hv z;rw[B9];unfold tT;rw[hsl];by_cases hi:i<xs.length
  .rw[By (by grind)];obtain⟨x,hx⟩:=gS hi;rw[drop_cons hx,dM] at hv;cases hg:gt N x with
   |none=>rw[hg] at hv;cases hv
   |some nx=>
   rw[hg] at hv;simp at hv;obtain⟨x1,x2⟩:=aB hg;have hb:=hB.2.2 nx (IN x2);cases hv1:dR nn c nx.keys b a with
   |none=>rw[hv1] at hv;cases hv
   |some q1=>
   obtain⟨b1,a1⟩:=q1;rw[hv1] at hv;simp at hv;cases hv2:dR nn c nx.items b1 a1 with
   |none=>rw[hv2] at hv;cases hv
   |some q2=>
   obtain⟨b2,a2'⟩:=q2;rw[hv2] at hv;simp at hv;refine (hr h _ z).ix (by omega) (by simpa using hx) λad g cl=>cl.tC rfl rfl ?_;refine z.eA [12] (by decide) (by decide) λnb h3 z=>?_;refine z.ld 4 ?_;refine G.Ss z x1 x2 λad1 ks is nd=>(nd.fr z.fr).Js ?_;refine z.ld 4 ?_;refine G.Ss z x1 x2 λad2 ks2 is2 nd2=>(nd2.fr z.fr).Ed ?_;refine z.newAt 0 λh4 z=>?_;have z:=Z.uV (pre:=[_,_,_]) z [1,2,0] (by simp only[abv,ad8];decide);rw[ag];refine (ajp hm nd.keys nd2.items hB.2.1 hb.1 hb.2 _ _ _ _ _ _ _ _ n (by omega) h4 b b1 b2 a a1 a2' _ hp hv1 hv2 z).mono λy h5 hy=>?_;obtain⟨rfl,z⟩:=hy;have z:=(Z.uV (pre:=[_,_,_]) z [2,0,1] (by simp only[abv,ad8];decide)).drop;rw[wX h2 (by have:=hB.2.1;omega)];have:=ih (i+1) h5 b2 b' y a' (by omega) (by omega) (by rw[Dw hv2,Dw hv1];exact hp) hv z
   rwa [hsl] at this
  .rw[AT (by grind),af];have:xs.drop i=[]:=abG (by omega);rw[this] at hv;cases hv;grind
theorem ajr {s}{N}(G:kP h0 s N){B}(hB:Bd N B){bb bn x0 bm}{s2}{g2}{root}{nn fq}{m p}(hm:nn.length=m){M}(hM:M.length=p)(hs:fq.length=p)(hpB:p<=B)(hle:∀e∈M,e.xs.length<=B) :
  ∀n i h b b' a a' ,2*B+8+(p-i)<n->i<=p->b.length=p->dC N nn i (((M.map ME.xs).zip fq).drop i) b a=some (b',a')->Z h0 h (DL bb bn x0 bm s2 s g2 root nn fq b M++(M.map ME.own++L)) ->
   Wp (ph n (ak x0) (arr bn m) s2 a (arr bb p) (arr bm p) (p:Int) (i:Int)) h λy h'=>y=a'/\Z h0 h' (DL bb bn x0 bm s2 s g2 root nn fq b' M++(M.map ME.own++L)):=by
 intro n
 induction n with
 |zero=>intro i h b b' a a' h1;omega
 |succ n ih=>
  intro i h b b' a a' h1 h2 hp hv z;rw[Ca];unfold tU;by_cases hi:i<p
  .rw[By (by grind)];obtain⟨e,he⟩:=gS (l:=M) (i:=i) (by omega);obtain⟨sz,hz⟩:=gS (l:=fq) (i:=i) (by omega);have hzip:((M.map ME.xs).zip fq)[i]?=some (e.xs,sz):=by
    grind
   rw[drop_cons hzip,dC] at hv;cases hv1:dM N nn (i:Int) e.xs b a with
   |none=>rw[hv1] at hv;cases hv
   |some q1=>
   obtain⟨b1,a1⟩:=q1;rw[hv1] at hv;simp at hv;cases hg:gt b1 (i:Int) with
   |none=>rw[hg] at hv;cases hv
   |some v=>
   rw[hg] at hv;simp at hv;obtain⟨g1,gg⟩:=aB hg;refine Me (by omega) (by omega) ?_;refine z.ld 4 (x:=e.s) ?_ rfl (by rw[OF,abF,abF,he];rfl) rfl;have hown:∀{b:δ},(.au bb b av::.au bn (nn.map vi) av::.ps s2 1 av (fq.map vi) g2::.au x0 [aC s,vi root] ah::.au bm ((M.map ME.s).map aC) aJ::(M.map ME.own++L):List bJ)[i+5]?=some (.ps e.s 1 av (e.xs.map vi) e.g):=by
    intro b;simp;rw[amc (by grind),abF,he];rfl
   have hlen:e.s.len=e.xs.length:=(zO.Jf (z.get _ (hown))).Jq;have hel:=hle e (IN he);rw[ag];refine (ajq G hB hm hel s2 (arr bm p) (p:Int) (i:Int) (λh' b z=>⟨_,zO.Jf (z.get _ hown)⟩) hlen n 0 h b b1 a a1 (by omega) (by omega) hp (by grind) z).mono λy h3 hy=>?_;obtain⟨rfl,z⟩:=hy;have hlb:b1.length=p:=by grind [Rk]
   refine Me (by omega) (by omega) ?_;have hps:zO h3 s2 1 av (fq.map vi) g2:=z.get 2 rfl;refine hps.Jf.X7 (by omega) (by simpa using hz) λad cl=>?_;refine z.ld 0 ?_ rfl (by rw[abF,gg];rfl) rfl;refine cl.tC rfl rfl ?_;refine Me (by omega) (by omega) ?_;refine z.CH 0 (aZ gg) (λh4 z=>?_);rw[wX h2 (by have:=hB.2.1;omega)];exact ih (i+1) h4 _ b' y a' (by omega) (by omega) (by grind) hv z
  .rw[AT (by grind),af];have:((M.map ME.xs).zip fq).drop i=[]:=abG (by grind);rw[this] at hv;cases hv;grind
theorem OX {s}{root}{N}(z:Z h0 h L)(G:kP h0 s N){B}(hB:Bd N B){k n}(hk:k<=n)(hn:3*B+10<n){d}{a}(hv:dep k N root=some (d,a)) :
  Wp (uL n (s,root)) h λx h'=>x=(d,a)/\Z h0 h' L:=by
 unfold uL;unfold dep at hv;cases hc:comp k N root with
 |none=>rw[hc] at hv;cases hv
 |some q=>
 obtain⟨nn,fq⟩:=q;rw[hc] at hv;simp only at hv;split at hv
 case isFalse=>cases hv
 rename_i hsz;cases hm:mem 0 nn (List.replicate fq.length []) with
 |none=>rw[hm] at hv;cases hv
 |some X=>
 rw[hm] at hv;simp at hv;cases hd:dC N nn 0 (X.zip fq) (List.replicate fq.length 0) true with
 |none=>rw[hd] at hv;cases hv
 |some q=>
 obtain⟨b,a1⟩:=q;rw[hd] at hv;simp at hv;cases hg:gt nn root with
 |none=>rw[hg] at hv;cases hv
 |some c=>
 rw[hg] at hv;simp at hv;cases hg2:gt b c with
 |none=>rw[hg2] at hv;cases hv
 |some v=>
 rw[hg2] at hv;simp at hv;obtain⟨rfl,rfl⟩:=hv;have hNB:=hB.1;have hBB:=hB.2.1;refine z.new λx0 h1 z _=>?_;refine z.fH 0 (ls:=[.sl,li]) (x:=(s,root)) ?_;rw[ag];refine (JL z G hB hk (by omega) hc).mono λy h2 hy=>?_;obtain⟨hnn,bn,s2,g2,rfl,z⟩:=hy;have hs2:s2.len=fq.length:=(zO.Jf (z.get 1 rfl)).Jq;simp;rw[hs2];refine z.MW (by omega) (by grind [cP]) λbb h3 z _=>?_;refine z.MW (by omega) (by grind [cP]) λbm h4 z _=>?_;rw[OF] at z⊢;rw[pQ (enc:=vi),show aI=aC pH from rfl,pQ] at z;have z:=Z.uV (pre:=[_,_,_,_,_]) z [1,2,3,4,0] (by grind);have hown:∀n,((List.replicate n (⟨⟨none,0,0⟩,0,[]⟩:ME)).map ME.own)=List.replicate n (.ps ⟨none,0,0⟩ 1 av [] 0):=by
  intro n;rw[alL];rfl
 have addn:∀(n:Nat) {L:List bJ},Z h0 h4 L->Z h0 h4 (List.replicate n (.ps ⟨none,0,0⟩ 1 av [] 0)++L):=by
  intro n
  induction n with
  |zero=>grind
  |succ n ih=>intro L z;exact (ih z).add (Fr.refl z.wf) zO.nil (.inl rfl)
 have z:=addn fq.length z;have z:Z h0 h4 (DL bb bn x0 bm s2 s g2 root nn fq (List.replicate fq.length 0) (List.replicate fq.length ⟨⟨none,0,0⟩,0,[]⟩)++((List.replicate fq.length (⟨⟨none,0,0⟩,0,[]⟩:ME)).map ME.own++L)):=by
  refine z.perm ?_;rw[hown];have e:(List.replicate fq.length (⟨⟨none,0,0⟩,0,[]⟩:ME)).map ME.s=List.replicate fq.length pH:=by rw[alL]
  unfold DL;rw[e];simp only[abE,abJ];have:=amw L (akx (l₁:=List.replicate fq.length (bJ.ps ⟨none,0,0⟩ 1 av [] 0)) (l₂:=[.au bb ((List.replicate fq.length 0).map vi) av,.au bn (nn.map vi) av,.ps s2 1 av (fq.map vi) g2,.au x0 [aC s,vi root] ah,.au bm ((List.replicate fq.length pH).map aC) aJ]))
  simp_all
 rw[ag];have hl0:=ajo hnn (by omega) (arr bb fq.length) true s2 (arr bn N.length) n 0 h4 (List.replicate fq.length ⟨⟨none,0,0⟩,0,[]⟩) X (by omega) (by omega) (by grind [List.map_replicate]) (λe he=>by grind) z;rw[agi] at hl0;refine hl0.mono λ_ h5 hx=>?_;obtain⟨M,rfl,z⟩:=hx;have hML:M.length=fq.length:=by have:=Tf hm;grind
 rw[ag];refine (ajr G hB hnn hML rfl (by omega) (λe he=>?_) n 0 h5 _ b true a1 (by omega) (by omega) (by simp) (by grind) z).mono λy h6 hy=>?_
 .have:=Z8 hm (λxs hx=>by grind) e.xs (List.mem_map.2 ⟨e,he,rfl⟩);omega
 obtain⟨rfl,z⟩:=hy;refine z.ld 3 ?_;refine z.JK 1 hg hnn ?_;have hbl:b.length=fq.length:=by rw[Z9 hd,agi]
 refine z.JK 0 hg2 hbl ?_;rw[af];refine⟨rfl,?_⟩;have z:=z.drop.drop.drop.drop.drop;exact z.sub (ajY _ _)
end
section
variable {α β:Type}{h h' h0:aj}{L:List bJ}{Q:β->aj->Prop}
noncomputable def gA:List Bool->List al->Option Bool
 |m::ms,x::xs=>if m=false then some false else match jr x with
  |none=>none
  |some false=>some false
  |some true=>gA ms xs
 |_,[]=>some true
 |[],_::_=>none
def gB:List Bool->ε->Bool
 |b::bs,c::cs=>if b=true/\c≠1 then false else gB bs cs
 |_,_=>true
noncomputable def pF (k:Nat)(N:List al)(root:Int):Option Int:=
 if 4096<N.length then some 7
 else if N.length=0 then some 3
 else if JI N root=false then some 3
 else match Cf k N root (List.replicate N.length false) with
  |none=>none
  |some ms=>match gA ms N with
   |none=>none
   |some false=>some 3
   |some true=>match kX N root with
    |none=>none
    |some c=>match SI k N N (List.replicate N.length false) with
     |none=>none
     |some ks=>
      if gB ks c=false then some 3
      else match twN k N N with
       |none=>none
       |some true=>some 8
       |some false=>match dep k N root with
        |none=>none
        |some (d,_)=>if 32<d then some 5 else some 0
theorem aab {s}{N}(G:kP h0 s N){B}(hB:Bd N B)(ht:∀x∈N,x.text.size<=65536){bm}{ms:List Bool}(hm:ms.length=N.length){e} a0 :
  ∀n i r h L ,(N.length-i)+65540<n->i<=N.length->gA (ms.drop i) (N.drop i)=some r->Z h0 h (.au bm (ms.map .bool) e::L) ->
   Wp (pB n a0 (arr bm N.length) s (s.len:Int) (i:Int)) h λy h'=>y=(if r then .inl () else .inr 3)/\Z h0 h' (.au bm (ms.map .bool) e::L):=by
 intro n
 induction n with
 |zero=>intro i r h L h1;omega
 |succ n ih=>
  intro i r h L h1 h2 hv z;rw[Cd];unfold ua;rw[G.len];by_cases hi:i<N.length
  .rw[By (by grind)];obtain⟨x,hx⟩:=gS hi;obtain⟨b,hb⟩:=gS (l:=ms) (i:=i) (by omega);rw[drop_cons hx,drop_cons hb,gA] at hv;refine G.at z (by omega) (by simpa using hx) λa ks is nd ik ii=>nd.fH ?_;refine z.node λx2 h2' z=>?_;refine z.rdB 1 (by unfold gt;rw[By (by omega)];simpa using hb) hm ?_;cases b with
   |false=>
    rw[By rfl] at hv;cases hv;rw[By (by rfl),af];exact⟨rfl,z.drop⟩
   |true=>
    rw[AT (by simp)] at hv;rw[AT (by simp)];refine z.fH 0 (ls:=[li,.str,.bool,.sl,.sl]) (x:=(x.kind,x.text,x.ord,ks,is)) ?_;cases hf:jr x with
    |none=>rw[hf] at hv;cases hv
    |some f=>
     rw[hf] at hv;have htx:=ht x (IN hx);rw[ag];refine (adF z ik ii htx (by omega) hf).mono λy h3 hy=>?_;obtain⟨rfl,z⟩:=hy;cases y with
     |false=>
      cases hv;rw[By (by rfl),af];exact⟨rfl,z.drop⟩
     |true=>
      simp at hv;rw[AT (by simp),wX h2 (by have:=hB.1;have:=hB.2.1;omega)];have:=ih (i+1) r h3 L (by omega) (by omega) hv z.drop
      rwa [G.len] at this
  .rw[AT (by grind),af];have e1:N.drop i=[]:=abG (by omega);have e2:ms.drop i=[]:=abG (by omega);rw[e1,e2] at hv;cases hv;grind
theorem aac {bk bc m}{ks:List Bool}{c:ε}(hk:ks.length=m)(hc:c.length=m)(hb:m<1073741824){e1 e2} a0 (z:Z h0 h (.au bk (ks.map .bool) e1::.au bc (c.map vi) e2::L)) :
  ∀n i ,m-i<n->i<=m->Wp (pA n a0 (arr bc m) (arr bk m) (m:Int) (i:Int)) h λy h'=>y=(if gB (ks.drop i) (c.drop i) then .inl () else .inr 3)/\h'=h:=by
 intro n
 induction n with
 |zero=>intro i h1;omega
 |succ n ih=>
  intro i h1 h2;rw[Cc];unfold tZ;by_cases hi:i<m
  .rw[By (by grind)];obtain⟨b,hb⟩:=gS (l:=ks) (i:=i) (by omega);obtain⟨v,hv⟩:=gS (l:=c) (i:=i) (by omega);have hg:gB (ks.drop i) (c.drop i)=if b=true/\v≠1 then false else gB (ks.drop (i+1)) (c.drop (i+1)):=by rw[drop_cons hb,drop_cons hv,gB]
   rw[hg];clear hg;refine z.rdB 0 (by unfold gt;rw[By (by omega)];simpa using hb) hk ?_;have hnx:=ih (i+1) (by omega) (by omega);rw[<-wX h2 (by omega)] at hnx;cases b with
   |false=>
    have e:(if false=true/\v≠1 then false else gB (ks.drop (i+1)) (c.drop (i+1)))=gB (ks.drop (i+1)) (c.drop (i+1)):=AT (by simp);rw[e,AT (by simp)];exact hnx
   |true=>
    rw[By rfl];refine z.JK 1 (by unfold gt;rw[By (by omega)];simpa using hv) hc ?_;by_cases h1:v=1
    .have e:(if true=true/\v≠1 then false else gB (ks.drop (i+1)) (c.drop (i+1)))=gB (ks.drop (i+1)) (c.drop (i+1)):=AT (by simp[h1]);rw[e,AT (by grind)];exact hnx
    .have e:(if true=true/\v≠1 then false else gB (ks.drop (i+1)) (c.drop (i+1)))=false:=By ⟨rfl,h1⟩;rw[e,By (by grind),af]
     grind
  .rw[AT (by grind),af];have e1:ks.drop i=[]:=abG (by omega);rw[e1];exact⟨rfl,rfl⟩
theorem wS {s}{root}{N}(z:Z h0 h L)(G:kP h0 s N){B}(hB:Bd N B)(ht:∀x∈N,x.text.size<=65536){k n}(hn:k+4*B+65600<n){r}(hv:pF k N root=some r) :
  Wp (iE n (s,root)) h λx h'=>x=r/\Z h0 h' L:=by
 have hNB:=hB.1;have hBB:=hB.2.1;unfold iE;unfold pF at hv;refine z.new λx0 h1 z _=>?_;refine z.ld 0 ?_;rw[G.len];by_cases c1:4096<N.length
 .rw[By c1] at hv;cases hv;rw[By (by grind),af];exact⟨rfl,z.drop⟩
 rw[AT c1] at hv;rw[AT (by grind)];refine z.ld 0 ?_;rw[G.len];by_cases c2:N.length=0
 .rw[By c2] at hv;cases hv;rw[By (by simp[c2]),af];exact⟨rfl,z.drop⟩
 rw[AT c2] at hv;rw[AT (by grind)];refine z.fH 0 (ls:=[.sl,li]) (x:=(s,root)) ?_;rw[ag];refine (Q1 z G hB (by omega)).mono λy h2 hy=>?_;obtain⟨rfl,z⟩:=hy;cases c3:JI N root with
 |false=>
  rw[By c3] at hv;cases hv;rw[By (by rfl),af];exact⟨rfl,z.drop⟩
 |true=>
 rw[AT (by simp[c3])] at hv;rw[AT (by simp)];unfold wK;refine z.ld 0 ?_;rw[G.len];refine z.MW (by omega) (by grind [cP]) λbm h3 z _=>?_;rw[OF] at z⊢;rw[pQ] at z;refine z.fH 1 (ls:=[.sl,li]) (x:=(s,root)) ?_;refine z.ld 1 (x:=root) ?_;cases hvis:Cf k N root (List.replicate N.length false) with
 |none=>rw[hvis] at hv;cases hv
 |some ms=>
 rw[hvis] at hv;simp at hv;rw[ag];have hms:ms.length=N.length:=by have:=(GS k N).1 _ _ _ hvis;grind
 have hw:=Dr (cap:=N.length+1) z G hB hvis (n:=n) (root:=root) (by omega);rw[agi] at hw;refine hw.mono λ_ h4 z=>?_;refine z.ld 1 ?_;cases hA:gA ms N with
 |none=>rw[hA] at hv;cases hv
 |some b=>
 rw[hA] at hv;rw[ag];refine (aab G hB ht hms (ak x0) n 0 b h4 _ (by omega) (by omega) (by grind) z).mono λy h5 hy=>?_;obtain⟨rfl,z⟩:=hy;cases b with
 |false=>cases hv;exact af.2 ⟨rfl,z.drop.drop⟩
 |true=>
 simp at hv;show Wp (sh _ _) h5 _;refine z.fH 1 (ls:=[.sl,li]) (x:=(s,root)) ?_;cases hc:kX N root with
 |none=>rw[hc] at hv;cases hv
 |some c=>
 rw[hc] at hv;simp at hv;rw[ag];refine (We z G hB (by omega) hc).mono λy h6 hy=>?_;obtain⟨bc,rfl,hcl,z⟩:=hy;refine z.fH 2 (ls:=[.sl,li]) (x:=(s,root)) ?_;cases hi:SI k N N (List.replicate N.length false) with
 |none=>rw[hi] at hv;cases hv
 |some ks=>
 rw[hi] at hv;simp at hv;rw[ag];refine (Wf z G hB (by omega) hi).mono λy h7 hy=>?_;obtain⟨bk,rfl,hkl,z⟩:=hy;rw[ag];refine (aac hkl hcl (by omega) (ak x0) z n 0 (by omega) (by omega)).mono λy h8 hy=>?_;obtain⟨rfl,rfl⟩:=hy;simp only[ajb];cases hgB:gB ks c with
 |false=>
  rw[By hgB] at hv;cases hv;exact af.2 ⟨rfl,z.drop.drop.drop.drop⟩
 |true=>
 rw[AT (by grind)] at hv;show Wp (sh _ _) h8 _;refine z.fH 3 (ls:=[.sl,li]) (x:=(s,root)) ?_;cases htw:twN k N N with
 |none=>rw[htw] at hv;cases hv
 |some b=>
 rw[htw] at hv;rw[ag];refine (Z6 z G hB (by omega) htw).mono λy h9 hy=>?_;obtain⟨rfl,z⟩:=hy;cases y with
 |true=>cases hv;rw[By rfl,af];exact⟨rfl,z.drop.drop.drop.drop⟩
 |false=>
 simp at hv;rw[AT (by simp)];refine z.fH 3 (ls:=[.sl,li]) (x:=(s,root)) ?_;cases hd:dep k N root with
 |none=>rw[hd] at hv;cases hv
 |some q=>
 obtain⟨d,a⟩:=q;rw[hd] at hv;simp at hv;rw[ag];refine (OX z G hB (by omega) (by omega) hd).mono λy h10 hy=>?_;obtain⟨rfl,z⟩:=hy;by_cases h32:32<d
 .rw[By h32] at hv;cases hv;rw[By (by grind),af];exact⟨rfl,z.drop.drop.drop.drop⟩
 .rw[AT h32] at hv;cases hv;rw[AT (by grind),af];exact⟨rfl,z.drop.drop.drop.drop⟩
end
section
variable {α β:Type}{h h' h0:aj}{L:List bJ}{Q:β->aj->Prop}
def rL:List Bool->Nat->ε
 |[],_=>[]
 |b::bs,n=>(n:Int)::rL bs (if b then n+1 else n)
def IA (at':ε):ε->Option ε
 |[]=>some []
 |x::xs=>match gt at' x,IA at' xs with
  |some v,some r=>some (v::r)
  |_,_=>none
def kN (at':ε):List Bool->List al->Option (List al)
 |_,[]=>some []
 |[],_::_=>none
 |b::bs,x::xs=>if b then match IA at' x.keys,IA at' x.items,kN at' bs xs with
   |some ks,some is,some r=>some ({ x with keys:=ks,items:=is }::r)
   |_,_,_=>none
  else kN at' bs xs
def kept (k:Nat)(N:List al)(root:Int):Option (List al×Int):=match Cf k N root (List.replicate N.length false) with
 |none=>none
 |some ms=>match gt (rL ms 0) root,kN (rL ms 0) ms N with
  |some r,some N'=>some (N',r)
  |_,_=>none
def BG:∀(bs:List Bool) (n:Nat),(rL bs n).length=bs.length
 |[],_=>rfl
 |b::bs,n=>by rw[rL,abv,BG,abv]
theorem xx {at'}:∀{xs ys},IA at' xs=some ys->ys.length=xs.length
 |[],ys,he=>by cases he;rfl
 |x::xs,ys,he=>by
  rw[IA] at he;cases h1:gt at' x with
  |none=>grind
  |some v=>
   cases h2:IA at' xs with
   |none=>grind
   |some r=>rw[h1,h2] at he;cases he;rw[abv,xx h2,abv]
theorem Mf {at'}:∀{xs ys} {i:Nat} {x},IA at' xs=some ys->xs[i]?=some x->∃v,gt at' x=some v/\ys[i]?=some v
 |[],ys,i,x,he,hx=>by grind
 |x::xs,ys,i,w,he,hx=>by
  rw[IA] at he;cases h1:gt at' x with
  |none=>grind
  |some v=>
   cases h2:IA at' xs with
   |none=>grind
   |some r=>
    rw[h1,h2] at he;cases he;cases i with
    |zero=>grind
    |succ i=>have:=Mf h2 (by simpa using hx);grind
theorem fill {ys:ε}{i}{v}(hv:ys[i]?=some v):(ys.take i++List.replicate (ys.length-i) 0).set i v=ys.take (i+1)++List.replicate (ys.length-(i+1)) 0:=by
 have hlt:=aZ hv;have e:ys.length-i=(ys.length-(i+1))+1:=by omega
 rw[alj _ _ (by grind),e,ak0,akq,an3 (by omega),amf,akB,ani,hv,abM];rfl
def IB {cks}{m:M α}{f}{P}(ha:∀a,some a∈cks->∃cs e,LB h a.block cs e/\∀r h',P r h'->LB h' a.block cs e)(hm:Wp m h P)(q:∀r h',P r h'->Wp (f r) h' Q):Wp (sh (uC cks m) f) h Q:=by
 rw[ag];refine CN (hm.mono λr h' hp=>⟨λa hma=>?_,q r h' hp⟩);obtain⟨cs,e,l1,l2⟩:=ha a hma;rw[(l2 r h' hp).get,l1.get]
theorem aad {c9 ba b:Nat}{at':ε}{m:Nat}(hm:at'.length=m){sl:Sl}{xs ys:ε}(il:IL h0 sl xs)(hl:xs.length<1073741824)(hy:IA at' xs=some ys) :
  ∀(n i:Nat) (h:aj) (L:List bJ),xs.length-i<n->i<=xs.length->Z h0 h (.au b ((ys.take i++List.replicate (ys.length-i) 0).map vi) av::.au c9 [aC (arr ba m)] aJ::.au ba (at'.map vi) av::L) ->
   Wp (nZ n (ak c9) (arr b xs.length) sl (sl.len:Int) (i:Int)) h λ_ h'=>Z h0 h' (.au b (ys.map vi) av::.au c9 [aC (arr ba m)] aJ::.au ba (at'.map vi) av::L):=by
 have hyl:=xx hy;intro n
 induction n with
 |zero=>intro i h L h1;omega
 |succ n ih=>
  intro i h L h1 h2 z;rw[AY];unfold sD;rw[il.len];by_cases hi:i<xs.length
  .rw[By (by simp;omega)];obtain⟨x,hx⟩:=gS hi;obtain⟨v,hg,hv⟩:=Mf hy hx;refine (il.fr z.fr).ix (by omega) (by simpa using hx) λa g cl=>cl.tC (l:=li) rfl rfl ?_;refine z.ld 1 (o:=0) (l:=.sl) (x:=arr ba m) ?_;refine z.JK (c:=at') 2 hg hm ?_;refine Me (b:=b) (m:=xs.length) (by omega) (by omega) ?_;rw[OF];refine z.CH 0 (xs:=ys.take i++List.replicate (ys.length-i) 0) (enc:=vi) (v:=v) (by grind) (λh3 z=>?_);rw[fill hv] at z;rw[wX h2 (by omega)];have:=ih (i+1) h3 L (by omega) (by omega) z
   rwa [il.len] at this
  .rw[AT (by simp;omega),af];have:i=ys.length:=by omega
   subst this;simpa using z
def OY {c9 ba:Nat}{at':ε}{m:Nat}(hm:at'.length=m){sl:Sl}{xs ys:ε}(il:IL h0 sl xs)(hl:xs.length<1073741824)(hy:IA at' xs=some ys){n:Nat}(hn:xs.length<n)
  (z:Z h0 h (.au c9 [aC (arr ba m)] aJ::.au ba (at'.map vi) av::L)) :
  Wp (sE n sl (ak c9)) h λr h'=>∃b,r=arr b xs.length/\Z h0 h' (.au b (ys.map vi) av::.au c9 [aC (arr ba m)] aJ::.au ba (at'.map vi) av::L):=by
 have hyl:=xx hy;unfold sE;rw[il.len];refine z.MW (by omega) (by unfold cP;omega) λb h1 z _=>?_;rw[OF] at z⊢;rw[pQ (enc:=vi)] at z;rw[ag];have:=aad (b:=b) hm il hl hy n 0 h1 L (by omega) (by omega) (by rw[hyl];exact z);rw[il.len] at this;refine this.mono λ_ h2 z=>?_;rw[af];exact⟨b,rfl,z⟩
theorem alx {c9 ba bm:Nat}{ms:List Bool}{m:Nat}(hm:ms.length=m)(hb:m<1073741824)(a0 a1:Addr) :
  ∀(n i c:Nat) (h:aj) (L:List bJ),m-i<n->i<=m->c<=i->(rL ms 0).drop i=rL (ms.drop i) c->Z h0 h (.au c9 [aC (arr ba m)] aJ::.au ba (((rL ms 0).take i++List.replicate (m-i) 0).map vi) av::.au bm (ms.map .bool) xH::L) ->
   Wp (qA n a0 a1 (arr bm m) (ak c9) (c:Int) (arr bm m) (m:Int) (i:Int)) h λ_ h'=>Z h0 h' (.au c9 [aC (arr ba m)] aJ::.au ba ((rL ms 0).map vi) av::.au bm (ms.map .bool) xH::L):=by
 have hkl:(rL ms 0).length=m:=by rw[BG,hm]
 intro n
 induction n with
 |zero=>intro i c h L h1;omega
 |succ n ih=>
  intro i c h L h1 h2 hc hk z;rw[Dh];unfold va;by_cases hi:i<m
  .rw[By (by simp;omega)];obtain⟨b,hbit⟩:=gS (l:=ms) (i:=i) (by omega);obtain⟨v,hv⟩:=gS (l:=rL ms 0) (i:=i) (by omega);have hk2:=hk;rw[drop_cons hv,drop_cons hbit,rL] at hk2;have hvc:v=(c:Int):=(am0 hk2).1;have hkn:=(am0 hk2).2;refine z.rdB (c:=ms) 2 (v:=b) (by unfold gt;rw[By (by omega)];simpa using hbit) hm ?_;refine z.ld 0 (o:=0) (l:=.sl) (x:=arr ba m) ?_;refine Me (b:=ba) (m:=m) (by omega) (by omega) ?_;rw[OF];refine z.CH 1 (xs:=(rL ms 0).take i++List.replicate (m-i) 0) (enc:=vi) (v:=(c:Int)) (by grind) (λh3 z=>?_);have hf:=fill hv;rw[hkl,hvc] at hf;rw[hf] at z;rw[wX h2 (by omega)];cases b with
   |true=>
    rw[By rfl,wX hc (by omega)];exact ih (i+1) (c+1) h3 L (by omega) (by omega) (by omega) hkn z
   |false=>
    rw[AT (by simp)];exact ih (i+1) c h3 L (by omega) (by omega) (by omega) hkn z
  .rw[AT (by simp;omega),af];have:i=m:=by omega
   subst this
   grind
structure KR where
 v:al
 kb:Nat
 ib:Nat
def KR.r (x:KR):cm:=⟨x.v.kind,x.v.text,x.v.ord,arr x.kb x.v.keys.length,x.v.keys,x.kb+1,arr x.ib x.v.items.length,x.v.items,x.ib+1⟩
def KR.own (x:KR):List bJ:=[.au x.kb (x.v.keys.map vi) av,.au x.ib (x.v.items.map vi) av]
def KO (R:List KR):List bJ:=R.flatMap KR.own
def KL (rJ c9 ba bm:Nat)(out:Sl)(r:Int)(g m:Nat)(at':ε)(ms:List Bool)(R:List KR):List bJ:=
 [.au c9 [aC (arr ba m)] aJ,.au ba (at'.map vi) av,.au bm (ms.map .bool) xH,.au rJ [aC out,vi r] ah,.ps out 5 ar ((R.map KR.r).flatMap cm.enc) g]
def Mg {at':ε}:∀{ms:List Bool} {xs ys:List al},kN at' ms xs=some ys->ys.length<=xs.length
 |_,[],ys,he=>by cases ms_:0<;>(rw[kN] at he;cases he;simp)
 |[],_::_,ys,he=>by cases he
 |b::bs,x::xs,ys,he=>by
  rw[kN] at he;cases b with
  |false=>rw[AT (by simp)] at he;have:=Mg he;simp;omega
  |true=>
   rw[By rfl] at he;split at he
   .rename_i h1;cases he;have:=Mg h1;simp;omega
   .cases he
theorem adI {s:Sl}{N:List al}(G:kP h0 s N){B:Nat}(hB:Bd N B){rJ c9 ba bm:Nat}{r:Int}{at':ε}{ms:List Bool}(hm:ms.length=N.length)(ha:at'.length=N.length)(a0:Addr) :
  ∀(n i:Nat) (N':List al) (out:Sl) (g:Nat) (R:List KR) (h:aj) (L:List bJ),B+5+(N.length-i)<n->i<=N.length->kN at' (ms.drop i) (N.drop i)=some N'->R.length<=i->Z h0 h (KL rJ c9 ba bm out r g N.length at' ms R++(KO R++L)) ->
   Wp (qz n a0 (arr bm N.length) (ak rJ) (Value.func (Fn.func r9) #[] #[pv c9]) s (s.len:Int) (i:Int)) h λ_ h'=>∃out g R',R'.map KR.v=R.map KR.v++N'/\Z h0 h' (KL rJ c9 ba bm out r g N.length at' ms R'++(KO R'++L)):=by
 intro n
 induction n with
 |zero=>intro i N' out g R h L h1;omega
 |succ n ih=>
  intro i N' out g R h L h1 h2 hv hR z;rw[Df];unfold u9;rw[G.len];by_cases hi:i<N.length
  .rw[By (by simp;omega)];obtain⟨x,hx⟩:=gS hi;obtain⟨b,hb⟩:=gS (l:=ms) (i:=i) (by omega);have hbd:=hB.2.2 x (IN hx);have hBB:=hB.2.1;have hNB:=hB.1;rw[drop_cons hx,drop_cons hb,kN] at hv;refine G.at z (by omega) (by simpa using hx) λa ks is nd ik ii=>nd.fH ?_;refine z.node λx2 h2' z=>?_;refine z.rdB (c:=ms) 3 (v:=b) (by unfold gt;rw[By (by omega)];simpa using hb) hm ?_;rw[wX h2 (by omega)];cases b with
   |false=>
    rw[AT (by simp)] at hv;rw[AT (by simp)];have:=ih (i+1) N' out g R h2' L (by omega) (by omega) hv (by omega) z.drop
    rwa [G.len] at this
   |true=>
    rw[By rfl] at hv;rw[By rfl];cases hk:IA at' x.keys with
    |none=>rw[hk] at hv;cases hv
    |some kl=>
    cases hii:IA at' x.items with
    |none=>rw[hk,hii] at hv;cases hv
    |some il=>
    cases hr:kN at' (ms.drop (i+1)) (N.drop (i+1)) with
    |none=>rw[hk,hii,hr] at hv;cases hv
    |some N2=>
    rw[hk,hii,hr] at hv;have hv:=abL hv;refine z.ld 0 (o:=3) (l:=.sl) (x:=ks) ?_;refine z.ld 0 (o:=4) (l:=.sl) (x:=is) ?_;have zc:=z;have z:=Z.uV (pre:=[_,_,_]) z [1,2,0] (by simp only[abv,ad8];decide);unfold wF;rw[By (by rfl)];refine IB (P:=λrr h'=>∃b,rr=arr b x.keys.length/\Z h0 h' (.au b (kl.map vi) av::.au c9 [aC (arr ba N.length)] aJ::.au ba (at'.map vi) av::.au x2 [vi x.kind,.string x.text,.bool x.ord,aC ks,aC is] ar::.au bm (ms.map .bool) xH::.au rJ [aC out,vi r] ah::.ps out 5 ar ((R.map KR.r).flatMap cm.enc) g::(KO R++L))) ?_ ?_ λr1 h3 hr1=>?_
    .intro a' ha';simp only[al8,abH,amh,aoj] at ha';subst ha';refine⟨_,_,zc.get 0 rfl,λr1 h3 hr1=>?_⟩;obtain⟨b,_,z⟩:=hr1;exact z.get 3 rfl
    .rw[ag];refine lg (c:=ak c9) rfl ?_;exact OY ha ik (by omega) hk (by omega) z
    obtain⟨kb,rfl,z⟩:=hr1;have z:=Z.uV (pre:=[_,_,_]) z [1,2,0] (by simp only[abv,ad8];decide);unfold wG;rw[By (by rfl),ag,ag];refine lg (c:=ak c9) rfl ?_;refine (OY ha ii (by omega) hii (by omega) z).mono λr2 h4 hr2=>?_;obtain⟨ib,rfl,z⟩:=hr2;refine z.st 4 (cs:=[vi x.kind,.string x.text,.bool x.ord,aC ks,aC is]) (λh5 z=>z.st 4 (cs:=[vi x.kind,.string x.text,.bool x.ord,aC (arr kb x.keys.length),aC is]) (λh6 z=>?_));refine z.ld 6 (o:=0) (l:=.sl) (x:=out) ?_;refine z.fH 4 (ls:=[li,.str,.bool,.sl,.sl]) (x:=(x.kind,x.text,x.ord,arr kb x.keys.length,arr ib x.items.length)) ?_;have hps:zO h6 out 5 ar ((R.map KR.r).flatMap cm.enc) g:=z.get 7 rfl;have hol:out.len=R.length:=by
     have:=hps.1;rw[oU cm.xj,aeI] at this;omega
    refine z.UE 7 (new:=[vi x.kind,.string x.text,.bool x.ord,aC (arr kb x.keys.length),aC (arr ib x.items.length)]) rfl (by decide) rfl (by show out.len+1<=cP;unfold cP;omega) λout' h7 g' ho z _=>?_;refine z.st 6 λh8 z=>?_;have hkl:=xx hk;have hil:=xx hii
    let nw:KR:=⟨{ x with keys:=kl,items:=il },kb,ib⟩
    have henc:((R++[nw]).map KR.r).flatMap cm.enc=(R.map KR.r).flatMap cm.enc++[vi x.kind,.string x.text,.bool x.ord,aC (arr kb x.keys.length),aC (arr ib x.items.length)]:=by
     rw[ajt,amj]
     congr 1
     show cm.enc nw.r++[]=_;rw[agj];show [vi x.kind,.string x.text,.bool x.ord,aC (arr kb kl.length),aC (arr ib il.length)]=_;rw[hkl,hil]
    have z:=Z.uV (pre:=[_,_,_,_,_,_,_,_]) z [4,1,2,5,6,7,3,0] (by simp only[abv,ad8];decide);have z:=z.drop;have z:Z h0 h8 (KL rJ c9 ba bm out' r g' N.length at' ms (R++[nw])++(nw.own++(KO R++L))):=by
     unfold KL;rw[henc];exact z
    have z:Z h0 h8 (KL rJ c9 ba bm out' r g' N.length at' ms (R++[nw])++(KO (R++[nw])++L)):=by
     refine z.perm (amN _ ?_);unfold KO;rw[amj,<-abM];refine amw _ ?_;show List.Perm (nw.own++R.flatMap KR.own) (R.flatMap KR.own++(nw.own++[]));rw[agj];exact akx
    have:=ih (i+1) N2 out' g' (R++[nw]) h8 L (by omega) (by omega) hr (by simp;omega) z;rw[G.len] at this;refine this.mono λ_ h9 hx9=>?_;obtain⟨out2,g2,R2,e1,z⟩:=hx9;refine⟨out2,g2,R2,?_,z⟩;rw[e1,<-hv,ajt,abM];rfl
  .rw[AT (by simp;omega),af]
   grind [List.drop_eq_nil_of_le,kN,kN]
def adJ {s:Sl}{root:Int}{N:List al}(z:Z h0 h L)(G:kP h0 s N){B:Nat}(hB:Bd N B){k n:Nat}(hk:k<=n)(hn:2*B+6<n){N':List al}{r:Int}(hv:kept k N root=some (N',r)) :
  Wp (zk n (s,root)) h λx h'=>∃out g R,x=(out,r)/\R.map KR.v=N'/\Z h0 h' (.ps out 5 ar ((R.map KR.r).flatMap cm.enc) g::(KO R++L)):=by
 have hNB:=hB.1;have hBB:=hB.2.1;unfold kept at hv;cases hvis:Cf k N root (List.replicate N.length false) with
 |none=>rw[hvis] at hv;cases hv
 |some ms=>
 rw[hvis] at hv;simp only at hv;cases hg:gt (rL ms 0) root with
 |none=>rw[hg] at hv;cases hv
 |some r1=>
 cases hN:kN (rL ms 0) ms N with
 |none=>rw[hg,hN] at hv;cases hv
 |some N1=>
 rw[hg,hN] at hv;simp only[abH,amn] at hv;obtain⟨rfl,rfl⟩:=hv;have hms:ms.length=N.length:=by have:=(GS k N).1 _ _ _ hvis;simpa using this
 have hkl:(rL ms 0).length=N.length:=by rw[BG,hms]
 unfold zk;refine z.new λx0 h1 z _=>z.new λx1 h2 z _=>?_;refine z.ld 1 (o:=0) (l:=.sl) (x:=s) ?_;rw[G.len];refine z.MW (by omega) (by unfold cP;omega) λbm h3 z _=>?_;rw[OF] at z⊢;rw[pQ (enc:=Value.bool)] at z;refine z.fH 2 (ls:=[.sl,li]) (x:=(s,root)) ?_;refine z.ld 2 (o:=1) (l:=li) (x:=root) ?_;rw[ag];have hw:=Dr (cap:=N.length+1) z G hB hvis (n:=n) (root:=root) hk;rw[agi] at hw;refine hw.mono λ_ h4 z=>?_;refine z.ld 2 (o:=0) (l:=.sl) (x:=s) ?_;rw[G.len];refine z.MW (by omega) (by unfold cP;omega) λba h5 z _=>?_;rw[OF] at z⊢;rw[pQ (enc:=vi)] at z;refine z.new λc9 h6 z _=>z.st 0 λh7 z=>?_;rw[ag];refine (alx (m:=N.length) hms (by omega) (ak x0) (ak x1) n 0 0 h7 _ (by omega) (by omega) (by omega) rfl z).mono λ_ h8 z=>?_;refine z.ld 0 (o:=0) (l:=.sl) (x:=arr ba N.length) ?_;refine z.ld 4 (o:=1) (l:=li) (x:=root) ?_;refine z.JK (c:=rL ms 0) 1 hg hkl ?_;refine z.new λrJ h9 z _=>z.st 0 λh10 z=>?_;refine z.ld 5 (o:=0) (l:=.sl) (x:=s) ?_;have z:=z.add (Fr.refl z.wf) (o:=.ps ⟨none,0,0⟩ 5 ar [] 0) zO.nil (.inl rfl);have z:=Z.uV (pre:=[_,_,_,_,_]) z [2,3,4,1,0] (by simp only[abv,ad8];decide);rw[ag];refine (adI G hB (rJ:=rJ) (c9:=c9) (ba:=ba) (bm:=bm) (r:=r1) hms hkl (ak x1) n 0 N1 ⟨none,0,0⟩ 0 [] h10 _ (by omega) (by omega) (by simpa using hN) (by simp) z).mono λ_ h11 hx=>?_;obtain⟨out,g,R,e,z⟩:=hx;refine z.fH 3 (ls:=[.sl,li]) (x:=(out,r1)) ?_;have z:=z.perm (L':=.au x1 [aI,vi 0] ah::(KL rJ c9 ba bm out r1 g N.length (rL ms 0) ms R++KO R++.au x0 [aC s,vi root] ah::L)) (by
  rw[<-abM];exact amg)
 refine z.st 0 λh12 z=>?_;refine z.fH 0 (ls:=[.sl,li]) (x:=(out,r1)) ?_;rw[af];refine⟨out,g,R,rfl,by simpa using e,?_⟩;refine z.drop.sub ?_;show List.Sublist _ (_::_::_::_::_::(KO R++_::L));exact List.Sublist.cons _ (List.Sublist.cons _ (List.Sublist.cons _ (List.Sublist.cons _ (List.Sublist.cons₂ _ ((ai3 (KO R)).append (amt _ L))))))
def Mh {out:Sl}{g:Nat}{R:List KR}(z:Z h0 h (.ps out 5 ar ((R.map KR.r).flatMap cm.enc) g::(KO R++L))):kP h out (R.map KR.v):=by
 have hps:zO h out 5 ar ((R.map KR.r).flatMap cm.enc) g:=z.get 0 rfl;refine⟨R.map KR.r,g,by rw[akr];rfl,hps.Jf,λx hx=>?_⟩;obtain⟨y,hy,rfl⟩:=List.mem_map.1 hx;have hsub:∀o∈KR.own y,o.ok h:=λo ho=>(z.own o (BY _ (adO _ (List.mem_flatMap.2 ⟨y,hy,ho⟩)))).1;have l1:LB h y.kb (y.v.keys.map vi) av:=hsub (.au y.kb (y.v.keys.map vi) av) (by simp[KR.own]);have l2:LB h y.ib (y.v.items.map vi) av:=hsub (.au y.ib (y.v.items.map vi) av) (by simp[KR.own]);exact⟨⟨_,l1.Jf (by simp)⟩,⟨_,l2.Jf (by simp)⟩⟩
theorem Mi {s:Sl}{root node:Int}{N:List al}(z:Z h0 h L)(G:kP h0 s N){B:Nat}(hB:Bd N B)(ht:∀x∈N,x.text.size<=65536){k n:Nat}(hn:k+4*B+65600<n)(hc:pF k N root=some 0)(h1:0<=node)(h2:node<N.length)
  {N':List al} {r:Int} (hv:kept k N node=some (N',r)) :
  Wp (kW n (s,root) node) h λx h'=>∃out g R,x=((out,r),0)/\R.map KR.v=N'/\Z h0 h' (.ps out 5 ar ((R.map KR.r).flatMap cm.enc) g::(KO R++L)):=by
 unfold kW;refine z.new λx0 h1' z _=>z.new λx1 h2' z _=>?_;refine z.fH 1 (ls:=[.sl,li]) (x:=(s,root)) ?_;rw[ag];refine (wS z G hB ht hn hc).mono λy h3 hy=>?_;obtain⟨rfl,z⟩:=hy;rw[AT (by simp),AT (by simp;omega)];refine z.ld 1 (o:=0) (l:=.sl) (x:=s) ?_;rw[G.len,AT (by simp;omega)];refine z.ld 1 (o:=0) (l:=.sl) (x:=s) ?_;rw[ag];refine (adJ z G hB (by omega) (by omega) hv).mono λy h4 hy=>?_;obtain⟨out,g,R,rfl,e,z⟩:=hy;have z:=z.perm (L':=.au x1 [aI,vi 0] ah::(.ps out 5 ar ((R.map KR.r).flatMap cm.enc) g::KO R++.au x0 [aC s,vi root] ah::L)) (by
  grind [KO,List.perm_middle])
 refine z.st 0 λh5 z=>?_;refine z.fH 0 (ls:=[.sl,li]) (x:=(out,r)) ?_;rw[af];refine⟨out,g,R,rfl,e,z.drop.sub ?_⟩
 grind
end
end Go.Sh
