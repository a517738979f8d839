
import Derived.Test.YtcdofopdlaebaaaGreatDoorGfPa
set_option linter.all false
namespace Go.Sh
open Go Go.Ago Go.Proofs
section
variable {α β:Type}{h h' h0:af}{L:List bj}{Q:β->af->Prop}
mutual
def same:Nat->List an->Int->Int->Option Bool
 |0,_,_,_=>none
 |k+1,N,i,j=>match gt N i,gt N j with
  |some x,some y=>
   if x.kind≠y.kind then some false
   else if mI x.text y.text=false then some false
   else if x.ord≠y.ord then some false
   else if x.items.length≠y.items.length then some false
   else if x.kind=10/\x.ord=false then Fs k N x y 0
   else A5 k N x y 0
  |_,_=>none
def Fs:Nat->List an->an->an->Nat->Option Bool
 |0,_,_,_,_=>none
 |k+1,N,x,y,i=>match x.keys[i]? with
  |none=>some true
  |some kx=>match zm k N x y i kx 0 false with
   |none=>none
   |some false=>some false
   |some true=>Fs k N x y (i+1)
def zm:Nat->List an->an->an->Nat->Int->Nat->Bool->Option Bool
 |0,_,_,_,_,_,_,_=>none
 |k+1,N,x,y,i,kx,j,b=>match y.keys[j]? with
  |none=>some b
  |some ky=>match b with
   |true=>zm k N x y i kx (j+1) true
   |false=>match same k N kx ky with
    |none=>none
    |some false=>zm k N x y i kx (j+1) false
    |some true=>match x.items[i]?,y.items[j]? with
     |some p,some q=>match same k N p q with
      |none=>none
      |some c=>zm k N x y i kx (j+1) c
     |_,_=>none
def A5:Nat->List an->an->an->Nat->Option Bool
 |0,_,_,_,_=>none
 |k+1,N,x,y,i=>match x.items[i]? with
  |none=>some true
  |some p=>match y.items[i]? with
   |none=>none
   |some q=>
    if x.kind=10 then match x.keys[i]?,y.keys[i]? with
     |some kx,some ky=>match same k N kx ky with
      |none=>none
      |some false=>some false
      |some true=>match same k N p q with
       |none=>none
       |some false=>some false
       |some true=>A5 k N x y (i+1)
     |_,_=>none
    else match same k N p q with
     |none=>none
     |some false=>some false
     |some true=>A5 k N x y (i+1)
end
def SO (b8 b9 b0:Nat)(x y:an)(kx ix ky iy s:Sl)(root:Int):List bj:=
 [.ar b8 [vi x.kind,.string x.text,.bool x.ord,aE kx,aE ix] aw,.ar b9 [vi y.kind,.string y.text,.bool y.ord,aE ky,aE iy] aw,.ar b0 [aE s,vi root] aj]
structure S4 (h0:af) (B:Nat) (x y:an) (kx ix ky iy:Sl):Prop where
 kx:IL h0 kx x.keys
 ix:IL h0 ix x.items
 ky:IL h0 ky y.keys
 iy:IL h0 iy y.items
 b1:x.keys.length<=B
 b2:x.items.length<=B
 b3:y.keys.length<=B
 b4:y.items.length<=B
theorem eE {l:List α}{i:Nat}{x:α}(hx:l[i]?=some x):i<l.length:=(List.getElem?_eq_some_iff.1 hx).1
theorem B6 {l:List α}{i:Nat}(hx:l[i]?=none):l.length<=i:=List.getElem?_eq_none_iff.1 hx
theorem LJ {s:Sl}{root:Int}{N:List an}(G:jI h0 s N){B:Nat}(hB:Bd N B) :
  ∀(k:Nat),(∀(n:Nat) (i j:Int) (r:Bool) (h:af) (L:List bj),k<=n->same k N i j=some r->Z h0 h L->Wp (iA n (s,root) i j) h λx h'=>x=r/\Z h0 h' L) /\
   (∀(n i:Nat) (r:Bool) (x y:an) (kx ix ky iy:Sl) (b8 b9 b0:Nat) (h:af) (L:List bj),k<=n->Fs k N x y i=some r->S4 h0 B x y kx ix ky iy->i<=x.keys.length->Z h0 h (SO b8 b9 b0 x y kx ix ky iy s root++L) ->
    Wp (kj n (ak b0) (ak b8) (ak b9) kx (kx.len:Int) (i:Int)) h λz h'=>z=(if r then .inl () else .inr false)/\Z h0 h' (SO b8 b9 b0 x y kx ix ky iy s root++L)) /\
   (∀(n i j:Nat) (v:Int) (b r:Bool) (x y:an) (kx ix ky iy a6:Sl) (a7:Int) (b8 b9 b0:Nat) (h:af) (L:List bj),k<=n->zm k N x y i v j b=some r->S4 h0 B x y kx ix ky iy->j<=y.keys.length->Z h0 h (SO b8 b9 b0 x y kx ix ky iy s root++L) ->
    Wp (gR n (ak b0) (ak b8) (ak b9) (i:Int) v b a6 a7 (i:Int) ky (ky.len:Int) (j:Int)) h λz h'=>z=r/\Z h0 h' (SO b8 b9 b0 x y kx ix ky iy s root++L)) /\
   (∀(n i:Nat) (r:Bool) (x y:an) (kx ix ky iy:Sl) (b8 b9 b0:Nat) (h:af) (L:List bj),k<=n->A5 k N x y i=some r->S4 h0 B x y kx ix ky iy->i<=x.items.length->Z h0 h (SO b8 b9 b0 x y kx ix ky iy s root++L) ->
    Wp (gl n (ak b0) (ak b8) (ak b9) (ix.len:Int) (i:Int)) h λz h'=>z=(if r then .inl () else .inr false)/\Z h0 h' (SO b8 b9 b0 x y kx ix ky iy s root++L)):=by
 intro k
 induction k with
 |zero=>exact⟨λn i j r h L _ hv=>by simp[same] at hv,λn i r x y kx ix ky iy b8 b9 b0 h L _ hv=>by simp[Fs] at hv,λn i j v b r x y kx ix ky iy a6 a7 b8 b9 b0 h L _ hv=>by simp[zm] at hv,λn i r x y kx ix ky iy b8 b9 b0 h L _ hv=>by simp[A5] at hv⟩
 |succ k ih=>
  obtain⟨ih1,ih2,ih3,ih4⟩:=ih;refine⟨λn i j r h L hn hv z=>?_,λn i r x y kx ix ky iy b8 b9 b0 h L hn hv S hi z=>?_,λn i j v b r x y kx ix ky iy a6 a7 b8 b9 b0 h L hn hv S hj z=>?_,λn i r x y kx ix ky iy b8 b9 b0 h L hn hv S hi z=>?_⟩
  .obtain⟨n,rfl⟩:∃m,n=m+1:=⟨n-1,by omega⟩;rw[Da];unfold wm;rw[same] at hv;cases hx:gt N i with
   |none=>rw[hx] at hv;cases hv
   |some x=>
   cases hy:gt N j with
   |none=>rw[hx,hy] at hv;cases hv
   |some y=>
   rw[hx,hy] at hv;simp only at hv;obtain⟨x1,x2⟩:=aD hx;obtain⟨y1,y2⟩:=aD hy;refine z.new λb0 h1 z _=>?_;refine z.eS [10,11] (by decide) (by decide) λnb h2 z=>?_;refine z.ld 2 (o:=0) (l:=.sl) ?_;refine G.Pj z x1 x2 λa kx ix nx=>(nx.fr z.fr).fI ?_;refine z.ld 2 (o:=0) (l:=.sl) ?_;refine G.Pj z y1 y2 λa2 ky iy ny=>(ny.fr z.fr).fI ?_;refine z.newAt 0 λh3 z=>z.newAt 1 λh4 z=>?_;refine z.stC 0 ?_ λh5 z=>z.st 1 λh6 z=>?_
   .intro a' ha';simp only[aei,aaM,ael,or_false] at ha';rcases ha' with rfl|rfl
    .exact z.nbO 0 2 rfl rfl (by decide)
    .obtain⟨g,c⟩:=ny.cl;exact z.nb0 0 c rfl
   have z:Z h0 h6 (SO (nb+10) (nb+11) b0 x y kx ix ky iy s root++L):=z;have hbx:=hB.2.2 x (IN x2);have hby:=hB.2.2 y (IN y2);have S:S4 h0 B x y kx ix ky iy:=⟨nx.keys,nx.items,ny.keys,ny.items,hbx.1,hbx.2,hby.1,hby.2⟩;have dr:∀{h},Z h0 h (SO (nb+10) (nb+11) b0 x y kx ix ky iy s root++L)->Z h0 h L:=λz=>z.drop.drop.drop;refine z.ld 0 (o:=0) (l:=li) (x:=x.kind) ?_;refine z.ld 1 (o:=0) (l:=li) (x:=y.kind) ?_;by_cases e1:x.kind=y.kind
   case neg=>
    rw[if_pos e1] at hv;cases hv;rw[if_pos (by simpa using e1),ag];exact⟨rfl,dr z⟩
   rw[if_neg (by simpa using e1)] at hv;rw[if_neg (by simpa using e1)];refine z.ld 0 (o:=1) (l:=.str) (x:=x.text) ?_;refine z.ld 1 (o:=1) (l:=.str) (x:=y.text) ?_;cases e2:mI x.text y.text with
   |false=>
    rw[if_pos e2] at hv;cases hv;rw[if_pos (by rfl),ag];exact⟨rfl,dr z⟩
   |true=>
   rw[if_neg (by simp[e2])] at hv;rw[if_neg (by simp)];refine z.ld 0 (o:=2) (l:=.bool) (x:=x.ord) ?_;refine z.ld 1 (o:=2) (l:=.bool) (x:=y.ord) ?_;by_cases e3:x.ord=y.ord
   case neg=>
    rw[if_pos e3] at hv;cases hv;rw[if_pos (by simpa using e3),ag];exact⟨rfl,dr z⟩
   rw[if_neg (by simpa using e3)] at hv;rw[if_neg (by simpa using e3)];refine z.ld 0 (o:=4) (l:=.sl) (x:=ix) ?_;refine z.ld 1 (o:=4) (l:=.sl) (x:=iy) ?_;rw[S.ix.len,S.iy.len];by_cases e4:x.items.length=y.items.length
   case neg=>
    rw[if_pos e4] at hv;cases hv;rw[if_pos (by simp;omega),ag];exact⟨rfl,dr z⟩
   rw[if_neg (by simpa using e4)] at hv;rw[if_neg (by simp;omega)];unfold sE;have fin:∀{z:Unit⊕Bool} {h'} {g1:Unit->M Bool} {g2:Bool->M Bool},(z=(if r then .inl () else .inr false)/\Z h0 h' (SO (nb+10) (nb+11) b0 x y kx ix ky iy s root++L))->(g1=λ_=>AI true)->(g2=λx=>AI x) ->
     Wp (cw g1 g2 z) h' λx h'=>x=r/\Z h0 h' L:=by
    intro z h' g1 g2 hz e1 e2;obtain⟨rfl,z⟩:=hz;subst e1 e2;cases r with
    |true=>exact ag.2 ⟨rfl,dr z⟩
    |false=>exact ag.2 ⟨rfl,dr z⟩
   refine z.ld 0 (o:=0) (l:=li) (x:=x.kind) ?_;by_cases e5:x.kind=10
   .rw[if_pos (by simpa using e5)];refine z.ld 0 (o:=2) (l:=.bool) (x:=x.ord) ?_;cases e6:x.ord with
    |false=>
     rw[if_pos ⟨e5,e6⟩] at hv;rw[if_pos (by rfl)];refine z.ld 0 (o:=3) (l:=.sl) (x:=kx) ?_;rw[ah];exact (ih2 n 0 r x y kx ix ky iy _ _ _ _ L (by omega) hv S (by omega) z).mono λ_ h' hz=>fin hz rfl rfl
    |true=>
     rw[if_neg (by simp[e6])] at hv;rw[if_neg (by simp)];refine z.ld 0 (o:=4) (l:=.sl) (x:=ix) ?_;rw[ah];exact (ih4 n 0 r x y kx ix ky iy _ _ _ _ L (by omega) hv S (by omega) z).mono λ_ h' hz=>fin hz rfl rfl
   .rw[if_neg (by simpa using e5)];rw[if_neg (λe=>e5 e.1)] at hv;refine z.ld 0 (o:=4) (l:=.sl) (x:=ix) ?_;rw[ah];exact (ih4 n 0 r x y kx ix ky iy _ _ _ _ L (by omega) hv S (by omega) z).mono λ_ h' hz=>fin hz rfl rfl
  .obtain⟨n,rfl⟩:∃m,n=m+1:=⟨n-1,by omega⟩;rw[zT];unfold sC;rw[S.kx.len];rw[Fs] at hv;cases hx:x.keys[i]? with
   |none=>
    rw[hx] at hv;cases hv;have:=B6 hx;rw[if_neg (by simp;omega),ag];exact⟨rfl,z⟩
   |some v=>
    rw[hx] at hv;simp only at hv;have hlt:=eE hx;rw[if_pos (by simp;omega)];refine (S.kx.fr z.fr).ix (by omega) (by simpa using hx) λa1 g c=>c.pL (l:=li) rfl rfl ?_;refine z.ld 1 (o:=3) (l:=.sl) (x:=ky) ?_;cases hf:zm k N x y i v 0 false with
    |none=>rw[hf] at hv;cases hv
    |some b=>
     rw[hf] at hv;rw[ah];refine (ih3 n i 0 v false b x y kx ix ky iy kx _ _ _ _ _ L (by omega) hf S (by omega) z).mono λb' h2 hz=>?_;obtain⟨rfl,z⟩:=hz;cases b' with
     |false=>
      cases hv;rw[if_pos (by rfl),ag];exact⟨rfl,z⟩
     |true=>
      rw[if_neg (by simp),uv hi (by have:=S.b1;have:=hB.2.1;omega)];have:=ih2 n (i+1) r x y kx ix ky iy _ _ _ _ L (by omega) hv S (by omega) z
      rwa [S.kx.len] at this
  .obtain⟨n,rfl⟩:∃m,n=m+1:=⟨n-1,by omega⟩;rw[zS];unfold sB;rw[S.ky.len];rw[zm] at hv;cases hx:y.keys[j]? with
   |none=>
    rw[hx] at hv;cases hv;have:=B6 hx;rw[if_neg (by simp;omega),ag];exact⟨rfl,z⟩
   |some w=>
    rw[hx] at hv;simp only at hv;have hlt:=eE hx;rw[if_pos (by simp;omega)];refine (S.ky.fr z.fr).ix (by omega) (by simpa using hx) λa1 g c=>c.pL (l:=li) rfl rfl ?_;rw[uv hj (by have:=S.b3;have:=hB.2.1;omega)];cases b with
    |true=>
     simp only at hv;rw[if_pos rfl];have:=ih3 n i (j+1) v true r x y kx ix ky iy a6 a7 _ _ _ _ L (by omega) hv S (by omega) z
     rwa [S.ky.len] at this
    |false=>
     simp only at hv;rw[if_neg (by simp)];refine z.fI 2 (ls:=[.sl,li]) (x:=(s,root)) ?_;cases hs:same k N v w with
     |none=>rw[hs] at hv;cases hv
     |some b1=>
      rw[hs] at hv;rw[ah];refine (ih1 n v w b1 h _ (by omega) hs z).mono λb' h2 hz=>?_;obtain⟨rfl,z⟩:=hz;cases b' with
      |false=>
       simp only at hv;rw[if_neg (by simp)];have:=ih3 n i (j+1) v false r x y kx ix ky iy a6 a7 _ _ _ _ L (by omega) hv S (by omega) z
       rwa [S.ky.len] at this
      |true=>
       simp only at hv;rw[if_pos rfl];refine z.fI 2 (ls:=[.sl,li]) (x:=(s,root)) ?_;cases hp:x.items[i]? with
       |none=>rw[hp] at hv;cases hv
       |some p=>
       cases hq:y.items[j]? with
       |none=>rw[hp,hq] at hv;cases hv
       |some q=>
       rw[hp,hq] at hv;simp only at hv;refine z.ld 0 (o:=4) (l:=.sl) (x:=ix) ?_;refine (S.ix.fr z.fr).ix (by omega) (by simpa using hp) λa1 g c=>c.pL (l:=li) rfl rfl ?_;refine z.ld 1 (o:=4) (l:=.sl) (x:=iy) ?_;refine (S.iy.fr z.fr).ix (by omega) (by simpa using hq) λa1 g c=>c.pL (l:=li) rfl rfl ?_;cases hs2:same k N p q with
       |none=>rw[hs2] at hv;cases hv
       |some b2=>
        rw[hs2] at hv;simp only at hv;rw[ah];refine (ih1 n p q b2 _ _ (by omega) hs2 z).mono λb' h3 hz=>?_;obtain⟨rfl,z⟩:=hz;have:=ih3 n i (j+1) v b' r x y kx ix ky iy a6 a7 _ _ _ _ L (by omega) hv S (by omega) z
        rwa [S.ky.len] at this
  .obtain⟨n,rfl⟩:∃m,n=m+1:=⟨n-1,by omega⟩;rw[zU];unfold sD;rw[S.ix.len];rw[A5] at hv;cases hp:x.items[i]? with
   |none=>
    rw[hp] at hv;cases hv;have:=B6 hp;rw[if_neg (by simp;omega),ag];exact⟨rfl,z⟩
   |some p=>
   cases hq:y.items[i]? with
   |none=>rw[hp,hq] at hv;cases hv
   |some q=>
   rw[hp,hq] at hv;simp only at hv;have hlt:=eE hp;rw[if_pos (by simp;omega)];rw[uv hi (by have:=S.b2;have:=hB.2.1;omega)];refine z.ld 0 (o:=0) (l:=li) (x:=x.kind) ?_;have nxt:∀{h},A5 k N x y (i+1)=some r->Z h0 h (SO b8 b9 b0 x y kx ix ky iy s root++L)->Wp ((bH.at n).gl (ak b0) (ak b8) (ak b9) (x.items.length:Int) ((i+1:Nat):Int)) h λz h'=>z=(if r then .inl () else .inr false)/\Z h0 h' (SO b8 b9 b0 x y kx ix ky iy s root++L):=by
    intro h hv z;have:=ih4 n (i+1) r x y kx ix ky iy _ _ _ _ L (by omega) hv S (by omega) z
    rwa [S.ix.len] at this
   by_cases e5:x.kind=10
   .rw[if_pos e5] at hv;rw[if_pos (by simpa using e5)];cases hk:x.keys[i]? with
    |none=>rw[hk] at hv;cases hv
    |some v=>
    cases hk2:y.keys[i]? with
    |none=>rw[hk,hk2] at hv;cases hv
    |some w=>
    rw[hk,hk2] at hv;simp only at hv;refine z.fI 2 (ls:=[.sl,li]) (x:=(s,root)) ?_;refine z.ld 0 (o:=3) (l:=.sl) (x:=kx) ?_;refine (S.kx.fr z.fr).ix (by omega) (by simpa using hk) λa1 g c=>c.pL (l:=li) rfl rfl ?_;refine z.ld 1 (o:=3) (l:=.sl) (x:=ky) ?_;refine (S.ky.fr z.fr).ix (by omega) (by simpa using hk2) λa1 g c=>c.pL (l:=li) rfl rfl ?_;cases hs:same k N v w with
    |none=>rw[hs] at hv;cases hv
    |some b1=>
    rw[hs] at hv;rw[ah];refine (ih1 n v w b1 h _ (by omega) hs z).mono λb' h2 hz=>?_;obtain⟨rfl,z⟩:=hz;cases b' with
    |false=>
     cases hv;rw[if_pos (by rfl),ag];exact⟨rfl,z⟩
    |true=>
     simp only at hv;rw[if_neg (by simp)];refine z.fI 2 (ls:=[.sl,li]) (x:=(s,root)) ?_;refine z.ld 0 (o:=4) (l:=.sl) (x:=ix) ?_;refine (S.ix.fr z.fr).ix (by omega) (by simpa using hp) λa1 g c=>c.pL (l:=li) rfl rfl ?_;refine z.ld 1 (o:=4) (l:=.sl) (x:=iy) ?_;refine (S.iy.fr z.fr).ix (by omega) (by simpa using hq) λa1 g c=>c.pL (l:=li) rfl rfl ?_;cases hs2:same k N p q with
     |none=>rw[hs2] at hv;cases hv
     |some b2=>
     rw[hs2] at hv;rw[ah];refine (ih1 n p q b2 _ _ (by omega) hs2 z).mono λb' h3 hz=>?_;obtain⟨rfl,z⟩:=hz;cases b' with
     |false=>
      cases hv;rw[if_pos (by rfl),ag];exact⟨rfl,z⟩
     |true=>
      simp only at hv;rw[if_neg (by simp)];exact nxt hv z
   .rw[if_neg e5] at hv;rw[if_neg (by simpa using e5)];refine z.fI 2 (ls:=[.sl,li]) (x:=(s,root)) ?_;refine z.ld 0 (o:=4) (l:=.sl) (x:=ix) ?_;refine (S.ix.fr z.fr).ix (by omega) (by simpa using hp) λa1 g c=>c.pL (l:=li) rfl rfl ?_;refine z.ld 1 (o:=4) (l:=.sl) (x:=iy) ?_;refine (S.iy.fr z.fr).ix (by omega) (by simpa using hq) λa1 g c=>c.pL (l:=li) rfl rfl ?_;cases hs2:same k N p q with
    |none=>rw[hs2] at hv;cases hv
    |some b2=>
    rw[hs2] at hv;rw[ah];refine (ih1 n p q b2 _ _ (by omega) hs2 z).mono λb' h3 hz=>?_;obtain⟨rfl,z⟩:=hz;cases b' with
    |false=>
     cases hv;rw[if_pos (by rfl),ag];exact⟨rfl,z⟩
    |true=>
     simp only at hv;rw[if_neg (by simp)];exact nxt hv z
theorem YP {s:Sl}{root:Int}{N:List an}(z:Z h0 h L)(G:jI h0 s N){B:Nat}(hB:Bd N B){k n:Nat}{i j:Int}{r:Bool}(hn:k<=n)(hv:same k N i j=some r):Wp (iA n (s,root) i j) h λx h'=>x=r/\Z h0 h' L:=
 (LJ G hB k).1 n i j r h L hn hv z
end
section
variable {α β:Type}{h h' h0:af}{L:List bj}{Q:β->af->Prop}
def isKey (N:List an)(k:Int)(t:ByteArray)(y:Int):Bool:=match gt N y with
 |some n=>decide (k=n.kind)&&mI t n.text
 |none=>false
def twC (k:Nat)(N:List an)(x:Int):List Int->Option Bool
 |[]=>some false
 |y::ys=>match same k N x y with
  |none=>none
  |some true=>some true
  |some false=>twC k N x ys
def YQ (k:Nat)(N:List an):List Int->List Int->Option Bool
 |_,[]=>some false
 |met,x::xs=>match gt N x with
  |none=>none
  |some n=>match twC k N x (met.filter (isKey N n.kind n.text)) with
   |none=>none
   |some true=>some true
   |some false=>YQ k N (met++[x]) xs
def Xd (k:Nat)(N:List an):List an->Option Bool
 |[]=>some false
 |x::xs=>match YQ k N [] x.keys with
  |none=>none
  |some true=>some true
  |some false=>Xd k N xs
structure B7 where
 kind:Int
 text:ByteArray
 s:Sl
 g:Nat
 xs:List Int
def B7.own (e:B7):bj:=.ps e.s 1 au (e.xs.map vi) e.g
def yg (k:Int)(t:ByteArray):Value:=Value.agg #[vi k,Value.string t]
theorem D2 (k k':Int)(t t':ByteArray):vG (yg k t) (yg k' t')=(decide (k=k')&&mI t t'):=by
 show xi [vi k,Value.string t] [vi k',Value.string t']=_;unfold xi xi xi;show (((OL .i64 .i64&&decide (k=k')))&&(mI t t'&&true))=_;rw[show OL .i64 .i64=true from rfl];simp
theorem Js (a:ByteArray):mI a a=true:=(Yj a a).2 rfl
def lk:List B7->Int->ByteArray->Option (Nat×B7)
 |[],_,_=>none
 |e::r,k,t=>if (decide (k=e.kind)&&mI t e.text)=true then some (0,e) else (lk r k t).map λp=>(p.1+1,p.2)
theorem P0:∀{E:List B7} {k:Int} {t:ByteArray} {i:Nat} {e:B7},lk E k t=some (i,e)->E[i]?=some e/\k=e.kind/\t=e.text
 |[],k,t,i,e,hl=>by cases hl
 |x::r,k,t,i,e,hl=>by
  rw[lk] at hl;split at hl
  .rename_i hc;cases hl;simp at hc;exact⟨rfl,hc.1,zG hc.2⟩
  .cases hr:lk r k t with
   |none=>rw[hr] at hl;cases hl
   |some p=>
    rw[hr] at hl;cases hl;have:=P0 (i:=p.1) (e:=p.2) hr;exact⟨by simpa using this.1,this.2⟩
theorem VN:∀{E:List B7} {k:Int} {t:ByteArray} {i:Nat} {e e':B7},lk E k t=some (i,e)->e'.kind=k->e'.text=t->∀k' t',lk (E.set i e') k' t'=if (decide (k'=k)&&mI t' t)=true then some (i,e') else lk E k' t'
 |[],k,t,i,e,e',hl,_,_=>by cases hl
 |x::r,k,t,i,e,e',hl,h1,h2=>by
  intro k' t';rw[lk] at hl;split at hl
  .rename_i hc;cases hl;simp at hc;rw[aeg,lk,h1,h2];split
   .rfl
   .rename_i hn;rw[lk,if_neg];rw[<-hc.1,<-zG hc.2];exact hn
  .rename_i hc;cases hr:lk r k t with
   |none=>rw[hr] at hl;cases hl
   |some p=>
    rw[hr] at hl;cases hl;rw[afD,lk,VN (i:=p.1) (e:=p.2) hr h1 h2 k' t',lk];by_cases hx:(decide (k'=x.kind)&&mI t' x.text)=true
    .rw[if_pos hx,if_pos hx,if_neg];intro hy;simp at hx hy;refine hc ?_;rw[<-hy.1,<-zG hy.2];simp[hx]
    .rw[if_neg hx,if_neg hx];split<;>rfl
structure VO (N:List an) (E:List B7) (met:List Int) (f:Value->Option Value):Prop where
 f:∀k t,f (yg k t)=(lk E k t).map λp=>aE p.2.s
 nn:∀k t,lk E k t=none->met.filter (isKey N k t)=[]
 ss:∀k t i e,lk E k t=some (i,e)->e.xs=met.filter (isKey N k t)
theorem VO.nil (N:List an):VO N [] [] λ_=>none:=⟨λ_ _=>rfl,λ_ _ _=>rfl,λ_ _ _ _ hl=>by cases hl⟩
theorem wJ {N:List an}{met:List Int}{x:Int}{n:an}(hn:gt N x=some n)(k:Int)(t:ByteArray) :
  (met++[x]).filter (isKey N k t)=met.filter (isKey N k t)++if (decide (k=n.kind)&&mI t n.text)=true then [x] else []:=by
 rw[List.filter_append]
 congr 1
 rw[List.filter_cons,isKey,hn];simp only[List.filter_nil]
theorem VO.rC {N:List an}{E:List B7}{met:List Int}{f:Value->Option Value}(I:VO N E met f){x:Int}{n:an}(hn:gt N x=some n){i:Nat}{e:B7}(hl:lk E n.kind n.text=some (i,e))(s:Sl)(g:Nat) :
  VO N (E.set i ⟨n.kind,n.text,s,g,e.xs++[x]⟩) (met++[x]) (wX f (yg n.kind n.text) (aE s)):=by
 have hs:=VN (e':=⟨n.kind,n.text,s,g,e.xs++[x]⟩) hl rfl rfl;refine⟨λk t=>?_,λk t h1=>?_,λk t j e2 h1=>?_⟩
 .rw[hs,wX,D2];split
  .rename_i hc;rfl
  .rename_i hc;exact I.f k t
 .rw[hs] at h1;rw[wJ hn];split at h1
  .cases h1
  .rename_i hc;rw[if_neg hc,I.nn k t h1];rfl
 .rw[hs] at h1;rw[wJ hn];split at h1
  .rename_i hc;cases h1;rw[if_pos hc];simp at hc;rw[hc.1,zG hc.2,<-I.ss _ _ _ _ hl]
  .rename_i hc;rw[if_neg hc,adG,<-I.ss _ _ _ _ h1]
theorem VO.add {N:List an}{E:List B7}{met:List Int}{f:Value->Option Value}(I:VO N E met f){x:Int}{n:an}(hn:gt N x=some n)(hl:lk E n.kind n.text=none)(s:Sl)(g:Nat)(f':Value->Option Value)
  (hf:∀k t,f' (yg k t)=if (decide (k=n.kind)&&mI t n.text)=true then some (aE s) else f (yg k t)) :
  VO N (⟨n.kind,n.text,s,g,[x]⟩::E) (met++[x]) f':=by
 refine⟨λk t=>?_,λk t h1=>?_,λk t j e2 h1=>?_⟩
 .rw[hf,lk];split
  .rfl
  .rw[I.f,Option.map_map];rfl
 .rw[lk] at h1;rw[wJ hn];split at h1
  .cases h1
  .rename_i hc;simp only[Option.map_eq_none_iff] at h1;rw[if_neg hc,I.nn k t h1];rfl
 .rw[lk] at h1;rw[wJ hn];split at h1
  .rename_i hc;cases h1;rw[if_pos hc];simp at hc;rw[hc.1,zG hc.2,I.nn _ _ hl];rfl
  .rename_i hc;cases hr:lk E k t with
   |none=>rw[hr] at h1;cases h1
   |some p=>
    rw[hr] at h1;cases h1;rw[if_neg hc,adG,<-I.ss k t p.1 p.2 hr]
theorem aaN {s:Sl}{root:Int}{N:List an}(G:jI h0 s N){B:Nat}(hB:Bd N B){k:Nat}{x:Int}{sl:Sl}{ys:List Int}(hl:ys.length<=B){o1:bj}{b0:Nat}(a1:Option Nat)(a3:Addr)(a4:Sl)(a5 a6:Int)(a7:Sl)(a8 a9:Int)
  (hr:∀h',Z h0 h' (o1::.ar b0 [aE s,vi root] aj::L)->IL h' sl ys) (hsl:sl.len=ys.length) :
  ∀(n i:Nat) (r:Bool) (h:af),k+(ys.length-i)<n->i<=ys.length->twC k N x (ys.drop i)=some r->Z h0 h (o1::.ar b0 [aE s,vi root] aj::L) ->
   Wp (kP n (ak b0) a1 x a3 a4 a5 a6 a7 a8 a9 sl (sl.len:Int) (i:Int)) h λz h'=>z=(if r then .inr true else .inl ())/\Z h0 h' (o1::.ar b0 [aE s,vi root] aj::L):=by
 intro n
 induction n with
 |zero=>intro i r h h1;omega
 |succ n ih=>
  intro i r h h1 h2 hv z;rw[yR];unfold qU;rw[hsl];by_cases hi:i<ys.length
  .rw[if_pos (by simp;omega)];obtain⟨y,hy⟩:=jy hi;rw[drop_cons hy,twC] at hv;refine (hr h z).ix (by omega) (by simpa using hy) λa g c=>c.pL (l:=li) rfl rfl ?_;refine z.fI 1 (ls:=[.sl,li]) (x:=(s,root)) ?_;cases hs:same k N x y with
   |none=>rw[hs] at hv;cases hv
   |some b=>
    rw[hs] at hv;rw[ah];refine (YP z G hB (by omega) hs).mono λb' h3 hz=>?_;obtain⟨rfl,z⟩:=hz;cases b' with
    |true=>cases hv;rw[if_pos rfl,ag];exact⟨rfl,z⟩
    |false=>
     rw[if_neg (by simp),uv h2 (by have:=hB.2.1;omega)];have:=ih (i+1) r h3 (by omega) (by omega) hv z
     rwa [hsl] at this
  .rw[if_neg (by simp;omega),ag];have:ys.drop i=[]:=aaS (by omega);rw[this] at hv;cases hv;exact⟨rfl,z⟩
theorem filter_le {N:List an}{met:List Int}(k:Int)(t:ByteArray):(met.filter (isKey N k t)).length<=met.length:=List.length_filter_le _ _
theorem aeG {s:Sl}{root:Int}{N:List an}(G:jI h0 s N){B:Nat}(hB:Bd N B){k:Nat}{sl:Sl}{xs:List Int}(il:IL h0 sl xs)(hl:xs.length<=B){b0 m:Nat}(a2:Sl)(a3 a4:Int) :
  ∀(n i:Nat) (r:Bool) (h:af) (E:List B7) (met:List Int) (f:Value->Option Value) (c:Nat),k+B+(xs.length-i)+2<n->i<=xs.length->met.length=i->YQ k N met (xs.drop i)=some r->VO N E met f ->
   Z h0 h (.ar b0 [aE s,vi root] aj::.map m aC f c::(E.map B7.own++L)) ->
   Wp (ji n (ak b0) (some m) a2 a3 a4 sl (sl.len:Int) (i:Int)) h λz h'=>z=(if r then .inr true else .inl ())/\Z h0 h' (.ar b0 [aE s,vi root] aj::L):=by
 have hbig:B<=cK:=by have:=hB.2.1;unfold cK;omega
 have fin:∀{h:af} {E:List B7} {f:Value->Option Value} {c:Nat},Z h0 h (.ar b0 [aE s,vi root] aj::.map m aC f c::(E.map B7.own++L))->Z h0 h (.ar b0 [aE s,vi root] aj::L):=λz=>
  z.sub ((List.Sublist.cons _ (aeN _ _)).cons₂ _)
 intro n
 induction n with
 |zero=>intro i r h E met f c h1;omega
 |succ n ih=>
  intro i r h E met f c h1 h2 hm hv I z;rw[yS];unfold qV;rw[il.len];by_cases hi:i<xs.length
  .rw[if_pos (by simp;omega)];obtain⟨x,hx⟩:=jy hi;rw[drop_cons hx,YQ] at hv;cases hn:gt N x with
   |none=>rw[hn] at hv;cases hv
   |some nx=>
   rw[hn] at hv;simp only at hv;obtain⟨x1,x2⟩:=aD hn;refine (il.fr z.fr).ix (by omega) (by simpa using hx) λa g cl=>cl.pL (l:=li) rfl rfl ?_;refine z.eS [13] (by decide) (by decide) λnb h3 z=>?_;refine z.ld 1 (o:=0) (l:=.sl) ?_;refine G.at z x1 x2 λa1 k1 i1 n1 _ _=>n1.Lm ?_;refine z.ld 1 (o:=0) (l:=.sl) ?_;refine G.at z x1 x2 λa2' k2 i2 n2 _ _=>n2.FM ?_;refine z.newAt 0 λh4 z=>z.st 0 λh5 z=>?_;refine z.fI 0 (ls:=[li,.str]) (x:=(nx.kind,nx.text)) ?_;have z:Z h0 h5 (.ar (nb+13) [vi nx.kind,.string nx.text] aC::.ar b0 [aE s,vi root] aj::.map m aC f c::(E.map B7.own++L)):=z;have hfk:f (yg nx.kind nx.text)=(lk E nx.kind nx.text).map λp=>aE p.2.s:=I.f _ _;have hst:∀{E':List B7} {f':Value->Option Value} {c':Nat} {h':af},Z h0 h' (.ar (nb+13) [vi nx.kind,.string nx.text] aC::.ar b0 [aE s,vi root] aj::.map m aC f' c'::(E'.map B7.own++L))->VO N E' (met++[x]) f'->YQ k N (met++[x]) (xs.drop (i+1))=some r ->
     Wp (ji n (ak b0) (some m) a2 a3 a4 sl (xs.length:Int) (IntKind.i64.wrap ((i:Int)+1))) h' λz h'=>z=(if r then .inr true else .inl ())/\Z h0 h' (.ar b0 [aE s,vi root] aj::L):=by
    intro E' f' c' h' z I hv;rw[uv h2 (by have:=hB.2.1;omega)];have:=ih (i+1) r h' E' (met++[x]) f' c' (by omega) (by omega) (by simp[hm]) hv I z.drop
    rwa [il.len] at this
   cases hlk:lk E nx.kind nx.text with
   |none=>
    rw[hlk] at hfk;have hnil:=I.nn _ _ hlk;rw[hnil,twC] at hv;simp only at hv;refine z.jf 2 (k:=yg nx.kind nx.text) rfl (λv hv2=>by rw[hfk] at hv2;cases hv2) λ_=>?_;have hw:=aaN (L:=.map m aC f c::(E.map B7.own++L)) (root:=root) G hB (k:=k) (x:=x) (sl:=mX) (ys:=[]) (o1:=.ar (nb+13) [vi nx.kind,.string nx.text] aC) (b0:=b0) (by simp) (some m) (ak (nb+13)) a2 a3 a4 sl (xs.length:Int) (i:Int) (λh' _=>⟨0,qy.nil rfl⟩) rfl n 0 false h5 (by simp;omega) (by simp) rfl z;rw[ah];refine hw.mono λy h6 hy=>?_;obtain⟨rfl,z⟩:=hy;show Wp (sh _ _) h6 _;refine z.fI 0 (ls:=[li,.str]) (x:=(nx.kind,nx.text)) ?_;refine z.Ub 2 (k:=yg nx.kind nx.text) rfl (by rw[D2];simp[Js]) (λv hv2=>by rw[hfk] at hv2;cases hv2) λ_ h7 st z hs=>?_;have z:=z.add (Fr.refl z.wf) (o:=.ps ⟨none,0,0⟩ 1 au [] 0) wS.nil (.inl rfl);refine z.Q3 0 (new:=[vi x]) rfl (by decide) rfl (by show 0+1<=cK;decide) λs' h8 g' hs' z fr=>?_;have hs:=hs.fr fr (by simp);have z:Z h0 h8 (.ps s' 1 au [vi x] g'::.ar (nb+13) [vi nx.kind,.string nx.text] aC::.ar b0 [aE s,vi root] aj::.map m aC (wX f (yg nx.kind nx.text) (Cg (Ty.one .sl) mX)) (c+1)::(E.map B7.own++L)):=z;refine z.Uc 3 rfl hs λh9 z=>?_;have z:Z h0 h9 (.ps s' 1 au [vi x] g'::.ar (nb+13) [vi nx.kind,.string nx.text] aC::.ar b0 [aE s,vi root] aj::.map m aC (wX (wX f (yg nx.kind nx.text) (Cg (Ty.one .sl) mX)) (yg nx.kind nx.text) (aE s')) (c+1)::(E.map B7.own++L)):=z;have z:=z.perm (L':=.ar (nb+13) [vi nx.kind,.string nx.text] aC::.ar b0 [aE s,vi root] aj::.map m aC (wX (wX f (yg nx.kind nx.text) (Cg (Ty.one .sl) mX)) (yg nx.kind nx.text) (aE s')) (c+1)::.ps s' 1 au [vi x] g'::(E.map B7.own++L)) (agc (l₁:=[_,_,_])).symm;refine hst (E':=⟨nx.kind,nx.text,s',g',[x]⟩::E) z (I.add hn hlk s' g' _ λk' t'=>?_) hv;unfold wX;rw[D2];split<;>rfl
   |some p=>
    obtain⟨j,e⟩:=p;rw[hlk] at hfk;obtain⟨e1,e2,e3⟩:=P0 hlk;have hxs:=I.ss _ _ _ _ hlk;have hjlt:=eE e1;rw[<-hxs] at hv;have hown:∀{f':Value->Option Value} {c':Nat},(.ar (nb+13) [vi nx.kind,.string nx.text] aC::.ar b0 [aE s,vi root] aj::.map m aC f' c'::(E.map B7.own++L):List bj)[j+3]?=some (.ps e.s 1 au (e.xs.map vi) e.g):=by
     intro f' c';simp only[afz];rw[afq (by simpa using hjlt),aaW,e1];rfl
    have hlen:e.s.len=e.xs.length:=(wS.BB (z.get (j+3) hown)).F6;have hle:e.xs.length<=i:=(by rw[hxs,<-hm];exact filter_le _ _);refine z.jf 2 (k:=yg nx.kind nx.text) rfl (λv hv2=>?_) λhv2=>(by rw[hfk] at hv2;cases hv2);rw[hfk] at hv2;cases hv2;refine⟨e.s,rfl,?_⟩;cases hc:twC k N x e.xs with
    |none=>rw[hc] at hv;cases hv
    |some b=>
    rw[hc] at hv;have hw:=aaN (L:=.map m aC f c::(E.map B7.own++L)) (root:=root) G hB (k:=k) (x:=x) (sl:=e.s) (ys:=e.xs) (o1:=.ar (nb+13) [vi nx.kind,.string nx.text] aC) (b0:=b0) (by omega) (some m) (ak (nb+13)) a2 a3 a4 sl (xs.length:Int) (i:Int) (λh' z=>⟨_,wS.BB (z.get (j+3) hown)⟩) hlen n 0 b h5 (by omega) (by omega) hc z;rw[ah];refine hw.mono λy h6 hy=>?_;obtain⟨rfl,z⟩:=hy;cases b with
    |true=>
     cases hv;exact ag.2 ⟨rfl,fin z.drop⟩
    |false=>
     simp only at hv;show Wp (sh _ _) h6 _;refine z.fI 0 (ls:=[li,.str]) (x:=(nx.kind,nx.text)) ?_;refine z.Ub 2 (k:=yg nx.kind nx.text) rfl (by rw[D2];simp[Js]) (λv hv2=>?_) λhv2=>(by rw[hfk] at hv2;cases hv2);rw[hfk] at hv2;cases hv2;refine⟨e.s,rfl,λst hs=>?_⟩;have hne:e.g≠m+1:=z.ne 2 (j+3) (o:=.map m aC f c) rfl hown (by omega) (by simp[bj.dW]);refine z.Q3 (j+3) (new:=[vi x]) hown (by decide) rfl (by show e.s.len+1<=cK;omega) λs' h8 g' hs' z fr=>?_;have hs:=hs.fr fr (λe=>hne e.symm);refine z.Uc 2 (k:=yg nx.kind nx.text) (m:=m) (fn:=f) (n:=c) (kt:=aC) rfl hs λh9 z=>?_;refine hst (c':=c) (E':=E.set j ⟨nx.kind,nx.text,s',g',e.xs++[x]⟩) (z.perm ?_) (I.rC hn hlk s' g') hv;refine List.Perm.of_eq ?_;show bj.ar (nb+13) _ _::bj.ar b0 _ _::bj.map m _ _ _::((E.map B7.own++L).set j _)=_;rw[aha _ _ (by simpa using hjlt),afX]
     congr 4
     simp[B7.own]
  .rw[if_neg (by simp;omega),ag];have:xs.drop i=[]:=aaS (by omega);rw[this] at hv;rw[YQ] at hv;cases hv;exact⟨rfl,fin z⟩
theorem aeH {s:Sl}{root:Int}{N:List an}(G:jI h0 s N){B:Nat}(hB:Bd N B){k b0:Nat} :
  ∀(n i:Nat) (r:Bool) (h:af) (L:List bj),k+(N.length-i)+2*B+7<n->i<=N.length->Xd k N (N.drop i)=some r->Z h0 h (.ar b0 [aE s,vi root] aj::L) ->
   Wp (jj n (ak b0) s (s.len:Int) (i:Int)) h λz h'=>z=(if r then .inr true else .inl ())/\Z h0 h' L:=by
 intro n
 induction n with
 |zero=>intro i r h L h1;omega
 |succ n ih=>
  intro i r h L h1 h2 hv z;rw[yT];unfold qW;rw[G.len];by_cases hi:i<N.length
  .rw[if_pos (by simp;omega)];obtain⟨x,hx⟩:=jy hi;rw[drop_cons hx,Xd] at hv;have hbd:=hB.2.2 x (IN hx);refine G.at z (by omega) (by simpa using hx) λa ks is nd ik ii=>nd.fI ?_;refine z.node λx2 h2' z=>?_;refine z.ad7 λm h3 z=>?_;refine z.ld 1 (o:=3) (l:=.sl) (x:=ks) ?_;cases hk:YQ k N [] x.keys with
   |none=>rw[hk] at hv;cases hv
   |some b=>
    rw[hk] at hv;have z:=z.perm (L':=.ar b0 [aE s,vi root] aj::.map m aC (λ_=>none) 0::([]++(.ar x2 [vi x.kind,.string x.text,.bool x.ord,aE ks,aE is] aw::L))) ((agc (l₁:=[_,_])).trans (List.Perm.refl _));rw[ah];refine (aeG (k:=k) G hB ik hbd.1 s (N.length:Int) (i:Int) n 0 b h3 [] [] _ 0 (by omega) (by omega) rfl (by simpa using hk) (VO.nil N) z).mono λy h4 hy=>?_;obtain⟨rfl,z⟩:=hy;have z:=(z.perm (List.Perm.swap _ _ _)).drop;cases b with
    |true=>cases hv;exact ag.2 ⟨rfl,z.drop⟩
    |false=>
     simp only at hv;show Wp (jj n _ _ _ _) h4 _;rw[uv h2 (by have:=hB.1;have:=hB.2.1;omega)];have:=ih (i+1) r h4 L (by omega) (by omega) hv z
     rwa [G.len] at this
  .rw[if_neg (by simp;omega),ag];have:N.drop i=[]:=aaS (by omega);rw[this] at hv;cases hv;exact⟨rfl,z.drop⟩
theorem VQ {s:Sl}{root:Int}{N:List an}(z:Z h0 h L)(G:jI h0 s N){B:Nat}(hB:Bd N B){k n:Nat}(hn:k+3*B+8<n){r:Bool}(hr:Xd k N N=some r) :
  Wp (uG n (s,root)) h λx h'=>x=r/\Z h0 h' L:=by
 unfold uG;refine z.new λx0 h1 z _=>?_;refine z.ld 0 (o:=0) (l:=.sl) ?_;rw[ah];refine (aeH G hB (k:=k) n 0 r h1 L (by have:=hB.1;omega) (by omega) (by simpa using hr) z).mono λy h2 hy=>?_;obtain⟨rfl,z⟩:=hy;cases r with
 |true=>exact ag.2 ⟨rfl,z⟩
 |false=>exact ag.2 ⟨rfl,z⟩
end
section
variable {α β:Type}{h h' h0:af}{L:List bj}{Q:β->af->Prop}
structure TS where
 next:Int
 ix:List Int
 lo:List Int
 nn:List Int
 on:List Bool
 oV:List Int
 jv:List Int
def mn (a b:Int):Int:=if b<a then b else a
def LK (a:Int)(st:TS):Option TS:=
 if st.oV.length+1<=cK/\st.jv.length+1<=cK/\(gt st.ix a).isSome/\(gt st.lo a).isSome/\(gt st.on a).isSome then
  let nx:=IntKind.i64.wrap (st.next+1)
  some { st with next:=nx,ix:=st.ix.set a.toNat nx,lo:=st.lo.set a.toNat nx,oV:=st.oV++[a],on:=st.on.set a.toNat true }
 else none
def Sr (a v:Int)(st:TS):Option TS:=match gt st.lo a with
 |none=>none
 |some w=>some { st with lo:=st.lo.set a.toNat (mn w v) }
def tp:Nat->Int->TS->Int->Option (TS×Int)
 |0,_,_,_=>none
 |k+1,a,st,n=>match st.oV.getLast? with
  |none=>none
  |some x=>
   if (gt st.on x).isSome/\(gt st.nn x).isSome/\st.oV.length<=cK then
    let st1:={ st with oV:=st.oV.dropLast,on:=st.on.set x.toNat false,nn:=st.nn.set x.toNat (st.jv.length:Int) }
    if x=a then some (st1,IntKind.i64.wrap (n+1)) else tp k a st1 (IntKind.i64.wrap (n+1))
   else none
mutual
def tv:Nat->List an->Int->TS->Option TS
 |0,_,_,_=>none
 |k+1,N,a,st=>match LK a st with
  |none=>none
  |some st1=>match gt N a with
   |none=>none
   |some x=>match tl k N a x.keys st1 with
    |none=>none
    |some G5=>match tl k N a x.items G5 with
     |none=>none
     |some st3=>match gt st3.lo a,gt st3.ix a with
      |some l,some i=>
       if l≠i then some st3 else match tp k a st3 0 with
        |none=>none
        |some (st4,n)=>if st4.jv.length+1<=cK then some { st4 with jv:=st4.jv++[n] } else none
      |_,_=>none
def tl:Nat->List an->Int->List Int->TS->Option TS
 |0,_,_,_,_=>none
 |_+1,_,_,[],st=>some st
 |k+1,N,a,x::xs,st=>match ts k N a x st with
  |none=>none
  |some st1=>tl k N a xs st1
def ts:Nat->List an->Int->Int->TS->Option TS
 |0,_,_,_,_=>none
 |k+1,N,a,x,st=>match gt st.ix x with
  |none=>none
  |some i=>
   if i=0 then match tv k N x st with
    |none=>none
    |some st1=>match gt st1.lo x with
     |none=>none
     |some l=>Sr a l st1
   else match gt st.on x with
    |none=>none
    |some false=>some st
    |some true=>Sr a i st
end
structure TC where
 c1:Nat
 c2:Nat
 c3:Nat
 c4:Nat
 c5:Nat
 c6:Nat
 c7:Nat
 c8:Nat
 c9:Nat
 bi:Nat
 bl:Nat
 bn:Nat
 bo:Nat
def pv (b:Nat):Value:=Value.pointer (some (ak b))
def fnC (C:TC):Value:=Value.func (Fn.func jY) #[] #[pv C.c1,pv C.c2,pv C.c3,pv C.c4,pv C.c5,pv C.c6,pv C.c7,pv C.c8,pv C.c9]
def fnS (C:TC)(b:Nat):Value:=Value.func (Fn.func iR) #[] #[pv C.c2,pv C.c6,pv C.c3,pv b,pv C.c5]
def arr (b m:Nat):Sl:=⟨some ⟨b,0,none⟩,m,m+1⟩
def TL (C : TC) (m : Nat) (s : Sl) (root : Int) (st : TS) (s1 s2 : Sl) (g1 g2 : Nat) : List bj:=
  [.ar C.c1 [vi st.next] au, .ar C.c2 [aE (arr C.bi m)] aR, .ar C.c3 [aE (arr C.bl m)] aR, .ar C.c4 [aE s1] aR, .ar C.c5 [aE (arr C.bo m)] yx, .ar C.c6 [fnC C] vX,
   .ar C.c7 [aE s, vi root] aj, .ar C.c8 [aE s2] aR, .ar C.c9 [aE (arr C.bn m)] aR,
   .ar C.bi (st.ix.map vi) au, .ar C.bl (st.lo.map vi) au, .ar C.bn (st.nn.map vi) au, .ar C.bo (st.on.map .bool) uW,
   .ps s1 1 au (st.oV.map vi) g1, .ps s2 1 au (st.jv.map vi) g2]
structure O5 (m:Nat) (st:TS):Prop where
 ix:st.ix.length=m
 lo:st.lo.length=m
 nn:st.nn.length=m
 on:st.on.length=m
def TZ (C:TC)(m:Nat)(s:Sl)(root:Int)(h0 h:af)(st:TS)(E:List bj):Prop:=
 O5 m st/\∃s1 s2 g1 g2,Z h0 h (TL C m s root st s1 s2 g1 g2++E)
theorem _root_.Go.Ago.Z.Gu (z:Z h0 h L)(i:Nat){b m:Nat}{e:TypeId}{c:List Int}{a v:Int}{f:Int->M β}(hg:gt c a=some v)(hm:c.length=m)(q:Wp (f v) h Q)(hi:L[i]?=some (.ar b (c.map vi) e):=by rfl) :
  Wp (sh (av (arr b m) a 1) λp=>sh (aq li p) f) h Q:=by
 obtain⟨g1,g2⟩:=aD hg;have hlt:=eE g2;refine F8 g1 (by omega) ?_;exact z.ld i (o:=a.toNat*1) (l:=li) q hi (by rw[acq,aaW,g2];rfl) rfl
theorem _root_.Go.Ago.Z.rdB (z:Z h0 h L)(i:Nat){b m:Nat}{e:TypeId}{c:List Bool}{a:Int}{v:Bool}{f:Bool->M β}(hg:gt c a=some v)(hm:c.length=m)(q:Wp (f v) h Q)(hi:L[i]?=some (.ar b (c.map .bool) e):=by rfl) :
  Wp (sh (av (arr b m) a 1) λp=>sh (aq .bool p) f) h Q:=by
 obtain⟨g1,g2⟩:=aD hg;have hlt:=eE g2;refine F8 g1 (by omega) ?_;exact z.ld i (o:=a.toNat*1) (l:=.bool) q hi (by rw[acq,aaW,g2];rfl) rfl
theorem LL {c:List α}{a:Int}(hg:(gt c a).isSome=true):0<=a/\a.toNat<c.length/\∃v,gt c a=some v:=by
 cases h1:gt c a with
 |none=>rw[h1] at hg;cases hg
 |some v=>exact⟨(aD h1).1,eE (aD h1).2,v,rfl⟩
theorem Jt {b m:Nat}{a:Int}(h1:0<=a)(h2:a.toNat<m){f:Addr->M β}(q:Wp (f ⟨b,a.toNat,none⟩) h Q):Wp (sh (av (arr b m) a 1) f) h Q:=by
 refine F8 h1 (by omega) ?_;rw[acq];exact q
theorem Ol {l:List α}{x:α}(hl:l.getLast?=some x):l=l.dropLast++[x]:=by
 cases l with
 |nil=>cases hl
 |cons a r=>
  rw[List.getLast?_eq_some_getLast (by simp)] at hl;rw[<-abi hl,agI]
theorem aeJ {C:TC}{m:Nat}{s:Sl}{root:Int}{b:Nat} :
  ∀(k n:Nat) (a:Int) (st r:TS) (v w:Int) (h:af) (E:List bj),k<=n->tp k a st v=some (r,w)->TZ C m s root h0 h st (.ar b [vi a] au::E) ->
   Wp (dZ n (ak C.c4) (ak C.c5) (ak C.c8) (ak C.c9) (ak b) v) h λy h'=>y=w/\TZ C m s root h0 h' r (.ar b [vi a] au::E):=by
 intro k
 induction k with
 |zero=>intro n a st r v w h E _ hv;cases hv
 |succ k ih=>
  intro n a st r v w h E hn hv tz;obtain⟨n,rfl⟩:∃m,n=m+1:=⟨n-1,by omega⟩;rw[tT];unfold kQ;rw[tp] at hv;cases hx:st.oV.getLast? with
  |none=>rw[hx] at hv;cases hv
  |some x=>
   rw[hx] at hv;simp only at hv;split at hv
   case isFalse=>cases hv
   rename_i hc;obtain⟨x1,x2,_⟩:=LL hc.1;obtain⟨_,x3,_⟩:=LL hc.2.1;obtain⟨ok,s1,s2,g1,g2,z⟩:=tz;have hst:=Ol hx;have hps:wS h s1 1 au (st.oV.map vi) g1:=z.get 13 rfl;have hlen:s1.len=st.oV.length:=hps.BB.F6;have hl2:=congrArg List.length hst;simp at hl2;have hpos:st.oV.length≠0:=λe=>by rw[abn e] at hx;cases hx
   have hbnd:s1.len<9223372036854775808:=by
    have:=hc.2.2;unfold cK at this;omega
   have e1:IntKind.i64.wrap ((s1.len:Int)-1)=((s1.len:Nat):Int)-1:=IntWalk.i64_in _ ⟨by omega,by omega⟩;refine z.ld 3 (o:=0) (l:=.sl) ?_;refine z.ld 3 (o:=0) (l:=.sl) ?_;rw[e1];refine hps.BB.Ua (enc:=vi) (v:=x) (by omega) ?_ λad cl=>cl.pL (l:=li) rfl rfl ?_
   .rw[List.getLast?_eq_getElem?] at hx;rw[<-hx];congr 1;omega
   refine z.ld 3 (o:=0) (l:=.sl) ?_;refine z.ld 3 (o:=0) (l:=.sl) ?_;rw[e1];refine z.af6 13 (cs:=st.oV.dropLast.map vi) (v:=vi x) (g:=g1) (by show some (bj.ps s1 1 au (st.oV.map vi) g1)=_;(conv=>lhs;rw[hst]);rw[afw];rfl) λs1' hs1 z=>?_
   refine z.st 3 λh1 z=>?_;refine z.ld 4 (o:=0) (l:=.sl) ?_;refine Jt x1 (by rw[<-ok.on];exact x2) ?_;refine z.zA 12 (enc:=Value.bool) (v:=false) x2 λh2 z=>?_;refine z.ld 8 (o:=0) (l:=.sl) ?_;refine z.ld 7 (o:=0) (l:=.sl) ?_;refine Jt x1 (by rw[<-ok.nn];exact x3) ?_;have hsz:s2.len=st.jv.length:=(wS.BB (z.get 14 rfl)).F6;rw[hsz];refine z.zA 11 (enc:=vi) (v:=(st.jv.length:Int)) x3 λh3 z=>?_;refine z.ld 15 (o:=0) (l:=li) (x:=a) ?_;have tz:TZ C m s root h0 h3 { st with oV:=st.oV.dropLast,on:=st.on.set x.toNat false,nn:=st.nn.set x.toNat (st.jv.length:Int) } (.ar b [vi a] au::E):=
    ⟨⟨ok.ix,ok.lo,by simp[ok.nn],by simp[ok.on]⟩,s1',s2,g1,g2,z⟩
   by_cases hxa:x=a
   .rw[if_pos hxa] at hv;cases hv;rw[if_pos (by simpa using hxa),ag];exact⟨rfl,tz⟩
   .rw[if_neg hxa] at hv;rw[if_neg (by simpa using hxa)];exact ih n a _ r _ w h3 E (by omega) hv tz
theorem aeK {C:TC}{m:Nat}{s:Sl}{root:Int}{N:List an}(G:jI h0 s N){B:Nat}(hB:Bd N B) :
  ∀(k:Nat),(∀(n:Nat) (a:Int) (st r:TS) (h:af) (E:List bj),k<=n->tv k N a st=some r->TZ C m s root h0 h st E ->
    Wp (dO n a (ak C.c1) (ak C.c2) (ak C.c3) (ak C.c4) (ak C.c5) (ak C.c6) (ak C.c7) (ak C.c8) (ak C.c9)) h λ_ h'=>TZ C m s root h0 h' r E) /\
   (∀(n:Nat) (a:Int) (b:Nat) (sl:Sl) (xs:List Int) (i:Nat) (st r:TS) (h:af) (E:List bj),k<=n->tl k N a (xs.drop i) st=some r->IL h0 sl xs->i<=xs.length->xs.length<=B->TZ C m s root h0 h st (.ar b [vi a] au::E) ->
    Wp (ef n (ak C.c2) (ak C.c3) (ak C.c4) (ak C.c5) (ak C.c7) (ak C.c8) (ak C.c9) (ak b) (fnS C b) sl (sl.len:Int) (i:Int)) h λ_ h'=>TZ C m s root h0 h' r (.ar b [vi a] au::E)) /\
   (∀(n:Nat) (a:Int) (b:Nat) (sl:Sl) (xs:List Int) (i:Nat) (st r:TS) (h:af) (E:List bj),k<=n->tl k N a (xs.drop i) st=some r->IL h0 sl xs->i<=xs.length->xs.length<=B->TZ C m s root h0 h st (.ar b [vi a] au::E) ->
    Wp (ea n (ak C.c2) (ak C.c3) (ak C.c4) (ak C.c5) (ak C.c8) (ak C.c9) (ak b) (fnS C b) sl (sl.len:Int) (i:Int)) h λ_ h'=>TZ C m s root h0 h' r (.ar b [vi a] au::E)) /\
   (∀(n:Nat) (a x:Int) (b:Nat) (st r:TS) (h:af) (E:List bj),k<=n->ts k N a x st=some r->TZ C m s root h0 h st (.ar b [vi a] au::E) ->
    Wp (dI n x (ak C.c2) (ak C.c6) (ak C.c3) (ak b) (ak C.c5)) h λ_ h'=>TZ C m s root h0 h' r (.ar b [vi a] au::E)):=by
 intro k
 induction k with
 |zero=>exact⟨λn a st r h E _ hv=>by simp[tv] at hv,λn a b sl xs i st r h E _ hv=>by simp[tl] at hv,λn a b sl xs i st r h E _ hv=>by simp[tl] at hv,λn a x b st r h E _ hv=>by simp[ts] at hv⟩
 |succ k ih=>
  obtain⟨ih1,ih2,ih3,ih4⟩:=ih;refine⟨λn a st r h E hn hv tz=>?_,λn a b sl xs i st r h E hn hv il hi hxB tz=>?_,λn a b sl xs i st r h E hn hv il hi hxB tz=>?_,λn a x b st r h E hn hv tz=>?_⟩
  .obtain⟨n,rfl⟩:∃m,n=m+1:=⟨n-1,by omega⟩;rw[vt];unfold nE;rw[tv] at hv;cases hp:LK a st with
   |none=>rw[hp] at hv;cases hv
   |some st1=>
   rw[hp] at hv;simp only at hv;unfold LK at hp;split at hp
   case isFalse=>cases hp
   rename_i hc;obtain⟨c1,c2,c3,c4,c5⟩:=hc;obtain⟨a1,a2,_⟩:=LL c3;obtain⟨_,a3,_⟩:=LL c4;obtain⟨_,a4,_⟩:=LL c5;have hp:=abi hp;obtain⟨ok,s1,s2,g1,g2,z⟩:=tz;refine z.new λb h1 z _=>?_;have z:=z.perm (L':=TL C m s root st s1 s2 g1 g2++(.ar b [vi a] au::E)) List.perm_middle.symm;refine z.ld 0 (o:=0) (l:=li) (x:=st.next) ?_
   refine z.st 0 λh2 z=>?_;refine z.ld 1 (o:=0) (l:=.sl) ?_;refine z.ld 15 (o:=0) (l:=li) (x:=a) ?_;refine z.ld 2 (o:=0) (l:=.sl) ?_;refine z.ld 15 (o:=0) (l:=li) (x:=a) ?_;refine z.ld 0 (o:=0) (l:=li) (x:=IntKind.i64.wrap (st.next+1)) ?_
   refine Jt a1 (by rw[<-ok.ix];exact a2) ?_;refine z.ld 0 (o:=0) (l:=li) (x:=IntKind.i64.wrap (st.next+1)) ?_
   refine z.af7 9 (enc:=vi) (v:=IntKind.i64.wrap (st.next+1)) a2 ?_ λh3 z=>?_
   .intro a' ha';simp only[aei,aaM,ael,or_false] at ha';rcases ha' with rfl|rfl|rfl
    .exact z.nbO 9 2 rfl rfl (by decide)
    .exact z.nbO 9 15 rfl rfl (by decide)
    .exact z.nbO 9 0 rfl rfl (by decide)
   refine Jt a1 (by rw[<-ok.lo];exact a3) ?_;refine z.zA 10 (enc:=vi) (v:=IntKind.i64.wrap (st.next+1)) a3 λh4 z=>?_
   refine z.ld 3 (o:=0) (l:=.sl) ?_;refine z.ld 15 (o:=0) (l:=li) (x:=a) ?_;have hps:wS h4 s1 1 au (st.oV.map vi) g1:=z.get 13 rfl;have hlen:s1.len=st.oV.length:=hps.BB.F6;refine z.Q3 13 (new:=[vi a]) rfl (by decide) rfl (by show s1.len+1<=cK;omega) λs1' h5 g1' hs1 z _=>?_;refine z.st 3 λh6 z=>?_;refine z.ld 4 (o:=0) (l:=.sl) ?_;refine z.ld 15 (o:=0) (l:=li) (x:=a) ?_;refine Jt a1 (by rw[<-ok.on];exact a4) ?_;refine z.zA 12 (enc:=Value.bool) (v:=true) a4 λh7 z=>?_;have tz:TZ C m s root h0 h7 st1 (.ar b [vi a] au::E):=by
    subst hp;refine⟨⟨by simp[ok.ix],by simp[ok.lo],ok.nn,by simp[ok.on]⟩,s1',s2,g1',g2,?_⟩;have:(st.oV++[a]).map vi=st.oV.map vi++[vi a]:=(by simp);unfold TL;simp only;rw[this];exact z
   clear z hps hlen;obtain⟨ok,s1,s2,g1,g2,z⟩:=tz;cases hx:gt N a with
   |none=>rw[hx] at hv;cases hv
   |some x=>
   rw[hx] at hv;simp only at hv;obtain⟨x1,x2⟩:=aD hx;have hb:=hB.2.2 x (IN x2);cases hk:tl k N a x.keys st1 with
   |none=>rw[hk] at hv;cases hv
   |some G5=>
   rw[hk] at hv;simp only at hv;cases hi:tl k N a x.items G5 with
   |none=>rw[hi] at hv;cases hv
   |some st3=>
   rw[hi] at hv;simp only at hv;refine z.ld 6 (o:=0) (l:=.sl) ?_;refine z.ld 15 (o:=0) (l:=li) (x:=a) ?_;refine G.at z x1 x2 λad ks is nd ik ii=>nd.F9 ?_;rw[ah];refine (ih2 n a b ks x.keys 0 st1 G5 _ E (by omega) hk ik (by omega) hb.1 ⟨ok,s1,s2,g1,g2,z⟩).mono λ_ h8 tz=>?_;obtain⟨ok,s1,s2,g1,g2,z⟩:=tz;refine z.ld 6 (o:=0) (l:=.sl) ?_;refine z.ld 15 (o:=0) (l:=li) (x:=a) ?_;refine G.at z x1 x2 λad2 ks2 is2 nd2 ik2 ii2=>nd2.AR ?_;rw[ah];refine (ih3 n a b is2 x.items 0 G5 st3 _ E (by omega) hi ii2 (by omega) hb.2 ⟨ok,s1,s2,g1,g2,z⟩).mono λ_ h9 tz=>?_;obtain⟨ok,s1,s2,g1,g2,z⟩:=tz;cases hl:gt st3.lo a with
   |none=>rw[hl] at hv;cases hv
   |some l=>
   cases hj:gt st3.ix a with
   |none=>rw[hl,hj] at hv;cases hv
   |some j=>
   rw[hl,hj] at hv;simp only at hv;refine z.ld 2 (o:=0) (l:=.sl) ?_;refine z.ld 15 (o:=0) (l:=li) (x:=a) ?_;refine z.Gu 10 hl ok.lo ?_;refine z.ld 1 (o:=0) (l:=.sl) ?_;refine z.ld 15 (o:=0) (l:=li) (x:=a) ?_;refine z.Gu 9 hj ok.ix ?_;have fin:∀{h':af} {r:TS},TZ C m s root h0 h' r (.ar b [vi a] au::E)->TZ C m s root h0 h' r E:=λtz=>by
    obtain⟨ok,s1,s2,g1,g2,z⟩:=tz;exact⟨ok,s1,s2,g1,g2,(z.perm agc).drop⟩
   by_cases hlj:l=j
   .rw[if_neg (by simpa using hlj)] at hv;rw[if_neg (by simpa using hlj)];cases ht:tp k a st3 0 with
    |none=>rw[ht] at hv;cases hv
    |some q=>
    obtain⟨st4,w⟩:=q;rw[ht] at hv;simp only at hv;split at hv
    case isFalse=>cases hv
    rename_i hcs;cases hv;rw[ah];refine (aeJ k n a st3 st4 0 w h9 E (by omega) ht ⟨ok,s1,s2,g1,g2,z⟩).mono λy h10 hy=>?_;obtain⟨rfl,ok,s1,s2,g1,g2,z⟩:=hy;refine z.ld 7 (o:=0) (l:=.sl) ?_;have hsz:s2.len=st4.jv.length:=(wS.BB (z.get 14 rfl)).F6;refine z.Q3 14 (new:=[vi y]) rfl (by decide) rfl (by show s2.len+1<=cK;omega) λs2' h11 g2' hs2 z _=>?_;refine z.st 7 λh12 z=>?_;rw[ag];refine fin ⟨⟨ok.ix,ok.lo,ok.nn,ok.on⟩,s1,s2',g1,g2',?_⟩;have:(st4.jv++[y]).map vi=st4.jv.map vi++[vi y]:=(by simp);unfold TL;simp only;rw[this];exact z
   .rw[if_pos (by simpa using hlj)] at hv;cases hv;rw[if_pos (by simpa using hlj),ag];exact fin ⟨ok,s1,s2,g1,g2,z⟩
  .obtain⟨n,rfl⟩:∃m,n=m+1:=⟨n-1,by omega⟩;rw[tV];unfold kS;rw[il.len];by_cases hi2:i<xs.length
   .rw[if_pos (by simp;omega)];obtain⟨x,hx⟩:=jy hi2;rw[drop_cons hx,tl] at hv;cases hs:ts k N a x st with
    |none=>rw[hs] at hv;cases hv
    |some st1=>
     rw[hs] at hv;simp only at hv;have fr:Fr (λ_=>False) h0 h:=(by obtain⟨_,_,_,_,_,z⟩:=tz;exact z.fr);refine (il.fr fr).ix (by omega) (by simpa using hx) λa1 g c=>c.pL (l:=li) rfl rfl ?_;unfold fH;rw[ah,if_pos (by rfl),ah];refine jX (c:=(ak C.c2,ak C.c6,ak C.c3,ak b,ak C.c5)) rfl ?_;refine (ih4 n a x b st st1 h E (by omega) hs tz).mono λ_ h2 tz=>?_;rw[uv hi (by have:=hB.2.1;omega)];have:=ih2 n a b sl xs (i+1) st1 r h2 E (by omega) hv il (by omega) hxB tz
     rwa [il.len] at this
   .rw[if_neg (by simp;omega),ag];have:xs.drop i=[]:=aaS (by omega);rw[this,tl] at hv;cases hv;exact tz
  .obtain⟨n,rfl⟩:∃m,n=m+1:=⟨n-1,by omega⟩;rw[tU];unfold kR;rw[il.len];by_cases hi2:i<xs.length
   .rw[if_pos (by simp;omega)];obtain⟨x,hx⟩:=jy hi2;rw[drop_cons hx,tl] at hv;cases hs:ts k N a x st with
    |none=>rw[hs] at hv;cases hv
    |some st1=>
     rw[hs] at hv;simp only at hv;have fr:Fr (λ_=>False) h0 h:=(by obtain⟨_,_,_,_,_,z⟩:=tz;exact z.fr);refine (il.fr fr).ix (by omega) (by simpa using hx) λa1 g c=>c.pL (l:=li) rfl rfl ?_;unfold ko fH;rw[ah,if_pos (by rfl),ah];refine jX (c:=(ak C.c2,ak C.c6,ak C.c3,ak b,ak C.c5)) rfl ?_;refine (ih4 n a x b st st1 h E (by omega) hs tz).mono λ_ h2 tz=>?_;rw[uv hi (by have:=hB.2.1;omega)];have:=ih3 n a b sl xs (i+1) st1 r h2 E (by omega) hv il (by omega) hxB tz
     rwa [il.len] at this
   .rw[if_neg (by simp;omega),ag];have:xs.drop i=[]:=aaS (by omega);rw[this,tl] at hv;cases hv;exact tz
  .obtain⟨n,rfl⟩:∃m,n=m+1:=⟨n-1,by omega⟩;rw[uo];unfold lW;rw[ts] at hv;cases hx:gt st.ix x with
   |none=>rw[hx] at hv;cases hv
   |some i=>
   rw[hx] at hv;simp only at hv;obtain⟨ok,s1,s2,g1,g2,z⟩:=tz;refine z.ld 1 (o:=0) (l:=.sl) ?_;refine z.Gu 9 hx ok.ix ?_;by_cases hi0:i=0
   .rw[if_pos hi0] at hv;rw[if_pos (by simpa using hi0)];cases hv1:tv k N x st with
    |none=>rw[hv1] at hv;cases hv
    |some st1=>
    rw[hv1] at hv;simp only at hv;refine z.ld 5 (o:=0) (l:=.raw) (x:=fnC C) ?_;unfold jk;rw[ah,if_pos (by rfl),ah];refine jX (c:=(ak C.c1,ak C.c2,ak C.c3,ak C.c4,ak C.c5,ak C.c6,ak C.c7,ak C.c8,ak C.c9)) rfl ?_;refine (ih1 n x st st1 h _ (by omega) hv1 ⟨ok,s1,s2,g1,g2,z⟩).mono λ_ h2 tz=>?_;obtain⟨ok,s1,s2,g1,g2,z⟩:=tz;cases hl:gt st1.lo x with
    |none=>rw[hl] at hv;cases hv
    |some l=>
    rw[hl] at hv;simp only at hv;unfold Sr at hv;cases hw:gt st1.lo a with
    |none=>rw[hw] at hv;cases hv
    |some w=>
    rw[hw] at hv;have hv:=abi hv;refine z.ld 2 (o:=0) (l:=.sl) ?_;refine z.ld 15 (o:=0) (l:=li) (x:=a) ?_;refine z.ld 2 (o:=0) (l:=.sl) ?_;refine z.ld 15 (o:=0) (l:=li) (x:=a) ?_;refine z.Gu 10 hw ok.lo ?_;refine z.ld 2 (o:=0) (l:=.sl) ?_;refine z.Gu 10 hl ok.lo ?_;obtain⟨w1,w2⟩:=aD hw;refine Jt w1 (by rw[<-ok.lo];exact eE w2) ?_;refine z.zA 10 (enc:=vi) (v:=mn w l) (eE w2) λh3 z=>?_;rw[ag,<-hv];exact⟨⟨ok.ix,by simp[ok.lo],ok.nn,ok.on⟩,s1,s2,g1,g2,z⟩
   .rw[if_neg hi0] at hv;rw[if_neg (by simpa using hi0)];cases ho:gt st.on x with
    |none=>rw[ho] at hv;cases hv
    |some o=>
    rw[ho] at hv;refine z.ld 4 (o:=0) (l:=.sl) ?_;refine z.rdB 12 ho ok.on ?_;cases o with
    |false=>
     cases hv;rw[if_neg (by simp),ag];exact⟨ok,s1,s2,g1,g2,z⟩
    |true=>
     simp only at hv;rw[if_pos rfl];unfold Sr at hv;cases hw:gt st.lo a with
     |none=>rw[hw] at hv;cases hv
     |some w=>
     rw[hw] at hv;have hv:=abi hv;refine z.ld 2 (o:=0) (l:=.sl) ?_;refine z.ld 15 (o:=0) (l:=li) (x:=a) ?_;refine z.ld 2 (o:=0) (l:=.sl) ?_;refine z.ld 15 (o:=0) (l:=li) (x:=a) ?_;refine z.Gu 10 hw ok.lo ?_;refine z.ld 1 (o:=0) (l:=.sl) ?_;refine z.Gu 9 hx ok.ix ?_;obtain⟨w1,w2⟩:=aD hw;refine Jt w1 (by rw[<-ok.lo];exact eE w2) ?_;refine z.zA 10 (enc:=vi) (v:=mn w i) (eE w2) λh3 z=>?_;rw[ag,<-hv];exact⟨⟨ok.ix,by simp[ok.lo],ok.nn,ok.on⟩,s1,s2,g1,g2,z⟩
end
section
variable {α β:Type}{h h' h0:af}{L:List bj}{Q:β->af->Prop}
def pn (m:Nat):TS:=⟨0,List.replicate m 0,List.replicate m 0,List.replicate m (-1),List.replicate m false,[],[]⟩
def comp (k:Nat)(N:List an)(root:Int):Option (List Int×List Int):=(tv k N root (pn N.length)).map λst=>(st.nn,st.jv)
theorem VR {m i:Nat}(hi:i<m):(List.replicate i (-1:Int)++List.replicate (m-i) 0).set i (-1)=List.replicate (i+1) (-1)++List.replicate (m-(i+1)) 0:=by
 have e:m-i=(m-(i+1))+1:=by omega
 rw[aeV _ _ (by simp),e,aeO,adf,aft,aeg,agb (n:=i),abp];rfl
theorem YR {bn c9 m:Nat}(hm:m<1073741824){o1 o2 o3 o4:bj}(a0:Addr)(a1:Int)(a2 a3:Addr) :
  ∀(n i:Nat) (h:af),m-i<n->i<=m->Z h0 h (o1::o2::.ar bn ((List.replicate i (-1)++List.replicate (m-i) 0).map vi) au::o3::o4::.ar c9 [aE (arr bn m)] aR::L) ->
   Wp (gz n a0 a1 a2 a3 (ak c9) (m:Int) (i:Int)) h λ_ h'=>Z h0 h' (o1::o2::.ar bn ((List.replicate m (-1)).map vi) au::o3::o4::.ar c9 [aE (arr bn m)] aR::L):=by
 intro n
 induction n with
 |zero=>intro i h h1;omega
 |succ n ih=>
  intro i h h1 h2 z;rw[u0];unfold mM;by_cases hi:i<m
  .rw[if_pos (by simp;omega)];refine z.ld 5 (o:=0) (l:=.sl) (x:=arr bn m) ?_;refine Jt (b:=bn) (m:=m) (by omega) (by omega) ?_;rw[IS];refine z.zA 2 (enc:=vi) (xs:=List.replicate i (-1)++List.replicate (m-i) 0) (v:=-1) (by rw[aaQ,adf,adf];omega) λh3 z=>?_;rw[uv h2 (by omega)];rw[VR hi] at z;exact ih (i+1) h3 (by omega) (by omega) z
  .rw[if_neg (by simp;omega),ag];have:i=m:=by omega
   subst this;simpa using z
theorem Gv {s:Sl}{root:Int}{N:List an}(z:Z h0 h L)(G:jI h0 s N){B:Nat}(hB:Bd N B){k n:Nat}(hk:k<=n)(hn:B+2<n){nn jv:List Int}(hv:comp k N root=some (nn,jv)) :
  Wp (nY n (s,root)) h λx h'=>nn.length=N.length/\∃bn s2 g2,x=(arr bn N.length,s2)/\Z h0 h' (.ar bn (nn.map vi) au::.ps s2 1 au (jv.map vi) g2::L):=by
 unfold nY;unfold comp at hv;cases ht:tv k N root (pn N.length) with
 |none=>rw[ht] at hv;cases hv
 |some st=>
 rw[ht] at hv;have hv:=abi hv;have e1:st.nn=nn:=congrArg Prod.fst hv;have e2:st.jv=jv:=congrArg Prod.snd hv;subst e1 e2;have hb1:(N.length:Int)<=cK:=by have:=hB.1;have:=hB.2.1;unfold cK;omega
 refine z.new λx0 h1 z _=>?_;refine z.ld 0 (o:=0) (l:=.sl) ?_;rw[G.len];refine z.eS [1,3,5,6,7,8] (by decide) (by decide) λnb h2 z=>?_;refine z.XZ 0 (by omega) hb1 λh3 z=>?_;refine z.XZ 1 (by omega) hb1 λh4 z=>?_;refine z.XZ 2 (by omega) hb1 λh5 z=>?_;rw[IS] at z⊢;rw[nR (enc:=vi)] at z;refine z.newAt 3 λh6 z=>z.newAt 4 λh7 z=>z.newAt 5 λh8 z=>?_;refine z.Ed 3 (by intro k hk;simp at hk;omega) ?_;refine z.stC 3 (by intro a ha;simp at ha) λh9 z=>?_;refine z.Ed 4 (by intro k hk;simp at hk;omega) ?_;refine z.stC 4 (by intro a ha;simp at ha) λh10 z=>?_;refine z.st 5 λh11 z=>?_;refine z.ld 5 (o:=0) (l:=.sl) ?_;rw[ah];refine (YR (m:=N.length) (by have:=hB.1;have:=hB.2.1;omega) (ak x0) (N.length:Int) (ak (nb+6)) (ak (nb+7)) n 0 h11 (by have:=hB.1;omega) (by omega) z).mono λ_ h12 z=>?_;refine z.new λb14 h13 z _=>?_;refine z.new λb15 h14 z _=>?_;refine z.Lh (by omega) hb1 λbo h15 z _=>?_;rw[IS] at z⊢;rw[nR (enc:=Value.bool)] at z;refine z.new λb17 h16 z _=>z.st 0 λh17 z=>?_;refine z.new λb19 h18 z _=>z.st 0 λh19 z=>?_;refine z.new λb21 h20 z _=>z.st 0 λh21 z=>?_;refine z.ld 0 (o:=0) (l:=.raw) ?_;refine z.ld 12 (o:=1) (l:=li) (x:=root) ?_;have z:=z.add (Fr.refl z.wf) (o:=.ps ⟨none,0,0⟩ 1 au [] 0) wS.nil (.inl rfl);have z:=z.add (Fr.refl z.wf) (o:=.ps ⟨none,0,0⟩ 1 au [] 0) wS.nil (.inl rfl);have z:=Z.sy (pre:=[_,_,_,_,_,_,_,_,_,_,_,_,_,_,_]) z [3,11,12,6,4,2,14,7,13,8,9,10,5,0,1] (by simp only[OF,aa0];decide);have tz:TZ ⟨b19,nb+6,nb+7,b15,b17,b21,x0,b14,nb+8,nb+1,nb+3,nb+5,bo⟩ N.length s root h0 h21 (pn N.length) L:=
  ⟨⟨by simp[pn],by simp[pn],by simp[pn],by simp[pn]⟩,⟨none,0,0⟩,⟨none,0,0⟩,0,0,z⟩
 unfold nF;rw[ah,if_pos (by rfl),ah];refine jX (c:=(ak b19,ak (nb+6),ak (nb+7),ak b15,ak b17,ak b21,ak x0,ak b14,ak (nb+8))) rfl ?_;refine ((aeK G hB k).1 n root _ st h21 L hk ht tz).mono λ_ h22 tz=>?_;obtain⟨ok,s1,s2,g1,g2,z⟩:=tz;refine z.ld 8 (o:=0) (l:=.sl) ?_;refine z.ld 7 (o:=0) (l:=.sl) ?_;rw[ag];exact⟨ok.nn,nb+5,s2,g2,rfl,z.sub ((List.Sublist.cons _<|List.Sublist.cons _<|List.Sublist.cons _<|List.Sublist.cons _<|List.Sublist.cons _<|List.Sublist.cons _<|List.Sublist.cons _<|List.Sublist.cons _<|List.Sublist.cons _<|List.Sublist.cons _<|List.Sublist.cons _<|List.Sublist.cons₂ _<|List.Sublist.cons _<|List.Sublist.cons _<|List.Sublist.cons₂ _ (adB L)))⟩
end
section
variable {α β:Type}{h h' h0:af}{L:List bj}{Q:β->af->Prop}
def mx (p q:Int):Int:=if p<q then q else p
def mem:Nat->List Int->List (List Int)->Option (List (List Int))
 |_,[],X=>some X
 |i,c::cs,X=>match gt X c with
  |none=>none
  |some xs=>mem (i+1) cs (X.set c.toNat (xs++[(i:Int)]))
def dR (nn:List Int)(c:Int):List Int->List Int->Bool->Option (List Int×Bool)
 |[],b,a=>some (b,a)
 |x::xs,b,a=>match gt nn x with
  |none=>none
  |some d=>if d=c then dR nn c xs b false else match gt b c,gt b d with
   |some p,some q=>dR nn c xs (b.set c.toNat (mx p q)) a
   |_,_=>none
def dM (N:List an)(nn:List Int)(c:Int):List Int->List Int->Bool->Option (List Int×Bool)
 |[],b,a=>some (b,a)
 |i::is,b,a=>match gt N i with
  |none=>none
  |some x=>match dR nn c x.keys b a with
   |none=>none
   |some (b1,a1)=>match dR nn c x.items b1 a1 with
    |none=>none
    |some (b2,a2)=>dM N nn c is b2 a2
def dC (N:List an)(nn:List Int):Nat->List (List Int×Int)->List Int->Bool->Option (List Int×Bool)
 |_,[],b,a=>some (b,a)
 |c,(xs,sz)::r,b,a=>match dM N nn (c:Int) xs b a with
  |none=>none
  |some (b1,a1)=>match gt b1 (c:Int) with
   |none=>none
   |some p=>dC N nn (c+1) r (b1.set c (IntKind.i64.wrap (p+sz))) a1
def dep (k:Nat)(N:List an)(root:Int):Option (Int×Bool):=match comp k N root with
 |none=>none
 |some (nn,jv)=>if jv.length<=N.length then match mem 0 nn (List.replicate jv.length []) with
  |none=>none
  |some X=>match dC N nn 0 (X.zip jv) (List.replicate jv.length 0) true with
   |none=>none
   |some (b,a)=>match gt nn root with
    |none=>none
    |some c=>match gt b c with
     |none=>none
     |some v=>some (IntKind.i64.wrap (v-1),a)
  else none
theorem P1:∀{cs:List Int} {i:Nat} {X Y:List (List Int)},mem i cs X=some Y->Y.length=X.length
 |[],i,X,Y,he=>by cases he;rfl
 |c::cs,i,X,Y,he=>by
  rw[mem] at he;cases hg:gt X c with
  |none=>rw[hg] at he;cases he
  |some xs=>rw[hg] at he;rw[P1 he,ae8]
theorem VS:∀{cs:List Int} {i:Nat} {X Y:List (List Int)},mem i cs X=some Y->(∀xs∈X,xs.length<=i)->∀xs∈Y,xs.length<=i+cs.length
 |[],i,X,Y,he,hX=>by cases he;simpa using hX
 |c::cs,i,X,Y,he,hX=>by
  rw[mem] at he;cases hg:gt X c with
  |none=>rw[hg] at he;cases he
  |some xs=>
   rw[hg] at he;intro ys hy;have:=VS he (λzs hz=>?_) ys hy
   .simp;omega
   .rcases aef hz with hz|rfl
    .have:=hX zs hz;omega
    .have:=hX xs (IN (aD hg).2);simp;omega
theorem Ak {nn:List Int}{c:Int}:∀{xs b:List Int} {a:Bool} {b':List Int} {a':Bool},dR nn c xs b a=some (b',a')->b'.length=b.length
 |[],b,a,b',a',he=>by cases he;rfl
 |x::xs,b,a,b',a',he=>by
  rw[dR] at he;split at he
  .cases he
  .split at he
   .exact Ak he
   .split at he
    .rw[Ak he,ae8]
    .cases he
theorem Om {N:List an}{nn:List Int}{c:Int}:∀{xs b:List Int} {a:Bool} {b':List Int} {a':Bool},dM N nn c xs b a=some (b',a')->b'.length=b.length
 |[],b,a,b',a',he=>by cases he;rfl
 |x::xs,b,a,b',a',he=>by
  rw[dM] at he;split at he
  .cases he
  .split at he
   .cases he
   .rename_i h1;split at he
    .cases he
    .rename_i h2;rw[Om he,Ak h2,Ak h1]
theorem VT {N:List an}{nn:List Int}:∀{r:List (List Int×Int)} {c:Nat} {b:List Int} {a:Bool} {b':List Int} {a':Bool},dC N nn c r b a=some (b',a')->b'.length=b.length
 |[],c,b,a,b',a',he=>by cases he;rfl
 |(xs,sz)::r,c,b,a,b',a',he=>by
  rw[dC] at he;split at he
  .cases he
  .rename_i h1;split at he
   .cases he
   .rw[VT he,ae8,Om h1]
structure ME where
 s:Sl
 g:Nat
 xs:List Int
def ME.own (e:ME):bj:=.ps e.s 1 au (e.xs.map vi) e.g
def DL (bb bn x0 bm:Nat)(s2 s:Sl)(g2:Nat)(root:Int)(nn jv b:List Int)(M:List ME):List bj:=
 [.ar bb (b.map vi) au,.ar bn (nn.map vi) au,.ps s2 1 au (jv.map vi) g2,.ar x0 [aE s,vi root] aj,.ar bm ((M.map ME.s).map aE) aR]
theorem acC {M:List ME}{c:Nat}{e:ME}(he:M[c]?=some e){bb bn x0 bm:Nat}{s2 s:Sl}{g2:Nat}{root:Int}{nn jv b:List Int}{M':List ME} :
  (DL bb bn x0 bm s2 s g2 root nn jv b M'++(M.map ME.own++L))[c+5]?=some (.ps e.s 1 au (e.xs.map vi) e.g):=by
 simp only[DL,acJ,ad6,afz];rw[afq (by simpa using eE he),aaW,he];rfl
theorem acD {bb bn x0 bm:Nat}{s2 s:Sl}{g2:Nat}{root:Int}{nn jv b:List Int}{m:Nat}(hm:nn.length=m)(hb:m<1073741824)(a4:Sl)(a3:Bool)(a2:Sl)(a1:Sl) :
  ∀(n i:Nat) (h:af) (M:List ME) (X:List (List Int)),m-i<n->i<=m->mem i (nn.drop i) (M.map ME.xs)=some X->(∀e∈M,e.xs.length<=i)->Z h0 h (DL bb bn x0 bm s2 s g2 root nn jv b M++(M.map ME.own++L)) ->
   Wp (kY n (ak x0) a1 a2 a3 a4 (arr bm M.length) (arr bn m) (m:Int) (i:Int)) h λ_ h'=>∃M',M'.map ME.xs=X/\Z h0 h' (DL bb bn x0 bm s2 s g2 root nn jv b M'++(M'.map ME.own++L)):=by
 intro n
 induction n with
 |zero=>intro i h M X h1;omega
 |succ n ih=>
  intro i h M X h1 h2 hv hle z;rw[yY];unfold re;by_cases hi:i<m
  .rw[if_pos (by simp;omega)];obtain⟨c,hc⟩:=jy (l:=nn) (i:=i) (by omega);rw[drop_cons hc,mem] at hv;cases hg:gt (M.map ME.xs) c with
   |none=>rw[hg] at hv;cases hv
   |some xs=>
   rw[hg] at hv;simp only at hv;obtain⟨g1,gg⟩:=aD hg;rw[aaW] at gg;cases hM:M[c.toNat]? with
   |none=>rw[hM] at gg;cases gg
   |some e=>
   rw[hM] at gg;have gg:e.xs=xs:=abi gg;have hlt:=eE hM;refine z.Gu (c:=nn) 1 (v:=c) (by unfold gt;rw[if_pos (by omega)];simpa using hc) hm ?_;refine Jt (b:=bm) (m:=M.length) g1 hlt ?_;refine z.ld 4 (o:=c.toNat) (l:=.sl) (x:=e.s) ?_ rfl (by rw[aaW,aaW,hM];rfl) rfl;have hown:=acC (L:=L) hM (bb:=bb) (bn:=bn) (x0:=x0) (bm:=bm) (s2:=s2) (s:=s) (g2:=g2) (root:=root) (nn:=nn) (jv:=jv) (b:=b) (M':=M);have hlen:e.s.len=e.xs.length:=(wS.BB (z.get _ hown)).F6;have hel:=hle e (IN hM);refine z.Q3 (c.toNat+5) (new:=[vi (i:Int)]) hown (by decide) rfl (by unfold cK;omega) λs' h3 g' hs' z _=>?_;refine Jt (b:=bm) (m:=M.length) g1 hlt ?_;refine z.zA 4 (xs:=M.map ME.s) (enc:=aE) (v:=s') (k:=c.toNat) (by simpa using hlt) (λh4 z=>?_);rw[uv h2 (by omega)];have hl':(M.set c.toNat ⟨s',g',e.xs++[(i:Int)]⟩).length=M.length:=by simp
   have z:Z h0 h4 (DL bb bn x0 bm s2 s g2 root nn jv b (M.set c.toNat ⟨s',g',e.xs++[(i:Int)]⟩)++((M.set c.toNat ⟨s',g',e.xs++[(i:Int)]⟩).map ME.own++L)):=by
    refine z.perm (List.Perm.of_eq ?_);simp only[DL,acJ,ad6,afD,aeg];rw[aha _ _ (by simpa using hlt),afX,afX];simp[ME.own]
   have:=ih (i+1) h4 (M.set c.toNat ⟨s',g',e.xs++[(i:Int)]⟩) X (by omega) (by omega) (by rw[afX];simp only;rw[gg];exact hv) (λx hx=>?_) z
   .rw[hl'] at this;exact this
   .rcases aef hx with hx|rfl
    .have:=hle x hx;omega
    .simp;omega
  .rw[if_neg (by simp;omega),ag];have:nn.drop i=[]:=aaS (by omega);rw[this] at hv;cases hv;exact⟨M,rfl,z⟩
theorem VU {bb bn:Nat}{nn:List Int}{m p:Nat}(hm:nn.length=m){sl:Sl}{xs:List Int}(il:IL h0 sl xs){B:Nat}(hB:B<1073741824)(hl:xs.length<=B){c:Nat}(a0:Addr)(a2 a5:Sl)(a7 a8:Int)(a9:Sl)(a10 a11:Int)(a12:Sl)(a13 a14:Int) :
  ∀(n i:Nat) (h:af) (b b':List Int) (a a':Bool) (R:List bj),xs.length-i<n->i<=xs.length->b.length=p->dR nn c (xs.drop i) b a=some (b',a')->Z h0 h (.ar bb (b.map vi) au::.ar bn (nn.map vi) au::R) ->
   Wp (kT n a0 (arr bn m) a2 a (arr bb p) a5 (c:Int) a7 a8 a9 a10 a11 a12 a13 a14 sl (sl.len:Int) (i:Int)) h λy h'=>y=a'/\Z h0 h' (.ar bb (b'.map vi) au::.ar bn (nn.map vi) au::R):=by
 intro n
 induction n with
 |zero=>intro i h b b' a a' R h1;omega
 |succ n ih=>
  intro i h b b' a a' R h1 h2 hp hv z;rw[yV];unfold qX;rw[il.len];by_cases hi:i<xs.length
  .rw[if_pos (by simp;omega)];obtain⟨x,hx⟩:=jy hi;rw[drop_cons hx,dR] at hv;refine (il.fr z.fr).ix (by omega) (by simpa using hx) λa1 g cl=>cl.pL (l:=li) rfl rfl ?_;cases hg:gt nn x with
   |none=>rw[hg] at hv;cases hv
   |some d=>
   rw[hg] at hv;simp only at hv;refine z.Gu (c:=nn) 1 hg hm ?_;rw[uv h2 (by omega)];by_cases hd:d=c
   .rw[if_pos hd] at hv;rw[if_pos (by simpa using hd)];have:=ih (i+1) h b b' false a' R (by omega) (by omega) hp hv z
    rwa [il.len] at this
   .rw[if_neg hd] at hv;rw[if_neg (by simpa using hd)];cases hq1:gt b (c:Int) with
    |none=>rw[hq1] at hv;cases hv
    |some v=>
    cases hq2:gt b d with
    |none=>rw[hq1,hq2] at hv;cases hv
    |some w=>
    rw[hq1,hq2] at hv;simp only at hv;obtain⟨g1,g2⟩:=aD hq1;obtain⟨g3,g4⟩:=aD hg;have hlt:=eE g2;refine Jt (b:=bb) (m:=p) g1 (by omega) ?_;refine Jt (b:=bn) (m:=m) g3 (by rw[<-hm];exact eE g4) ?_;refine z.ld 0 (o:=(c:Int).toNat) (l:=li) (x:=v) ?_ rfl (by rw[aaW,g2];rfl) rfl;refine z.ld 1 (o:=x.toNat) (l:=li) (x:=d) ?_ rfl (by rw[aaW,g4];rfl) rfl;refine z.Gu (c:=b) 0 hq2 hp ?_;refine Jt (b:=bb) (m:=p) g1 (by omega) ?_;refine z.zA 0 (xs:=b) (enc:=vi) (v:=mx v w) hlt (λh3 z=>?_);have:=ih (i+1) h3 (b.set (c:Int).toNat (mx v w)) b' a a' R (by omega) (by omega) (by simpa using hp) hv z
    rwa [il.len] at this
  .rw[if_neg (by simp;omega),ag];have:xs.drop i=[]:=aaS (by omega);rw[this] at hv;cases hv;exact⟨rfl,z⟩
theorem acE {bb bn b1:Nat}{nn:List Int}{m p:Nat}(hm:nn.length=m){ks is:Sl}{kl il:List Int}(ik:IL h0 ks kl)(ii:IL h0 is il){B:Nat}(hB:B<1073741824)(hl:kl.length<=B)(hl2:il.length<=B){c:Nat}(a0:Addr)(a2 a5:Sl)(a7 a8:Int)(a9:Sl)(a10 a11:Int)
  (n:Nat) (hn:B+5<=n) (h:af) (b b2 b':List Int) (a a2' a':Bool) (R:List bj) (hp:b.length=p) (hv1:dR nn c kl b a=some (b2,a2')) (hv2:dR nn c il b2 a2'=some (b',a')) (z:Z h0 h (.ar bb (b.map vi) au::.ar bn (nn.map vi) au::.ar b1 [aE ks,aE is] aR::R)) :
   Wp (kV n a0 (arr bn m) a2 a (arr bb p) a5 (c:Int) a7 a8 a9 a10 a11 { a:=some (ak b1),len:=2,cap:=3 } (2:Nat) 0) h λy h'=>y=a'/\Z h0 h' (.ar bb (b'.map vi) au::.ar bn (nn.map vi) au::.ar b1 [aE ks,aE is] aR::R):=by
 obtain⟨n,rfl⟩:∃m,n=m+3:=⟨n-3,by omega⟩;have rs:∀{h},Cl h ⟨b1,0,none⟩ [aE ks,aE is] (b1+1)->qy h { a:=some (ak b1),len:=2,cap:=3 } 1 [aE ks,aE is] (b1+1):=λc=>⟨rfl,.inr ⟨_,rfl,c⟩⟩;rw[oj];unfold kU;rw[if_pos (by decide)];refine (rs (z.cl 2 rfl)).ix (k:=0) (by decide) (by simp) λad cl=>cl.pL (l:=.sl) rfl rfl ?_;rw[ah];refine (VU hm ik hB hl a0 a2 a5 a7 a8 a9 a10 a11 _ _ _ _ 0 h b b2 a a2' _ (by omega) (by omega) hp (by simpa using hv1) z).mono λy h1 hy=>?_;obtain⟨rfl,z⟩:=hy;rw[show IntKind.i64.wrap (0+1)=1 from by decide,oj];unfold kU;rw[if_pos (by decide)];refine (rs (z.cl 2 rfl)).ix (k:=1) (by decide) (by simp) λad cl=>cl.pL (l:=.sl) rfl rfl ?_;rw[ah];refine (VU hm ii hB hl2 a0 a2 a5 a7 a8 a9 a10 a11 _ _ _ _ 0 h1 b2 b' y a' _ (by omega) (by omega) (by rw[Ak hv1];exact hp) (by simpa using hv2) z).mono λy2 h2 hy=>?_;obtain⟨rfl,z⟩:=hy;rw[show IntKind.i64.wrap (1+1)=2 from by decide,oj];unfold kU;rw[if_neg (by decide),ag];exact⟨rfl,z⟩
theorem acF {s:Sl}{N:List an}(G:jI h0 s N){B:Nat}(hB:Bd N B){bb bn x0:Nat}{root:Int}{nn:List Int}{m p:Nat}(hm:nn.length=m){sl:Sl}{xs:List Int}(hl:xs.length<=B){o2:bj}{c:Nat}(a2 a5:Sl)(a7 a8:Int)
  (hr:∀h' b,Z h0 h' (.ar bb b au::.ar bn (nn.map vi) au::o2::.ar x0 [aE s,vi root] aj::L)->IL h' sl xs) (hsl:sl.len=xs.length) :
  ∀(n i:Nat) (h:af) (b b':List Int) (a a':Bool),B+6+(xs.length-i)<n->i<=xs.length->b.length=p->dM N nn c (xs.drop i) b a=some (b',a')->Z h0 h (.ar bb (b.map vi) au::.ar bn (nn.map vi) au::o2::.ar x0 [aE s,vi root] aj::L) ->
   Wp (kW n (ak x0) (arr bn m) a2 a (arr bb p) a5 (c:Int) a7 a8 sl (sl.len:Int) (i:Int)) h λy h'=>y=a'/\Z h0 h' (.ar bb (b'.map vi) au::.ar bn (nn.map vi) au::o2::.ar x0 [aE s,vi root] aj::L):=by
 intro n
 induction n with
 |zero=>intro i h b b' a a' h1;omega
 |succ n ih=>
  intro i h b b' a a' h1 h2 hp hv z;rw[yW];unfold qY;rw[hsl];by_cases hi:i<xs.length
  .rw[if_pos (by simp;omega)];obtain⟨x,hx⟩:=jy hi;rw[drop_cons hx,dM] at hv;cases hg:gt N x with
   |none=>rw[hg] at hv;cases hv
   |some nx=>
   rw[hg] at hv;simp only at hv;obtain⟨x1,x2⟩:=aD hg;have hb:=hB.2.2 nx (IN x2);cases hv1:dR nn c nx.keys b a with
   |none=>rw[hv1] at hv;cases hv
   |some q1=>
   obtain⟨b1,a1⟩:=q1;rw[hv1] at hv;simp only at hv;cases hv2:dR nn c nx.items b1 a1 with
   |none=>rw[hv2] at hv;cases hv
   |some q2=>
   obtain⟨b2,a2'⟩:=q2;rw[hv2] at hv;simp only at hv;refine (hr h _ z).ix (by omega) (by simpa using hx) λad g cl=>cl.pL (l:=li) rfl rfl ?_;refine z.eS [12] (by decide) (by decide) λnb h3 z=>?_;refine z.ld 4 (o:=0) (l:=.sl) ?_;refine G.Pj z x1 x2 λad1 ks is nd=>(nd.fr z.fr).F9 ?_;refine z.ld 4 (o:=0) (l:=.sl) ?_;refine G.Pj z x1 x2 λad2 ks2 is2 nd2=>(nd2.fr z.fr).AR ?_;refine z.newAt 0 λh4 z=>?_;have z:=Z.sy (pre:=[_,_,_]) z [1,2,0] (by simp only[OF,aa0];decide);rw[ah];refine (acE hm nd.keys nd2.items hB.2.1 hb.1 hb.2 _ _ _ _ _ _ _ _ n (by omega) h4 b b1 b2 a a1 a2' _ hp hv1 hv2 z).mono λy h5 hy=>?_;obtain⟨rfl,z⟩:=hy;have z:=(Z.sy (pre:=[_,_,_]) z [2,0,1] (by simp only[OF,aa0];decide)).drop;rw[uv h2 (by have:=hB.2.1;omega)];have:=ih (i+1) h5 b2 b' y a' (by omega) (by omega) (by rw[Ak hv2,Ak hv1];exact hp) hv z
   rwa [hsl] at this
  .rw[if_neg (by simp;omega),ag];have:xs.drop i=[]:=aaS (by omega);rw[this] at hv;cases hv;exact⟨rfl,z⟩
theorem acG {s:Sl}{N:List an}(G:jI h0 s N){B:Nat}(hB:Bd N B){bb bn x0 bm:Nat}{s2:Sl}{g2:Nat}{root:Int}{nn jv:List Int}{m p:Nat}(hm:nn.length=m){M:List ME}(hM:M.length=p)(hs:jv.length=p)(hpB:p<=B)(hle:∀e∈M,e.xs.length<=B) :
  ∀(n i:Nat) (h:af) (b b':List Int) (a a':Bool),2*B+8+(p-i)<n->i<=p->b.length=p->dC N nn i (((M.map ME.xs).zip jv).drop i) b a=some (b',a')->Z h0 h (DL bb bn x0 bm s2 s g2 root nn jv b M++(M.map ME.own++L)) ->
   Wp (kX n (ak x0) (arr bn m) s2 a (arr bb p) (arr bm p) (p:Int) (i:Int)) h λy h'=>y=a'/\Z h0 h' (DL bb bn x0 bm s2 s g2 root nn jv b' M++(M.map ME.own++L)):=by
 intro n
 induction n with
 |zero=>intro i h b b' a a' h1;omega
 |succ n ih=>
  intro i h b b' a a' h1 h2 hp hv z;rw[yX];unfold qZ;by_cases hi:i<p
  .rw[if_pos (by simp;omega)];obtain⟨e,he⟩:=jy (l:=M) (i:=i) (by omega);obtain⟨sz,hz⟩:=jy (l:=jv) (i:=i) (by omega);have hzip:((M.map ME.xs).zip jv)[i]?=some (e.xs,sz):=by
    rw[List.getElem?_zip_eq_some];exact⟨by rw[aaW,he];rfl,hz⟩
   rw[drop_cons hzip,dC] at hv;cases hv1:dM N nn (i:Int) e.xs b a with
   |none=>rw[hv1] at hv;cases hv
   |some q1=>
   obtain⟨b1,a1⟩:=q1;rw[hv1] at hv;simp only at hv;cases hg:gt b1 (i:Int) with
   |none=>rw[hg] at hv;cases hv
   |some v=>
   rw[hg] at hv;simp only at hv;obtain⟨g1,gg⟩:=aD hg;refine Jt (b:=bm) (m:=p) (by omega) (by omega) ?_;refine z.ld 4 (o:=(i:Int).toNat) (l:=.sl) (x:=e.s) ?_ rfl (by rw[IS,aaW,aaW,he];rfl) rfl;have hown:∀{b:List Value},(.ar bb b au::.ar bn (nn.map vi) au::.ps s2 1 au (jv.map vi) g2::.ar x0 [aE s,vi root] aj::.ar bm ((M.map ME.s).map aE) aR::(M.map ME.own++L):List bj)[i+5]?=some (.ps e.s 1 au (e.xs.map vi) e.g):=by
    intro b;simp only[afz];rw[afq (by simpa using eE he),aaW,he];rfl
   have hlen:e.s.len=e.xs.length:=(wS.BB (z.get _ (hown (b:=b.map vi)))).F6;have hel:=hle e (IN he);rw[ah];refine (acF G hB hm hel s2 (arr bm p) (p:Int) (i:Int) (λh' b z=>⟨_,wS.BB (z.get _ hown)⟩) hlen n 0 h b b1 a a1 (by omega) (by omega) hp (by simpa using hv1) z).mono λy h3 hy=>?_;obtain⟨rfl,z⟩:=hy;have hlb:b1.length=p:=by rw[Om hv1];exact hp
   refine Jt (b:=bb) (m:=p) (by omega) (by omega) ?_;have hps:wS h3 s2 1 au (jv.map vi) g2:=z.get 2 rfl;refine hps.BB.Ua (enc:=vi) (v:=sz) (by omega) (by simpa using hz) λad cl=>?_;refine z.ld 0 (o:=(i:Int).toNat) (l:=li) (x:=v) ?_ rfl (by rw[aaW,gg];rfl) rfl;refine cl.pL (l:=li) rfl rfl ?_;refine Jt (b:=bb) (m:=p) (by omega) (by omega) ?_;refine z.zA 0 (xs:=b1) (enc:=vi) (v:=IntKind.i64.wrap (v+sz)) (eE gg) (λh4 z=>?_);rw[uv h2 (by have:=hB.2.1;omega)];exact ih (i+1) h4 _ b' y a' (by omega) (by omega) (by simpa using hlb) hv z
  .rw[if_neg (by simp;omega),ag];have:((M.map ME.xs).zip jv).drop i=[]:=aaS (by simp;omega);rw[this] at hv;cases hv;exact⟨rfl,z⟩
theorem LM {s:Sl}{root:Int}{N:List an}(z:Z h0 h L)(G:jI h0 s N){B:Nat}(hB:Bd N B){k n:Nat}(hk:k<=n)(hn:3*B+10<n){d:Int}{a:Bool}(hv:dep k N root=some (d,a)) :
  Wp (rY n (s,root)) h λx h'=>x=(d,a)/\Z h0 h' L:=by
 unfold rY;unfold dep at hv;cases hc:comp k N root with
 |none=>rw[hc] at hv;cases hv
 |some q=>
 obtain⟨nn,jv⟩:=q;rw[hc] at hv;simp only at hv;split at hv
 case isFalse=>cases hv
 rename_i hsz;cases hm:mem 0 nn (List.replicate jv.length []) with
 |none=>rw[hm] at hv;cases hv
 |some X=>
 rw[hm] at hv;simp only at hv;cases hd:dC N nn 0 (X.zip jv) (List.replicate jv.length 0) true with
 |none=>rw[hd] at hv;cases hv
 |some q=>
 obtain⟨b,a1⟩:=q;rw[hd] at hv;simp only at hv;cases hg:gt nn root with
 |none=>rw[hg] at hv;cases hv
 |some c=>
 rw[hg] at hv;simp only at hv;cases hg2:gt b c with
 |none=>rw[hg2] at hv;cases hv
 |some v=>
 rw[hg2] at hv;simp only[aaM,aez] at hv;obtain⟨rfl,rfl⟩:=hv;have hNB:=hB.1;have hBB:=hB.2.1;refine z.new λx0 h1 z _=>?_;refine z.fI 0 (ls:=[.sl,li]) (x:=(s,root)) ?_;rw[ah];refine (Gv z G hB hk (by omega) hc).mono λy h2 hy=>?_;obtain⟨hnn,bn,s2,g2,rfl,z⟩:=hy;have hs2:s2.len=jv.length:=(wS.BB (z.get 1 rfl)).F6;simp only;rw[hs2];refine z.Lh (by omega) (by unfold cK;omega) λbb h3 z _=>?_;refine z.Lh (by omega) (by unfold cK;omega) λbm h4 z _=>?_;rw[IS] at z⊢;rw[nR (enc:=vi),show aU=aE mX from rfl,nR (enc:=aE)] at z;have z:=Z.sy (pre:=[_,_,_,_,_]) z [1,2,3,4,0] (by simp only[OF,aa0];decide);have hown:∀n,((List.replicate n (⟨⟨none,0,0⟩,0,[]⟩:ME)).map ME.own)=List.replicate n (.ps ⟨none,0,0⟩ 1 au [] 0):=by
  intro n;rw[afn];rfl
 have addn:∀(n:Nat) {L:List bj},Z h0 h4 L->Z h0 h4 (List.replicate n (.ps ⟨none,0,0⟩ 1 au [] 0)++L):=by
  intro n
  induction n with
  |zero=>intro L z;exact z
  |succ n ih=>intro L z;exact (ih z).add (Fr.refl z.wf) (o:=.ps ⟨none,0,0⟩ 1 au [] 0) wS.nil (.inl rfl)
 have z:=addn jv.length z;have z:Z h0 h4 (DL bb bn x0 bm s2 s g2 root nn jv (List.replicate jv.length 0) (List.replicate jv.length ⟨⟨none,0,0⟩,0,[]⟩)++((List.replicate jv.length (⟨⟨none,0,0⟩,0,[]⟩:ME)).map ME.own++L)):=by
  refine z.perm ?_;rw[hown];have e:(List.replicate jv.length (⟨⟨none,0,0⟩,0,[]⟩:ME)).map ME.s=List.replicate jv.length mX:=by rw[afn]
  unfold DL;rw[e];simp only[acJ,ad6];have:=agy L (aeW (l₁:=List.replicate jv.length (bj.ps ⟨none,0,0⟩ 1 au [] 0)) (l₂:=[.ar bb ((List.replicate jv.length 0).map vi) au,.ar bn (nn.map vi) au,.ps s2 1 au (jv.map vi) g2,.ar x0 [aE s,vi root] aj,.ar bm ((List.replicate jv.length mX).map aE) aR]));rw[abp,abp] at this;exact this
 rw[ah];have hl0:=acD (L:=L) (h0:=h0) hnn (by omega) (arr bb jv.length) true s2 (arr bn N.length) n 0 h4 (List.replicate jv.length ⟨⟨none,0,0⟩,0,[]⟩) X (by omega) (by omega) (by rw[afn];exact hm) (λe he=>by rw[adt he];simp) z;rw[adf] at hl0;refine hl0.mono λ_ h5 hx=>?_;obtain⟨M,rfl,z⟩:=hx;have hML:M.length=jv.length:=by have:=P1 hm;simpa using this
 rw[ah];refine (acG G hB hnn hML rfl (by omega) (λe he=>?_) n 0 h5 _ b true a1 (by omega) (by omega) (by simp) (by simpa using hd) z).mono λy h6 hy=>?_
 .have:=VS hm (λxs hx=>by rw[adt hx];simp) e.xs (List.mem_map.2 ⟨e,he,rfl⟩);omega
 obtain⟨rfl,z⟩:=hy;refine z.ld 3 (o:=1) (l:=li) (x:=root) ?_;refine z.Gu (c:=nn) 1 hg hnn ?_;have hbl:b.length=jv.length:=by rw[VT hd,adf]
 refine z.Gu (c:=b) (m:=jv.length) 0 hg2 hbl ?_;rw[ag];refine⟨rfl,?_⟩;have z:=z.drop.drop.drop.drop.drop;exact z.sub (aeN _ _)
end
section
variable {α β:Type}{h h' h0:af}{L:List bj}{Q:β->af->Prop}
noncomputable def gA:List Bool->List an->Option Bool
 |m::ms,x::xs=>if m=false then some false else match nI x with
  |none=>none
  |some false=>some false
  |some true=>gA ms xs
 |_,[]=>some true
 |[],_::_=>none
def gB:List Bool->List Int->Bool
 |b::bs,c::cs=>if b=true/\c≠1 then false else gB bs cs
 |_,_=>true
noncomputable def mT (k:Nat)(N:List an)(root:Int):Option Int:=
 if 4096<N.length then some 7
 else if N.length=0 then some 3
 else if Gp N root=false then some 3
 else match y8 k N root (List.replicate N.length false) with
  |none=>none
  |some ms=>match gA ms N with
   |none=>none
   |some false=>some 3
   |some true=>match lF N root with
    |none=>none
    |some c=>match SX k N N (List.replicate N.length false) with
     |none=>none
     |some ks=>
      if gB ks c=false then some 3
      else match Xd k N N with
       |none=>none
       |some true=>some 8
       |some false=>match dep k N root with
        |none=>none
        |some (d,_)=>if 32<d then some 5 else some 0
theorem VV {s:Sl}{N:List an}(G:jI h0 s N){B:Nat}(hB:Bd N B)(ht:∀x∈N,x.text.size<=65536){bm:Nat}{ms:List Bool}(hm:ms.length=N.length){e:TypeId}(a0:Addr) :
  ∀(n i:Nat) (r:Bool) (h:af) (L:List bj),(N.length-i)+65540<n->i<=N.length->gA (ms.drop i) (N.drop i)=some r->Z h0 h (.ar bm (ms.map .bool) e::L) ->
   Wp (lg n a0 (arr bm N.length) s (s.len:Int) (i:Int)) h λy h'=>y=(if r then .inl () else .inr 3)/\Z h0 h' (.ar bm (ms.map .bool) e::L):=by
 intro n
 induction n with
 |zero=>intro i r h L h1;omega
 |succ n ih=>
  intro i r h L h1 h2 hv z;rw[y0];unfold rh;rw[G.len];by_cases hi:i<N.length
  .rw[if_pos (by simp;omega)];obtain⟨x,hx⟩:=jy hi;obtain⟨b,hb⟩:=jy (l:=ms) (i:=i) (by omega);rw[drop_cons hx,drop_cons hb,gA] at hv;refine G.at z (by omega) (by simpa using hx) λa ks is nd ik ii=>nd.fI ?_;refine z.node λx2 h2' z=>?_;refine z.rdB (c:=ms) 1 (v:=b) (by unfold gt;rw[if_pos (by omega)];simpa using hb) hm ?_;cases b with
   |false=>
    rw[if_pos rfl] at hv;cases hv;rw[if_pos (by rfl),ag];exact⟨rfl,z.drop⟩
   |true=>
    rw[if_neg (by simp)] at hv;rw[if_neg (by simp)];refine z.fI 0 (ls:=[li,.str,.bool,.sl,.sl]) (x:=(x.kind,x.text,x.ord,ks,is)) ?_;cases hf:nI x with
    |none=>rw[hf] at hv;cases hv
    |some f=>
     rw[hf] at hv;have htx:=ht x (IN hx);rw[ah];refine (YO z ik ii htx (by omega) hf).mono λy h3 hy=>?_;obtain⟨rfl,z⟩:=hy;cases y with
     |false=>
      cases hv;rw[if_pos (by rfl),ag];exact⟨rfl,z.drop⟩
     |true=>
      simp only at hv;rw[if_neg (by simp),uv h2 (by have:=hB.1;have:=hB.2.1;omega)];have:=ih (i+1) r h3 L (by omega) (by omega) hv z.drop
      rwa [G.len] at this
  .rw[if_neg (by simp;omega),ag];have e1:N.drop i=[]:=aaS (by omega);have e2:ms.drop i=[]:=aaS (by omega);rw[e1,e2] at hv;cases hv;exact⟨rfl,z⟩
theorem VW {bk bc m:Nat}{ks:List Bool}{c:List Int}(hk:ks.length=m)(hc:c.length=m)(hb:m<1073741824){e1 e2:TypeId}(a0:Addr)(z:Z h0 h (.ar bk (ks.map .bool) e1::.ar bc (c.map vi) e2::L)) :
  ∀(n i:Nat),m-i<n->i<=m->Wp (kZ n a0 (arr bc m) (arr bk m) (m:Int) (i:Int)) h λy h'=>y=(if gB (ks.drop i) (c.drop i) then .inl () else .inr 3)/\h'=h:=by
 intro n
 induction n with
 |zero=>intro i h1;omega
 |succ n ih=>
  intro i h1 h2;rw[yZ];unfold rf;by_cases hi:i<m
  .rw[if_pos (by simp;omega)];obtain⟨b,hb⟩:=jy (l:=ks) (i:=i) (by omega);obtain⟨v,hv⟩:=jy (l:=c) (i:=i) (by omega);have hg:gB (ks.drop i) (c.drop i)=if b=true/\v≠1 then false else gB (ks.drop (i+1)) (c.drop (i+1)):=by rw[drop_cons hb,drop_cons hv,gB]
   rw[hg];clear hg;refine z.rdB (c:=ks) 0 (v:=b) (by unfold gt;rw[if_pos (by omega)];simpa using hb) hk ?_;have hnx:=ih (i+1) (by omega) (by omega);rw[<-uv h2 (by omega)] at hnx;cases b with
   |false=>
    have e:(if false=true/\v≠1 then false else gB (ks.drop (i+1)) (c.drop (i+1)))=gB (ks.drop (i+1)) (c.drop (i+1)):=if_neg (by simp);rw[e,if_neg (by simp)];exact hnx
   |true=>
    rw[if_pos rfl];refine z.Gu (c:=c) 1 (v:=v) (by unfold gt;rw[if_pos (by omega)];simpa using hv) hc ?_;by_cases h1:v=1
    .have e:(if true=true/\v≠1 then false else gB (ks.drop (i+1)) (c.drop (i+1)))=gB (ks.drop (i+1)) (c.drop (i+1)):=if_neg (by simp[h1]);rw[e,if_neg (by simpa using h1)];exact hnx
    .have e:(if true=true/\v≠1 then false else gB (ks.drop (i+1)) (c.drop (i+1)))=false:=if_pos ⟨rfl,h1⟩;rw[e,if_pos (by simpa using h1),ag];exact⟨rfl,rfl⟩
  .rw[if_neg (by simp;omega),ag];have e1:ks.drop i=[]:=aaS (by omega);rw[e1];exact⟨rfl,rfl⟩
theorem vB {s:Sl}{root:Int}{N:List an}(z:Z h0 h L)(G:jI h0 s N){B:Nat}(hB:Bd N B)(ht:∀x∈N,x.text.size<=65536){k n:Nat}(hn:k+4*B+65600<n){r:Int}(hv:mT k N root=some r) :
  Wp (lL n (s,root)) h λx h'=>x=r/\Z h0 h' L:=by
 have hNB:=hB.1;have hBB:=hB.2.1;unfold lL;unfold mT at hv;refine z.new λx0 h1 z _=>?_;refine z.ld 0 (o:=0) (l:=.sl) ?_;rw[G.len];by_cases c1:4096<N.length
 .rw[if_pos c1] at hv;cases hv;rw[if_pos (by simp;omega),ag];exact⟨rfl,z.drop⟩
 rw[if_neg c1] at hv;rw[if_neg (by simp;omega)];refine z.ld 0 (o:=0) (l:=.sl) ?_;rw[G.len];by_cases c2:N.length=0
 .rw[if_pos c2] at hv;cases hv;rw[if_pos (by simp[c2]),ag];exact⟨rfl,z.drop⟩
 rw[if_neg c2] at hv;rw[if_neg (by simp;exact λe=>c2 (by simp[e]))];refine z.fI 0 (ls:=[.sl,li]) (x:=(s,root)) ?_;rw[ah];refine (N5 z G hB (by omega)).mono λy h2 hy=>?_;obtain⟨rfl,z⟩:=hy;cases c3:Gp N root with
 |false=>
  rw[if_pos c3] at hv;cases hv;rw[if_pos (by rfl),ag];exact⟨rfl,z.drop⟩
 |true=>
 rw[if_neg (by simp[c3])] at hv;rw[if_neg (by simp)];unfold tX;refine z.ld 0 (o:=0) (l:=.sl) ?_;rw[G.len];refine z.Lh (by omega) (by unfold cK;omega) λbm h3 z _=>?_;rw[IS] at z⊢;rw[nR (enc:=Value.bool)] at z;refine z.fI 1 (ls:=[.sl,li]) (x:=(s,root)) ?_;refine z.ld 1 (o:=1) (l:=li) (x:=root) ?_;cases hvis:y8 k N root (List.replicate N.length false) with
 |none=>rw[hvis] at hv;cases hv
 |some ms=>
 rw[hvis] at hv;simp only at hv;rw[ah];have hms:ms.length=N.length:=by have:=(DY k N).1 _ _ _ hvis;simpa using this
 have hw:=Ah (cap:=N.length+1) z G hB hvis (n:=n) (root:=root) (by omega);rw[adf] at hw;refine hw.mono λ_ h4 z=>?_;refine z.ld 1 (o:=0) (l:=.sl) ?_;cases hA:gA ms N with
 |none=>rw[hA] at hv;cases hv
 |some b=>
 rw[hA] at hv;rw[ah];refine (VV G hB ht hms (ak x0) n 0 b h4 _ (by omega) (by omega) (by simpa using hA) z).mono λy h5 hy=>?_;obtain⟨rfl,z⟩:=hy;cases b with
 |false=>cases hv;exact ag.2 ⟨rfl,z.drop.drop⟩
 |true=>
 simp only at hv;show Wp (sh _ _) h5 _;refine z.fI 1 (ls:=[.sl,li]) (x:=(s,root)) ?_;cases hc:lF N root with
 |none=>rw[hc] at hv;cases hv
 |some c=>
 rw[hc] at hv;simp only at hv;rw[ah];refine (Sj z G hB (by omega) hc).mono λy h6 hy=>?_;obtain⟨bc,rfl,hcl,z⟩:=hy;refine z.fI 2 (ls:=[.sl,li]) (x:=(s,root)) ?_;cases hi:SX k N N (List.replicate N.length false) with
 |none=>rw[hi] at hv;cases hv
 |some ks=>
 rw[hi] at hv;simp only at hv;rw[ah];refine (Sk (k:=k) z G hB (by omega) hi).mono λy h7 hy=>?_;obtain⟨bk,rfl,hkl,z⟩:=hy;rw[ah];refine (VW hkl hcl (by omega) (ak x0) z n 0 (by omega) (by omega)).mono λy h8 hy=>?_;obtain⟨rfl,rfl⟩:=hy;simp only[aeh];cases hgB:gB ks c with
 |false=>
  rw[if_pos hgB] at hv;cases hv;exact ag.2 ⟨rfl,z.drop.drop.drop.drop⟩
 |true=>
 rw[if_neg (by simp[hgB])] at hv;show Wp (sh _ _) h8 _;refine z.fI 3 (ls:=[.sl,li]) (x:=(s,root)) ?_;cases htw:Xd k N N with
 |none=>rw[htw] at hv;cases hv
 |some b=>
 rw[htw] at hv;rw[ah];refine (VQ (k:=k) z G hB (by omega) htw).mono λy h9 hy=>?_;obtain⟨rfl,z⟩:=hy;cases y with
 |true=>cases hv;rw[if_pos rfl,ag];exact⟨rfl,z.drop.drop.drop.drop⟩
 |false=>
 simp only at hv;rw[if_neg (by simp)];refine z.fI 3 (ls:=[.sl,li]) (x:=(s,root)) ?_;cases hd:dep k N root with
 |none=>rw[hd] at hv;cases hv
 |some q=>
 obtain⟨d,a⟩:=q;rw[hd] at hv;simp only at hv;rw[ah];refine (LM z G hB (k:=k) (by omega) (by omega) hd).mono λy h10 hy=>?_;obtain⟨rfl,z⟩:=hy;by_cases h32:32<d
 .rw[if_pos h32] at hv;cases hv;rw[if_pos (by simpa using h32),ag];exact⟨rfl,z.drop.drop.drop.drop⟩
 .rw[if_neg h32] at hv;cases hv;rw[if_neg (by simpa using h32),ag];exact⟨rfl,z.drop.drop.drop.drop⟩
end
section
variable {α β:Type}{h h' h0:af}{L:List bj}{Q:β->af->Prop}
def ve:List Bool->Nat->List Int
 |[],_=>[]
 |b::bs,n=>(n:Int)::ve bs (if b then n+1 else n)
def JO (at':List Int):List Int->Option (List Int)
 |[]=>some []
 |x::xs=>match gt at' x,JO at' xs with
  |some v,some r=>some (v::r)
  |_,_=>none
def kN (at':List Int):List Bool->List an->Option (List an)
 |_,[]=>some []
 |[],_::_=>none
 |b::bs,x::xs=>if b then match JO at' x.keys,JO at' x.items,kN at' bs xs with
   |some ks,some is,some r=>some ({ x with keys:=ks,items:=is }::r)
   |_,_,_=>none
  else kN at' bs xs
def kept (k:Nat)(N:List an)(root:Int):Option (List an×Int):=match y8 k N root (List.replicate N.length false) with
 |none=>none
 |some ms=>match gt (ve ms 0) root,kN (ve ms 0) ms N with
  |some r,some N'=>some (N',r)
  |_,_=>none
theorem D3:∀(bs:List Bool) (n:Nat),(ve bs n).length=bs.length
 |[],_=>rfl
 |b::bs,n=>by rw[ve,OF,D3,OF]
theorem uL {at':List Int}:∀{xs ys:List Int},JO at' xs=some ys->ys.length=xs.length
 |[],ys,he=>by cases he;rfl
 |x::xs,ys,he=>by
  rw[JO] at he;cases h1:gt at' x with
  |none=>rw[h1] at he;cases he
  |some v=>
   cases h2:JO at' xs with
   |none=>rw[h1,h2] at he;cases he
   |some r=>rw[h1,h2] at he;cases he;rw[OF,uL h2,OF]
theorem Ju {at':List Int}:∀{xs ys:List Int} {i:Nat} {x:Int},JO at' xs=some ys->xs[i]?=some x->∃v,gt at' x=some v/\ys[i]?=some v
 |[],ys,i,x,he,hx=>by simp at hx
 |x::xs,ys,i,w,he,hx=>by
  rw[JO] at he;cases h1:gt at' x with
  |none=>rw[h1] at he;cases he
  |some v=>
   cases h2:JO at' xs with
   |none=>rw[h1,h2] at he;cases he
   |some r=>
    rw[h1,h2] at he;cases he;cases i with
    |zero=>simp at hx;subst hx;exact⟨v,h1,rfl⟩
    |succ i=>have:=Ju h2 (i:=i) (x:=w) (by simpa using hx);simpa using this
theorem fill {ys:List Int}{i:Nat}{v:Int}(hv:ys[i]?=some v):(ys.take i++List.replicate (ys.length-i) 0).set i v=ys.take (i+1)++List.replicate (ys.length-(i+1)) 0:=by
 have hlt:=eE hv;have e:ys.length-i=(ys.length-(i+1))+1:=by omega
 rw[aeV _ _ (by simp;omega),e,aeO,adw,agp (by omega),aft,aeg,agw,hv,abp];rfl
theorem yh {cks:List (Option Addr)}{m:M α}{f:α->M β}{P:α->af->Prop}(ha:∀a,some a∈cks->∃cs e,LB h a.block cs e/\∀r h',P r h'->LB h' a.block cs e)(hm:Wp m h P)(q:∀r h',P r h'->Wp (f r) h' Q):Wp (sh (kG cks m) f) h Q:=by
 rw[ah];refine xy (hm.mono λr h' hp=>⟨λa hma=>?_,q r h' hp⟩);obtain⟨cs,e,l1,l2⟩:=ha a hma;rw[(l2 r h' hp).get,l1.get]
theorem VX {c9 ba b:Nat}{at':List Int}{m:Nat}(hm:at'.length=m){sl:Sl}{xs ys:List Int}(il:IL h0 sl xs)(hl:xs.length<1073741824)(hy:JO at' xs=some ys) :
  ∀(n i:Nat) (h:af) (L:List bj),xs.length-i<n->i<=xs.length->Z h0 h (.ar b ((ys.take i++List.replicate (ys.length-i) 0).map vi) au::.ar c9 [aE (arr ba m)] aR::.ar ba (at'.map vi) au::L) ->
   Wp (jV n (ak c9) (arr b xs.length) sl (sl.len:Int) (i:Int)) h λ_ h'=>Z h0 h' (.ar b (ys.map vi) au::.ar c9 [aE (arr ba m)] aR::.ar ba (at'.map vi) au::L):=by
 have hyl:=uL hy;intro n
 induction n with
 |zero=>intro i h L h1;omega
 |succ n ih=>
  intro i h L h1 h2 z;rw[yb];unfold qm;rw[il.len];by_cases hi:i<xs.length
  .rw[if_pos (by simp;omega)];obtain⟨x,hx⟩:=jy hi;obtain⟨v,hg,hv⟩:=Ju hy hx;refine (il.fr z.fr).ix (by omega) (by simpa using hx) λa g cl=>cl.pL (l:=li) rfl rfl ?_;refine z.ld 1 (o:=0) (l:=.sl) (x:=arr ba m) ?_;refine z.Gu (c:=at') 2 hg hm ?_;refine Jt (b:=b) (m:=xs.length) (by omega) (by omega) ?_;rw[IS];refine z.zA 0 (xs:=ys.take i++List.replicate (ys.length-i) 0) (enc:=vi) (v:=v) (by rw[aaQ,adw,adf];omega) (λh3 z=>?_);rw[fill hv] at z;rw[uv h2 (by omega)];have:=ih (i+1) h3 L (by omega) (by omega) z
   rwa [il.len] at this
  .rw[if_neg (by simp;omega),ag];have:i=ys.length:=by omega
   subst this;simpa using z
theorem LN {c9 ba:Nat}{at':List Int}{m:Nat}(hm:at'.length=m){sl:Sl}{xs ys:List Int}(il:IL h0 sl xs)(hl:xs.length<1073741824)(hy:JO at' xs=some ys){n:Nat}(hn:xs.length<n)
  (z:Z h0 h (.ar c9 [aE (arr ba m)] aR::.ar ba (at'.map vi) au::L)) :
  Wp (mf n sl (ak c9)) h λr h'=>∃b,r=arr b xs.length/\Z h0 h' (.ar b (ys.map vi) au::.ar c9 [aE (arr ba m)] aR::.ar ba (at'.map vi) au::L):=by
 have hyl:=uL hy;unfold mf;rw[il.len];refine z.Lh (by omega) (by unfold cK;omega) λb h1 z _=>?_;rw[IS] at z⊢;rw[nR (enc:=vi)] at z;rw[ah];have:=VX (b:=b) hm il hl hy n 0 h1 L (by omega) (by omega) (by rw[hyl];exact z);rw[il.len] at this;refine this.mono λ_ h2 z=>?_;rw[ag];exact⟨b,rfl,z⟩
theorem aeL {c9 ba bm:Nat}{ms:List Bool}{m:Nat}(hm:ms.length=m)(hb:m<1073741824)(a0 a1:Addr) :
  ∀(n i c:Nat) (h:af) (L:List bj),m-i<n->i<=m->c<=i->(ve ms 0).drop i=ve (ms.drop i) c->Z h0 h (.ar c9 [aE (arr ba m)] aR::.ar ba (((ve ms 0).take i++List.replicate (m-i) 0).map vi) au::.ar bm (ms.map .bool) uW::L) ->
   Wp (mE n a0 a1 (arr bm m) (ak c9) (c:Int) (arr bm m) (m:Int) (i:Int)) h λ_ h'=>Z h0 h' (.ar c9 [aE (arr ba m)] aR::.ar ba ((ve ms 0).map vi) au::.ar bm (ms.map .bool) uW::L):=by
 have hkl:(ve ms 0).length=m:=by rw[D3,hm]
 intro n
 induction n with
 |zero=>intro i c h L h1;omega
 |succ n ih=>
  intro i c h L h1 h2 hc hk z;rw[Ac];unfold sK;by_cases hi:i<m
  .rw[if_pos (by simp;omega)];obtain⟨b,hbit⟩:=jy (l:=ms) (i:=i) (by omega);obtain⟨v,hv⟩:=jy (l:=ve ms 0) (i:=i) (by omega);have hk2:=hk;rw[drop_cons hv,drop_cons hbit,ve] at hk2;have hvc:v=(c:Int):=(agl hk2).1;have hkn:=(agl hk2).2;refine z.rdB (c:=ms) 2 (v:=b) (by unfold gt;rw[if_pos (by omega)];simpa using hbit) hm ?_;refine z.ld 0 (o:=0) (l:=.sl) (x:=arr ba m) ?_;refine Jt (b:=ba) (m:=m) (by omega) (by omega) ?_;rw[IS];refine z.zA 1 (xs:=(ve ms 0).take i++List.replicate (m-i) 0) (enc:=vi) (v:=(c:Int)) (by rw[aaQ,adw,adf];omega) (λh3 z=>?_);have hf:=fill hv;rw[hkl,hvc] at hf;rw[hf] at z;rw[uv h2 (by omega)];cases b with
   |true=>
    rw[if_pos rfl,uv hc (by omega)];exact ih (i+1) (c+1) h3 L (by omega) (by omega) (by omega) hkn z
   |false=>
    rw[if_neg (by simp)];exact ih (i+1) c h3 L (by omega) (by omega) (by omega) hkn z
  .rw[if_neg (by simp;omega),ag];have:i=m:=by omega
   subst this;have e:(ve ms 0).take i=ve ms 0:=aeI (by omega);rw[e] at z;simpa using z
structure KR where
 v:an
 kb:Nat
 ib:Nat
def KR.r (x:KR):bC:=⟨x.v.kind,x.v.text,x.v.ord,arr x.kb x.v.keys.length,x.v.keys,x.kb+1,arr x.ib x.v.items.length,x.v.items,x.ib+1⟩
def KR.own (x:KR):List bj:=[.ar x.kb (x.v.keys.map vi) au,.ar x.ib (x.v.items.map vi) au]
def KO (R:List KR):List bj:=R.flatMap KR.own
def KL (po c9 ba bm:Nat)(out:Sl)(r:Int)(g m:Nat)(at':List Int)(ms:List Bool)(R:List KR):List bj:=
 [.ar c9 [aE (arr ba m)] aR,.ar ba (at'.map vi) au,.ar bm (ms.map .bool) uW,.ar po [aE out,vi r] aj,.ps out 5 aw ((R.map KR.r).flatMap bC.enc) g]
theorem On {at':List Int}:∀{ms:List Bool} {xs ys:List an},kN at' ms xs=some ys->ys.length<=xs.length
 |_,[],ys,he=>by cases ms_:0<;>(rw[kN] at he;cases he;simp)
 |[],_::_,ys,he=>by cases he
 |b::bs,x::xs,ys,he=>by
  rw[kN] at he;cases b with
  |false=>rw[if_neg (by simp)] at he;have:=On he;simp;omega
  |true=>
   rw[if_pos rfl] at he;split at he
   .rename_i h1;cases he;have:=On h1;simp;omega
   .cases he
theorem YS {s:Sl}{N:List an}(G:jI h0 s N){B:Nat}(hB:Bd N B){po c9 ba bm:Nat}{r:Int}{at':List Int}{ms:List Bool}(hm:ms.length=N.length)(ha:at'.length=N.length)(a0:Addr) :
  ∀(n i:Nat) (N':List an) (out:Sl) (g:Nat) (R:List KR) (h:af) (L:List bj),B+5+(N.length-i)<n->i<=N.length->kN at' (ms.drop i) (N.drop i)=some N'->R.length<=i->Z h0 h (KL po c9 ba bm out r g N.length at' ms R++(KO R++L)) ->
   Wp (mD n a0 (arr bm N.length) (ak po) (Value.func (Fn.func pN) #[] #[pv c9]) s (s.len:Int) (i:Int)) h λ_ h'=>∃out g R',R'.map KR.v=R.map KR.v++N'/\Z h0 h' (KL po c9 ba bm out r g N.length at' ms R'++(KO R'++L)):=by
 intro n
 induction n with
 |zero=>intro i N' out g R h L h1;omega
 |succ n ih=>
  intro i N' out g R h L h1 h2 hv hR z;rw[Ab];unfold sJ;rw[G.len];by_cases hi:i<N.length
  .rw[if_pos (by simp;omega)];obtain⟨x,hx⟩:=jy hi;obtain⟨b,hb⟩:=jy (l:=ms) (i:=i) (by omega);have hbd:=hB.2.2 x (IN hx);have hBB:=hB.2.1;have hNB:=hB.1;rw[drop_cons hx,drop_cons hb,kN] at hv;refine G.at z (by omega) (by simpa using hx) λa ks is nd ik ii=>nd.fI ?_;refine z.node λx2 h2' z=>?_;refine z.rdB (c:=ms) 3 (v:=b) (by unfold gt;rw[if_pos (by omega)];simpa using hb) hm ?_;rw[uv h2 (by omega)];cases b with
   |false=>
    rw[if_neg (by simp)] at hv;rw[if_neg (by simp)];have:=ih (i+1) N' out g R h2' L (by omega) (by omega) hv (by omega) z.drop
    rwa [G.len] at this
   |true=>
    rw[if_pos rfl] at hv;rw[if_pos rfl];cases hk:JO at' x.keys with
    |none=>rw[hk] at hv;cases hv
    |some kl=>
    cases hii:JO at' x.items with
    |none=>rw[hk,hii] at hv;cases hv
    |some il=>
    cases hr:kN at' (ms.drop (i+1)) (N.drop (i+1)) with
    |none=>rw[hk,hii,hr] at hv;cases hv
    |some N2=>
    rw[hk,hii,hr] at hv;have hv:=abi hv;refine z.ld 0 (o:=3) (l:=.sl) (x:=ks) ?_;refine z.ld 0 (o:=4) (l:=.sl) (x:=is) ?_;have zc:=z;have z:=Z.sy (pre:=[_,_,_]) z [1,2,0] (by simp only[OF,aa0];decide);unfold ub;rw[if_pos (by rfl)];refine yh (P:=λrr h'=>∃b,rr=arr b x.keys.length/\Z h0 h' (.ar b (kl.map vi) au::.ar c9 [aE (arr ba N.length)] aR::.ar ba (at'.map vi) au::.ar x2 [vi x.kind,.string x.text,.bool x.ord,aE ks,aE is] aw::.ar bm (ms.map .bool) uW::.ar po [aE out,vi r] aj::.ps out 5 aw ((R.map KR.r).flatMap bC.enc) g::(KO R++L))) ?_ ?_ λr1 h3 hr1=>?_
    .intro a' ha';simp only[aei,aaM,ael,or_false] at ha';subst ha';refine⟨_,_,zc.get 0 rfl,λr1 h3 hr1=>?_⟩;obtain⟨b,_,z⟩:=hr1;exact z.get 3 rfl
    .rw[ah];refine jX (c:=ak c9) rfl ?_;exact LN ha ik (by omega) hk (by omega) z
    obtain⟨kb,rfl,z⟩:=hr1;have z:=Z.sy (pre:=[_,_,_]) z [1,2,0] (by simp only[OF,aa0];decide);unfold uc;rw[if_pos (by rfl),ah,ah];refine jX (c:=ak c9) rfl ?_;refine (LN ha ii (by omega) hii (by omega) z).mono λr2 h4 hr2=>?_;obtain⟨ib,rfl,z⟩:=hr2;refine z.st 4 (cs:=[vi x.kind,.string x.text,.bool x.ord,aE ks,aE is]) (λh5 z=>z.st 4 (cs:=[vi x.kind,.string x.text,.bool x.ord,aE (arr kb x.keys.length),aE is]) (λh6 z=>?_));refine z.ld 6 (o:=0) (l:=.sl) (x:=out) ?_;refine z.fI 4 (ls:=[li,.str,.bool,.sl,.sl]) (x:=(x.kind,x.text,x.ord,arr kb x.keys.length,arr ib x.items.length)) ?_;have hps:wS h6 out 5 aw ((R.map KR.r).flatMap bC.enc) g:=z.get 7 rfl;have hol:out.len=R.length:=by
     have:=hps.1;rw[jW bC.oL,adq] at this;omega
    refine z.Q3 7 (new:=[vi x.kind,.string x.text,.bool x.ord,aE (arr kb x.keys.length),aE (arr ib x.items.length)]) rfl (by decide) rfl (by show out.len+1<=cK;unfold cK;omega) λout' h7 g' ho z _=>?_;refine z.st 6 λh8 z=>?_;have hkl:=uL hk;have hil:=uL hii
    let nw:KR:=⟨{ x with keys:=kl,items:=il },kb,ib⟩
    have henc:((R++[nw]).map KR.r).flatMap bC.enc=(R.map KR.r).flatMap bC.enc++[vi x.kind,.string x.text,.bool x.ord,aE (arr kb x.keys.length),aE (arr ib x.items.length)]:=by
     rw[afw,afQ]
     congr 1
     show bC.enc nw.r++[]=_;rw[adG];show [vi x.kind,.string x.text,.bool x.ord,aE (arr kb kl.length),aE (arr ib il.length)]=_;rw[hkl,hil]
    have z:=Z.sy (pre:=[_,_,_,_,_,_,_,_]) z [4,1,2,5,6,7,3,0] (by simp only[OF,aa0];decide);have z:=z.drop;have z:Z h0 h8 (KL po c9 ba bm out' r g' N.length at' ms (R++[nw])++(nw.own++(KO R++L))):=by
     unfold KL;rw[henc];exact z
    have z:Z h0 h8 (KL po c9 ba bm out' r g' N.length at' ms (R++[nw])++(KO (R++[nw])++L)):=by
     refine z.perm (afY _ ?_);unfold KO;rw[afQ,<-abp];refine agy _ ?_;show List.Perm (nw.own++R.flatMap KR.own) (R.flatMap KR.own++(nw.own++[]));rw[adG];exact aeW
    have:=ih (i+1) N2 out' g' (R++[nw]) h8 L (by omega) (by omega) hr (by simp;omega) z;rw[G.len] at this;refine this.mono λ_ h9 hx9=>?_;obtain⟨out2,g2,R2,e1,z⟩:=hx9;refine⟨out2,g2,R2,?_,z⟩;rw[e1,<-hv,afw,abp];rfl
  .rw[if_neg (by simp;omega),ag];have e1:N.drop i=[]:=aaS (by omega);rw[e1] at hv;have:N'=[]:=by
    cases hms:ms.drop i<;>(rw[hms,kN] at hv;cases hv;rfl)
   subst this;exact⟨out,g,R,by simp,z⟩
theorem YT {s:Sl}{root:Int}{N:List an}(z:Z h0 h L)(G:jI h0 s N){B:Nat}(hB:Bd N B){k n:Nat}(hk:k<=n)(hn:2*B+6<n){N':List an}{r:Int}(hv:kept k N root=some (N',r)) :
  Wp (wA n (s,root)) h λx h'=>∃out g R,x=(out,r)/\R.map KR.v=N'/\Z h0 h' (.ps out 5 aw ((R.map KR.r).flatMap bC.enc) g::(KO R++L)):=by
 have hNB:=hB.1;have hBB:=hB.2.1;unfold kept at hv;cases hvis:y8 k N root (List.replicate N.length false) with
 |none=>rw[hvis] at hv;cases hv
 |some ms=>
 rw[hvis] at hv;simp only at hv;cases hg:gt (ve ms 0) root with
 |none=>rw[hg] at hv;cases hv
 |some r1=>
 cases hN:kN (ve ms 0) ms N with
 |none=>rw[hg,hN] at hv;cases hv
 |some N1=>
 rw[hg,hN] at hv;simp only[aaM,aez] at hv;obtain⟨rfl,rfl⟩:=hv;have hms:ms.length=N.length:=by have:=(DY k N).1 _ _ _ hvis;simpa using this
 have hkl:(ve ms 0).length=N.length:=by rw[D3,hms]
 unfold wA;refine z.new λx0 h1 z _=>z.new λx1 h2 z _=>?_;refine z.ld 1 (o:=0) (l:=.sl) (x:=s) ?_;rw[G.len];refine z.Lh (by omega) (by unfold cK;omega) λbm h3 z _=>?_;rw[IS] at z⊢;rw[nR (enc:=Value.bool)] at z;refine z.fI 2 (ls:=[.sl,li]) (x:=(s,root)) ?_;refine z.ld 2 (o:=1) (l:=li) (x:=root) ?_;rw[ah];have hw:=Ah (cap:=N.length+1) z G hB hvis (n:=n) (root:=root) hk;rw[adf] at hw;refine hw.mono λ_ h4 z=>?_;refine z.ld 2 (o:=0) (l:=.sl) (x:=s) ?_;rw[G.len];refine z.Lh (by omega) (by unfold cK;omega) λba h5 z _=>?_;rw[IS] at z⊢;rw[nR (enc:=vi)] at z;refine z.new λc9 h6 z _=>z.st 0 λh7 z=>?_;rw[ah];refine (aeL (m:=N.length) hms (by omega) (ak x0) (ak x1) n 0 0 h7 _ (by omega) (by omega) (by omega) rfl z).mono λ_ h8 z=>?_;refine z.ld 0 (o:=0) (l:=.sl) (x:=arr ba N.length) ?_;refine z.ld 4 (o:=1) (l:=li) (x:=root) ?_;refine z.Gu (c:=ve ms 0) 1 hg hkl ?_;refine z.new λpo h9 z _=>z.st 0 λh10 z=>?_;refine z.ld 5 (o:=0) (l:=.sl) (x:=s) ?_;have z:=z.add (Fr.refl z.wf) (o:=.ps ⟨none,0,0⟩ 5 aw [] 0) wS.nil (.inl rfl);have z:=Z.sy (pre:=[_,_,_,_,_]) z [2,3,4,1,0] (by simp only[OF,aa0];decide);rw[ah];refine (YS G hB (po:=po) (c9:=c9) (ba:=ba) (bm:=bm) (r:=r1) hms hkl (ak x1) n 0 N1 ⟨none,0,0⟩ 0 [] h10 _ (by omega) (by omega) (by simpa using hN) (by simp) z).mono λ_ h11 hx=>?_;obtain⟨out,g,R,e,z⟩:=hx;refine z.fI 3 (ls:=[.sl,li]) (x:=(out,r1)) ?_;have z:=z.perm (L':=.ar x1 [aU,vi 0] aj::(KL po c9 ba bm out r1 g N.length (ve ms 0) ms R++KO R++.ar x0 [aE s,vi root] aj::L)) (by
  rw[<-abp];exact agc)
 refine z.st 0 λh12 z=>?_;refine z.fI 0 (ls:=[.sl,li]) (x:=(out,r1)) ?_;rw[ag];refine⟨out,g,R,rfl,by simpa using e,?_⟩;refine z.drop.sub ?_;show List.Sublist _ (_::_::_::_::_::(KO R++_::L));exact List.Sublist.cons _ (List.Sublist.cons _ (List.Sublist.cons _ (List.Sublist.cons _ (List.Sublist.cons₂ _ ((adB (KO R)).append (afk _ L))))))
theorem acH {out:Sl}{g:Nat}{R:List KR}(z:Z h0 h (.ps out 5 aw ((R.map KR.r).flatMap bC.enc) g::(KO R++L))):jI h out (R.map KR.v):=by
 have hps:wS h out 5 aw ((R.map KR.r).flatMap bC.enc) g:=z.get 0 rfl;refine⟨R.map KR.r,g,by rw[agr];rfl,hps.BB,λx hx=>?_⟩;obtain⟨y,hy,rfl⟩:=List.mem_map.1 hx;have hsub:∀o∈KR.own y,o.ok h:=λo ho=>(z.own o (AT _ (abQ _ (List.mem_flatMap.2 ⟨y,hy,ho⟩)))).1;have l1:LB h y.kb (y.v.keys.map vi) au:=hsub (.ar y.kb (y.v.keys.map vi) au) (by simp[KR.own]);have l2:LB h y.ib (y.v.items.map vi) au:=hsub (.ar y.ib (y.v.items.map vi) au) (by simp[KR.own]);exact⟨⟨_,l1.BB (by simp)⟩,⟨_,l2.BB (by simp)⟩⟩
theorem acI {s:Sl}{root node:Int}{N:List an}(z:Z h0 h L)(G:jI h0 s N){B:Nat}(hB:Bd N B)(ht:∀x∈N,x.text.size<=65536){k n:Nat}(hn:k+4*B+65600<n)(hc:mT k N root=some 0)(h1:0<=node)(h2:node<N.length)
  {N':List an} {r:Int} (hv:kept k N node=some (N',r)) :
  Wp (rq n (s,root) node) h λx h'=>∃out g R,x=((out,r),0)/\R.map KR.v=N'/\Z h0 h' (.ps out 5 aw ((R.map KR.r).flatMap bC.enc) g::(KO R++L)):=by
 unfold rq;refine z.new λx0 h1' z _=>z.new λx1 h2' z _=>?_;refine z.fI 1 (ls:=[.sl,li]) (x:=(s,root)) ?_;rw[ah];refine (vB z G hB ht hn hc).mono λy h3 hy=>?_;obtain⟨rfl,z⟩:=hy;rw[if_neg (by simp),if_neg (by simp;omega)];refine z.ld 1 (o:=0) (l:=.sl) (x:=s) ?_;rw[G.len,if_neg (by simp;omega)];refine z.ld 1 (o:=0) (l:=.sl) (x:=s) ?_;rw[ah];refine (YT z G hB (by omega) (by omega) hv).mono λy h4 hy=>?_;obtain⟨out,g,R,rfl,e,z⟩:=hy;have z:=z.perm (L':=.ar x1 [aU,vi 0] aj::(.ps out 5 aw ((R.map KR.r).flatMap bC.enc) g::KO R++.ar x0 [aE s,vi root] aj::L)) (by
  show List.Perm (_::KO R++_::(_::L)) _;exact agc)
 refine z.st 0 λh5 z=>?_;refine z.fI 0 (ls:=[.sl,li]) (x:=(out,r)) ?_;rw[ag];refine⟨out,g,R,rfl,e,z.drop.sub ?_⟩;exact List.Sublist.cons₂ _ ((adB (KO R)).append (afk _ L))
end
end Go.Sh
