
import Derived.Test.YtengdffgmpghgaaGreatDoorPab
set_option linter.all false
namespace Go.Sh
open Go Go.Ago Go.Proofs
section
variable {α β:Type}{h h' h0:ab}{L:List bA}{Q:β->ab->Prop}
mutual
def same:Nat->List ah->Int->Int->Option Bool
 |0,_,_,_=>none
 |k+1,N,i,j=>match gt N i,gt N j with
  |some x,some y=>
   if x.kind≠y.kind then some false
   else if mY x.text y.text=false then some false
   else if x.ord≠y.ord then some false
   else if x.items.length≠y.items.length then some false
   else if x.kind=10/\x.ord=false then A8 k N x y 0
   else xf k N x y 0
  |_,_=>none
def A8:Nat->List ah->ah->ah->Nat->Option Bool
 |0,_,_,_,_=>none
 |k+1,N,x,y,i=>match x.keys[i]? with
  |none=>some true
  |some kx=>match vt k N x y i kx 0 false with
   |none=>none
   |some false=>some false
   |some true=>A8 k N x y (i+1)
def vt:Nat->List ah->ah->ah->Nat->Int->Nat->Bool->Option Bool
 |0,_,_,_,_,_,_,_=>none
 |k+1,N,x,y,i,kx,j,b=>match y.keys[j]? with
  |none=>some b
  |some ky=>match b with
   |true=>vt k N x y i kx (j+1) true
   |false=>match same k N kx ky with
    |none=>none
    |some false=>vt k N x y i kx (j+1) false
    |some true=>match x.items[i]?,y.items[j]? with
     |some p,some q=>match same k N p q with
      |none=>none
      |some c=>vt k N x y i kx (j+1) c
     |_,_=>none
def xf:Nat->List ah->ah->ah->Nat->Option Bool
 |0,_,_,_,_=>none
 |k+1,N,x,y,i=>match x.items[i]? with
  |none=>some true
  |some p=>match y.items[i]? with
   |none=>none
   |some q=>
    if x.kind=10 then match x.keys[i]?,y.keys[i]? with
     |some kx,some ky=>match same k N kx ky with
      |none=>none
      |some false=>some false
      |some true=>match same k N p q with
       |none=>none
       |some false=>some false
       |some true=>xf k N x y (i+1)
     |_,_=>none
    else match same k N p q with
     |none=>none
     |some false=>some false
     |some true=>xf k N x y (i+1)
end
def SO (b8 b9 b0:Nat)(x y:ah)(kx ix ky iy s:Sl)(root:Int):List bA:=
 [.av b8 [vi x.kind,.string x.text,.bool x.ord,aM kx,aM ix] aW,.av b9 [vi y.kind,.string y.text,.bool y.ord,aM ky,aM iy] aW,.av b0 [aM s,vi root] ao]
structure S4 (h0:ab) (B:Nat) (x y:ah) (kx ix ky iy:Sl):Prop where
 kx:IL h0 kx x.keys
 ix:IL h0 ix x.items
 ky:IL h0 ky y.keys
 iy:IL h0 iy y.items
 b1:x.keys.length<=B
 b2:x.items.length<=B
 b3:y.keys.length<=B
 b4:y.items.length<=B
theorem aP {l:List α}{i:Nat}{x:α}(hx:l[i]?=some x):i<l.length:=(List.getElem?_eq_some_iff.1 hx).1
theorem DZ {l:List α}{i:Nat}(hx:l[i]?=none):l.length<=i:=List.getElem?_eq_none_iff.1 hx
theorem Ob {s:Sl}{root:Int}{N:List ah}(G:oj h0 s N){B:Nat}(hB:Bd N B) :
  ∀(k:Nat),(∀(n:Nat) (i j:Int) (r:Bool) (h:ab) (L:List bA),k<=n->same k N i j=some r->Z h0 h L->Wp (iP n (s,root) i j) h λx h'=>x=r/\Z h0 h' L) /\
   (∀(n i:Nat) (r:Bool) (x y:ah) (kx ix ky iy:Sl) (b8 b9 b0:Nat) (h:ab) (L:List bA),k<=n->A8 k N x y i=some r->S4 h0 B x y kx ix ky iy->i<=x.keys.length->Z h0 h (SO b8 b9 b0 x y kx ix ky iy s root++L) ->
    Wp (kQ n (ai b0) (ai b8) (ai b9) kx (kx.len:Int) (i:Int)) h λz h'=>z=(if r then .inl () else .inr false)/\Z h0 h' (SO b8 b9 b0 x y kx ix ky iy s root++L)) /\
   (∀(n i j:Nat) (v:Int) (b r:Bool) (x y:ah) (kx ix ky iy a6:Sl) (a7:Int) (b8 b9 b0:Nat) (h:ab) (L:List bA),k<=n->vt k N x y i v j b=some r->S4 h0 B x y kx ix ky iy->j<=y.keys.length->Z h0 h (SO b8 b9 b0 x y kx ix ky iy s root++L) ->
    Wp (hO n (ai b0) (ai b8) (ai b9) (i:Int) v b a6 a7 (i:Int) ky (ky.len:Int) (j:Int)) h λz h'=>z=r/\Z h0 h' (SO b8 b9 b0 x y kx ix ky iy s root++L)) /\
   (∀(n i:Nat) (r:Bool) (x y:ah) (kx ix ky iy:Sl) (b8 b9 b0:Nat) (h:ab) (L:List bA),k<=n->xf k N x y i=some r->S4 h0 B x y kx ix ky iy->i<=x.items.length->Z h0 h (SO b8 b9 b0 x y kx ix ky iy s root++L) ->
    Wp (gm n (ai b0) (ai b8) (ai b9) (ix.len:Int) (i:Int)) h λz h'=>z=(if r then .inl () else .inr false)/\Z h0 h' (SO b8 b9 b0 x y kx ix ky iy s root++L)):=by
 intro k
 induction k with
 |zero=>grind [same,A8,vt,xf]
 |succ k ih=>
  obtain⟨ih1,ih2,ih3,ih4⟩:=ih;refine⟨λn i j r h L hn hv z=>?_,λn i r x y kx ix ky iy b8 b9 b0 h L hn hv S hi z=>?_,λn i j v b r x y kx ix ky iy a6 a7 b8 b9 b0 h L hn hv S hj z=>?_,λn i r x y kx ix ky iy b8 b9 b0 h L hn hv S hi z=>?_⟩
  .obtain⟨n,rfl⟩:∃m,n=m+1:=⟨n-1,by omega⟩;rw[EY];unfold xR;rw[same] at hv;cases hx:gt N i with
   |none=>rw[hx] at hv;cases hv
   |some x=>
   cases hy:gt N j with
   |none=>rw[hx,hy] at hv;cases hv
   |some y=>
   rw[hx,hy] at hv;simp only at hv;obtain⟨x1,x2⟩:=ay hx;obtain⟨y1,y2⟩:=ay hy;refine z.new λb0 h1 z _=>?_;refine z.eU [10,11] (by decide) (by decide) λnb h2 z=>?_;refine z.ld 2 ?_;refine G.Yr z x1 x2 λa kx ix nx=>(nx.fr z.fr).fG ?_;refine z.ld 2 ?_;refine G.Yr z y1 y2 λa2 ky iy ny=>(ny.fr z.fr).fG ?_;refine z.newAt 0 λh3 z=>z.newAt 1 λh4 z=>?_;refine z.stC 0 ?_ λh5 z=>z.st 1 λh6 z=>?_
   .intro a' ha';simp only[aio,aai,aiQ,akr] at ha';rcases ha' with rfl|rfl
    .exact z.nbO 0 2 rfl rfl (by decide)
    .obtain⟨g,c⟩:=ny.cl;exact z.nb0 0 c rfl
   have z:Z h0 h6 (SO (nb+10) (nb+11) b0 x y kx ix ky iy s root++L):=z;have hbx:=hB.2.2 x (BY x2);have hby:=hB.2.2 y (BY y2);have S:S4 h0 B x y kx ix ky iy:=⟨nx.keys,nx.items,ny.keys,ny.items,hbx.1,hbx.2,hby.1,hby.2⟩;have dr:∀{h},Z h0 h (SO (nb+10) (nb+11) b0 x y kx ix ky iy s root++L)->Z h0 h L:=λz=>z.drop.drop.drop;refine z.ld 0 (x:=x.kind) ?_;refine z.ld 1 (x:=y.kind) ?_;by_cases e1:x.kind=y.kind
   case neg=>
    rw[By e1] at hv;cases hv;rw[By (by simpa using e1),af];exact⟨rfl,dr z⟩
   rw[AT (by simpa using e1)] at hv;rw[AT (by simpa using e1)];refine z.ld 0 (x:=x.text) ?_;refine z.ld 1 (x:=y.text) ?_;cases e2:mY x.text y.text with
   |false=>
    rw[By e2] at hv;cases hv;rw[By (by rfl),af];exact⟨rfl,dr z⟩
   |true=>
   rw[AT (by simp[e2])] at hv;rw[AT (by simp)];refine z.ld 0 (x:=x.ord) ?_;refine z.ld 1 (x:=y.ord) ?_;by_cases e3:x.ord=y.ord
   case neg=>
    rw[By e3] at hv;cases hv;rw[By (by simpa using e3),af];exact⟨rfl,dr z⟩
   rw[AT (by simpa using e3)] at hv;rw[AT (by simpa using e3)];refine z.ld 0 (x:=ix) ?_;refine z.ld 1 (x:=iy) ?_;rw[S.ix.len,S.iy.len];by_cases e4:x.items.length=y.items.length
   case neg=>
    rw[By e4] at hv;cases hv;rw[By (by simp;omega),af];exact⟨rfl,dr z⟩
   rw[AT (by simpa using e4)] at hv;rw[AT (by simp;omega)];unfold tG;have fin:∀{z:Unit⊕Bool} {h'} {g1:Unit->M Bool} {g2:Bool->M Bool},(z=(if r then .inl () else .inr false)/\Z h0 h' (SO (nb+10) (nb+11) b0 x y kx ix ky iy s root++L))->(g1=λ_=>AI true)->(g2=λx=>AI x) ->
     Wp (bu g1 g2 z) h' λx h'=>x=r/\Z h0 h' L:=by
    intro z h' g1 g2 hz e1 e2;obtain⟨rfl,z⟩:=hz;subst e1 e2;cases r with
    |true=>exact af.2 ⟨rfl,dr z⟩
    |false=>exact af.2 ⟨rfl,dr z⟩
   refine z.ld 0 (x:=x.kind) ?_;by_cases e5:x.kind=10
   .rw[By (by simpa using e5)];refine z.ld 0 (x:=x.ord) ?_;cases e6:x.ord with
    |false=>
     rw[By ⟨e5,e6⟩] at hv;rw[By (by rfl)];refine z.ld 0 (x:=kx) ?_;rw[ag];exact (ih2 n 0 r x y kx ix ky iy _ _ _ _ L (by omega) hv S (by omega) z).mono λ_ h' hz=>fin hz rfl rfl
    |true=>
     rw[AT (by simp[e6])] at hv;rw[AT (by simp)];refine z.ld 0 (x:=ix) ?_;rw[ag];exact (ih4 n 0 r x y kx ix ky iy _ _ _ _ L (by omega) hv S (by omega) z).mono λ_ h' hz=>fin hz rfl rfl
   .rw[AT (by simpa using e5)];rw[AT (λe=>e5 e.1)] at hv;refine z.ld 0 (x:=ix) ?_;rw[ag];exact (ih4 n 0 r x y kx ix ky iy _ _ _ _ L (by omega) hv S (by omega) z).mono λ_ h' hz=>fin hz rfl rfl
  .obtain⟨n,rfl⟩:∃m,n=m+1:=⟨n-1,by omega⟩;rw[Bw];unfold tE;rw[S.kx.len];rw[A8] at hv;cases hx:x.keys[i]? with
   |none=>
    rw[hx] at hv;cases hv;have:=DZ hx;rw[AT (by simp;omega),af];exact⟨rfl,z⟩
   |some v=>
    rw[hx] at hv;simp only at hv;have hlt:=aP hx;rw[By (by simp;omega)];refine (S.kx.fr z.fr).ix (by omega) (by simpa using hx) λa1 g c=>c.rz rfl rfl ?_;refine z.ld 1 (x:=ky) ?_;cases hf:vt k N x y i v 0 false with
    |none=>rw[hf] at hv;cases hv
    |some b=>
     rw[hf] at hv;rw[ag];refine (ih3 n i 0 v false b x y kx ix ky iy kx _ _ _ _ _ L (by omega) hf S (by omega) z).mono λb' h2 hz=>?_;obtain⟨rfl,z⟩:=hz;cases b' with
     |false=>
      cases hv;rw[By (by rfl),af];exact⟨rfl,z⟩
     |true=>
      rw[AT (by simp),rR hi (by have:=S.b1;have:=hB.2.1;omega)];have:=ih2 n (i+1) r x y kx ix ky iy _ _ _ _ L (by omega) hv S (by omega) z
      rwa [S.kx.len] at this
  .obtain⟨n,rfl⟩:∃m,n=m+1:=⟨n-1,by omega⟩;rw[Bv];unfold tD;rw[S.ky.len];rw[vt] at hv;cases hx:y.keys[j]? with
   |none=>
    rw[hx] at hv;cases hv;have:=DZ hx;rw[AT (by simp;omega),af];exact⟨rfl,z⟩
   |some w=>
    rw[hx] at hv;simp only at hv;have hlt:=aP hx;rw[By (by simp;omega)];refine (S.ky.fr z.fr).ix (by omega) (by simpa using hx) λa1 g c=>c.rz rfl rfl ?_;rw[rR hj (by have:=S.b3;have:=hB.2.1;omega)];cases b with
    |true=>
     simp only at hv;rw[By rfl];have:=ih3 n i (j+1) v true r x y kx ix ky iy a6 a7 _ _ _ _ L (by omega) hv S (by omega) z
     rwa [S.ky.len] at this
    |false=>
     simp only at hv;rw[AT (by simp)];refine z.fG 2 (ls:=[.sl,li]) (x:=(s,root)) ?_;cases hs:same k N v w with
     |none=>rw[hs] at hv;cases hv
     |some b1=>
      rw[hs] at hv;rw[ag];refine (ih1 n v w b1 h _ (by omega) hs z).mono λb' h2 hz=>?_;obtain⟨rfl,z⟩:=hz;cases b' with
      |false=>
       simp only at hv;rw[AT (by simp)];have:=ih3 n i (j+1) v false r x y kx ix ky iy a6 a7 _ _ _ _ L (by omega) hv S (by omega) z
       rwa [S.ky.len] at this
      |true=>
       simp only at hv;rw[By rfl];refine z.fG 2 (ls:=[.sl,li]) (x:=(s,root)) ?_;cases hp:x.items[i]? with
       |none=>rw[hp] at hv;cases hv
       |some p=>
       cases hq:y.items[j]? with
       |none=>rw[hp,hq] at hv;cases hv
       |some q=>
       rw[hp,hq] at hv;simp only at hv;refine z.ld 0 (x:=ix) ?_;refine (S.ix.fr z.fr).ix (by omega) (by simpa using hp) λa1 g c=>c.rz rfl rfl ?_;refine z.ld 1 (x:=iy) ?_;refine (S.iy.fr z.fr).ix (by omega) (by simpa using hq) λa1 g c=>c.rz rfl rfl ?_;cases hs2:same k N p q with
       |none=>rw[hs2] at hv;cases hv
       |some b2=>
        rw[hs2] at hv;simp only at hv;rw[ag];refine (ih1 n p q b2 _ _ (by omega) hs2 z).mono λb' h3 hz=>?_;obtain⟨rfl,z⟩:=hz;have:=ih3 n i (j+1) v b' r x y kx ix ky iy a6 a7 _ _ _ _ L (by omega) hv S (by omega) z
        rwa [S.ky.len] at this
  .obtain⟨n,rfl⟩:∃m,n=m+1:=⟨n-1,by omega⟩;rw[Bx];unfold tF;rw[S.ix.len];rw[xf] at hv;cases hp:x.items[i]? with
   |none=>
    rw[hp] at hv;cases hv;have:=DZ hp;rw[AT (by simp;omega),af];exact⟨rfl,z⟩
   |some p=>
   cases hq:y.items[i]? with
   |none=>rw[hp,hq] at hv;cases hv
   |some q=>
   rw[hp,hq] at hv;simp only at hv;have hlt:=aP hp;rw[By (by simp;omega)];rw[rR hi (by have:=S.b2;have:=hB.2.1;omega)];refine z.ld 0 (x:=x.kind) ?_;have nxt:∀{h},xf k N x y (i+1)=some r->Z h0 h (SO b8 b9 b0 x y kx ix ky iy s root++L)->Wp ((bE.at n).gm (ai b0) (ai b8) (ai b9) (x.items.length:Int) ((i+1:Nat):Int)) h λz h'=>z=(if r then .inl () else .inr false)/\Z h0 h' (SO b8 b9 b0 x y kx ix ky iy s root++L):=by
    intro h hv z;have:=ih4 n (i+1) r x y kx ix ky iy _ _ _ _ L (by omega) hv S (by omega) z
    rwa [S.ix.len] at this
   by_cases e5:x.kind=10
   .rw[By e5] at hv;rw[By (by simpa using e5)];cases hk:x.keys[i]? with
    |none=>rw[hk] at hv;cases hv
    |some v=>
    cases hk2:y.keys[i]? with
    |none=>rw[hk,hk2] at hv;cases hv
    |some w=>
    rw[hk,hk2] at hv;simp only at hv;refine z.fG 2 (ls:=[.sl,li]) (x:=(s,root)) ?_;refine z.ld 0 (x:=kx) ?_;refine (S.kx.fr z.fr).ix (by omega) (by simpa using hk) λa1 g c=>c.rz rfl rfl ?_;refine z.ld 1 (x:=ky) ?_;refine (S.ky.fr z.fr).ix (by omega) (by simpa using hk2) λa1 g c=>c.rz rfl rfl ?_;cases hs:same k N v w with
    |none=>rw[hs] at hv;cases hv
    |some b1=>
    rw[hs] at hv;rw[ag];refine (ih1 n v w b1 h _ (by omega) hs z).mono λb' h2 hz=>?_;obtain⟨rfl,z⟩:=hz;cases b' with
    |false=>
     cases hv;rw[By (by rfl),af];exact⟨rfl,z⟩
    |true=>
     simp only at hv;rw[AT (by simp)];refine z.fG 2 (ls:=[.sl,li]) (x:=(s,root)) ?_;refine z.ld 0 (x:=ix) ?_;refine (S.ix.fr z.fr).ix (by omega) (by simpa using hp) λa1 g c=>c.rz rfl rfl ?_;refine z.ld 1 (x:=iy) ?_;refine (S.iy.fr z.fr).ix (by omega) (by simpa using hq) λa1 g c=>c.rz rfl rfl ?_;cases hs2:same k N p q with
     |none=>rw[hs2] at hv;cases hv
     |some b2=>
     rw[hs2] at hv;rw[ag];refine (ih1 n p q b2 _ _ (by omega) hs2 z).mono λb' h3 hz=>?_;obtain⟨rfl,z⟩:=hz;cases b' with
     |false=>
      cases hv;rw[By (by rfl),af];exact⟨rfl,z⟩
     |true=>
      simp only at hv;rw[AT (by simp)];exact nxt hv z
   .rw[AT e5] at hv;rw[AT (by simpa using e5)];refine z.fG 2 (ls:=[.sl,li]) (x:=(s,root)) ?_;refine z.ld 0 (x:=ix) ?_;refine (S.ix.fr z.fr).ix (by omega) (by simpa using hp) λa1 g c=>c.rz rfl rfl ?_;refine z.ld 1 (x:=iy) ?_;refine (S.iy.fr z.fr).ix (by omega) (by simpa using hq) λa1 g c=>c.rz rfl rfl ?_;cases hs2:same k N p q with
    |none=>rw[hs2] at hv;cases hv
    |some b2=>
    rw[hs2] at hv;rw[ag];refine (ih1 n p q b2 _ _ (by omega) hs2 z).mono λb' h3 hz=>?_;obtain⟨rfl,z⟩:=hz;cases b' with
    |false=>
     cases hv;rw[By (by rfl),af];exact⟨rfl,z⟩
    |true=>
     simp only at hv;rw[AT (by simp)];exact nxt hv z
theorem acj {s:Sl}{root:Int}{N:List ah}(z:Z h0 h L)(G:oj h0 s N){B:Nat}(hB:Bd N B){k n:Nat}{i j:Int}{r:Bool}(hn:k<=n)(hv:same k N i j=some r):Wp (iP n (s,root) i j) h λx h'=>x=r/\Z h0 h' L:=
 (Ob G hB k).1 n i j r h L hn hv z
end
section
variable {α β:Type}{h h' h0:ab}{L:List bA}{Q:β->ab->Prop}
def isKey (N:List ah)(k:Int)(t:ζ)(y:Int):Bool:=match gt N y with
 |some n=>decide (k=n.kind)&&mY t n.text
 |none=>false
def YX (k:Nat)(N:List ah)(x:Int):ε->Option Bool
 |[]=>some false
 |y::ys=>match same k N x y with
  |none=>none
  |some true=>some true
  |some false=>YX k N x ys
def V5 (k:Nat)(N:List ah):ε->ε->Option Bool
 |_,[]=>some false
 |met,x::xs=>match gt N x with
  |none=>none
  |some n=>match YX k N x (met.filter (isKey N n.kind n.text)) with
   |none=>none
   |some true=>some true
   |some false=>V5 k N (met++[x]) xs
def twN (k:Nat)(N:List ah):List ah->Option Bool
 |[]=>some false
 |x::xs=>match V5 k N [] x.keys with
  |none=>none
  |some true=>some true
  |some false=>twN k N xs
structure D1 where
 kind:Int
 text:ζ
 s:Sl
 g:Nat
 xs:ε
def D1.own (e:D1):bA:=.ps e.s 1 ar (e.xs.map vi) e.g
def zS (k:Int)(t:ζ):ξ:=Value.agg #[vi k,Value.string t]
theorem F1 (k k':Int)(t t':ζ):y5 (zS k t) (zS k' t')=(decide (k=k')&&mY t t'):=by
 show Ap [vi k,Value.string t] [vi k',Value.string t']=_;unfold Ap Ap Ap;show (((OT .i64 .i64&&decide (k=k')))&&(mY t t'&&true))=_;rw[show OT .i64 .i64=true from rfl];simp
theorem F4 (a:ζ):mY a a=true:=(abI a a).2 rfl
def lk:List D1->Int->ζ->Option (Nat×D1)
 |[],_,_=>none
 |e::r,k,t=>if (decide (k=e.kind)&&mY t e.text)=true then some (0,e) else (lk r k t).map λp=>(p.1+1,p.2)
theorem SE:∀{E:List D1} {k:Int} {t:ζ} {i:Nat} {e:D1},lk E k t=some (i,e)->E[i]?=some e/\k=e.kind/\t=e.text
 |[],k,t,i,e,hl=>by cases hl
 |x::r,k,t,i,e,hl=>by
  rw[lk] at hl;split at hl
  .rename_i hc;cases hl;simp at hc;exact⟨rfl,hc.1,kM hc.2⟩
  .cases hr:lk r k t with
   |none=>rw[hr] at hl;cases hl
   |some p=>
    rw[hr] at hl;cases hl;have:=SE (i:=p.1) (e:=p.2) hr;exact⟨by simpa using this.1,this.2⟩
theorem YY:∀{E:List D1} {k:Int} {t:ζ} {i:Nat} {e e':D1},lk E k t=some (i,e)->e'.kind=k->e'.text=t->∀k' t',lk (E.set i e') k' t'=if (decide (k'=k)&&mY t' t)=true then some (i,e') else lk E k' t'
 |[],k,t,i,e,e',hl,_,_=>by cases hl
 |x::r,k,t,i,e,e',hl,h1,h2=>by
  intro k' t';rw[lk] at hl;split at hl
  .rename_i hc;cases hl;simp at hc;rw[ahV,lk,h1,h2];split
   .rfl
   .rename_i hn;rw[lk,AT];rw[<-hc.1,<-kM hc.2];exact hn
  .rename_i hc;cases hr:lk r k t with
   |none=>rw[hr] at hl;cases hl
   |some p=>
    rw[hr] at hl;cases hl;rw[ai6,lk,YY (i:=p.1) (e:=p.2) hr h1 h2 k' t',lk];by_cases hx:(decide (k'=x.kind)&&mY t' x.text)=true
    .rw[By hx,By hx,AT]
     grind [kM]
    .rw[AT hx,AT hx];split<;>rfl
structure YZ (N:List ah) (E:List D1) (met:ε) (f:ξ->Option ξ):Prop where
 f:∀k t,f (zS k t)=(lk E k t).map λp=>aM p.2.s
 nn:∀k t,lk E k t=none->met.filter (isKey N k t)=[]
 ss:∀k t i e,lk E k t=some (i,e)->e.xs=met.filter (isKey N k t)
theorem YZ.nil (N:List ah):YZ N [] [] λ_=>none:=⟨λ_ _=>rfl,λ_ _ _=>rfl,λ_ _ _ _ hl=>by cases hl⟩
theorem yh {N:List ah}{met:ε}{x:Int}{n:ah}(hn:gt N x=some n)(k:Int)(t:ζ) :
  (met++[x]).filter (isKey N k t)=met.filter (isKey N k t)++if (decide (k=n.kind)&&mY t n.text)=true then [x] else []:=by
 grind [isKey,isKey]
theorem YZ.sW {N:List ah}{E:List D1}{met:ε}{f:ξ->Option ξ}(I:YZ N E met f){x:Int}{n:ah}(hn:gt N x=some n){i:Nat}{e:D1}(hl:lk E n.kind n.text=some (i,e))(s:Sl)(g:Nat) :
  YZ N (E.set i ⟨n.kind,n.text,s,g,e.xs++[x]⟩) (met++[x]) (yE f (zS n.kind n.text) (aM s)):=by
 have hs:=YY (e':=⟨n.kind,n.text,s,g,e.xs++[x]⟩) hl rfl rfl;refine⟨λk t=>?_,λk t h1=>?_,λk t j e2 h1=>?_⟩
 .rw[hs,yE,F1];split
  .rename_i hc;rfl
  .rename_i hc;exact I.f k t
 .rw[hs] at h1;rw[yh hn];split at h1
  .cases h1
  .rename_i hc;rw[AT hc,I.nn k t h1];rfl
 .rw[hs] at h1;rw[yh hn];split at h1
  .rename_i hc;cases h1;rw[By hc];simp at hc;rw[hc.1,kM hc.2,<-I.ss _ _ _ _ hl]
  .rename_i hc;rw[AT hc,afw,<-I.ss _ _ _ _ h1]
theorem YZ.add {N:List ah}{E:List D1}{met:ε}{f:ξ->Option ξ}(I:YZ N E met f){x:Int}{n:ah}(hn:gt N x=some n)(hl:lk E n.kind n.text=none)(s:Sl)(g:Nat)(f':ξ->Option ξ)
  (hf:∀k t,f' (zS k t)=if (decide (k=n.kind)&&mY t n.text)=true then some (aM s) else f (zS k t)) :
  YZ N (⟨n.kind,n.text,s,g,[x]⟩::E) (met++[x]) f':=by
 refine⟨λk t=>?_,λk t h1=>?_,λk t j e2 h1=>?_⟩
 .rw[hf,lk];split
  .rfl
  .rw[I.f,Option.map_map];rfl
 .rw[lk] at h1;rw[yh hn];split at h1
  .cases h1
  .rename_i hc;simp only[akS] at h1;rw[AT hc,I.nn k t h1];rfl
 .rw[lk] at h1;rw[yh hn];split at h1
  .rename_i hc;cases h1;rw[By hc];simp at hc;rw[hc.1,kM hc.2,I.nn _ _ hl];rfl
  .rename_i hc;cases hr:lk E k t with
   |none=>rw[hr] at h1;cases h1
   |some p=>
    rw[hr] at h1;cases h1;rw[AT hc,afw,<-I.ss k t p.1 p.2 hr]
theorem aeM {s:Sl}{root:Int}{N:List ah}(G:oj h0 s N){B:Nat}(hB:Bd N B){k:Nat}{x:Int}{sl:Sl}{ys:ε}(hl:ys.length<=B){o1:bA}{b0:Nat}(a1:μ)(a3:Addr)(a4:Sl)(a5 a6:Int)(a7:Sl)(a8 a9:Int)
  (hr:∀h',Z h0 h' (o1::.av b0 [aM s,vi root] ao::L)->IL h' sl ys) (hsl:sl.len=ys.length) :
  ∀(n i:Nat) (r:Bool) (h:ab),k+(ys.length-i)<n->i<=ys.length->YX k N x (ys.drop i)=some r->Z h0 h (o1::.av b0 [aM s,vi root] ao::L) ->
   Wp (lE n (ai b0) a1 x a3 a4 a5 a6 a7 a8 a9 sl (sl.len:Int) (i:Int)) h λz h'=>z=(if r then .inr true else .inl ())/\Z h0 h' (o1::.av b0 [aM s,vi root] ao::L):=by
 intro n
 induction n with
 |zero=>intro i r h h1;omega
 |succ n ih=>
  intro i r h h1 h2 hv z;rw[Ay];unfold rZ;rw[hsl];by_cases hi:i<ys.length
  .rw[By (by simp;omega)];obtain⟨y,hy⟩:=dS hi;rw[drop_cons hy,YX] at hv;refine (hr h z).ix (by omega) (by simpa using hy) λa g c=>c.rz rfl rfl ?_;refine z.fG 1 (ls:=[.sl,li]) (x:=(s,root)) ?_;cases hs:same k N x y with
   |none=>rw[hs] at hv;cases hv
   |some b=>
    rw[hs] at hv;rw[ag];refine (acj z G hB (by omega) hs).mono λb' h3 hz=>?_;obtain⟨rfl,z⟩:=hz;cases b' with
    |true=>cases hv;rw[By rfl,af];exact⟨rfl,z⟩
    |false=>
     rw[AT (by simp),rR h2 (by have:=hB.2.1;omega)];have:=ih (i+1) r h3 (by omega) (by omega) hv z
     rwa [hsl] at this
  .rw[AT (by simp;omega),af];have:ys.drop i=[]:=aaf (by omega);rw[this] at hv;cases hv;exact⟨rfl,z⟩
theorem filter_le {N:List ah}{met:ε}(k:Int)(t:ζ):(met.filter (isKey N k t)).length<=met.length:=List.length_filter_le _ _
theorem aiV {s:Sl}{root:Int}{N:List ah}(G:oj h0 s N){B:Nat}(hB:Bd N B){k:Nat}{sl:Sl}{xs:ε}(il:IL h0 sl xs)(hl:xs.length<=B){b0 m:Nat}(a2:Sl)(a3 a4:Int) :
  ∀(n i:Nat) (r:Bool) (h:ab) (E:List D1) (met:ε) (f:ξ->Option ξ) (c:Nat),k+B+(xs.length-i)+2<n->i<=xs.length->met.length=i->V5 k N met (xs.drop i)=some r->YZ N E met f ->
   Z h0 h (.av b0 [aM s,vi root] ao::.map m aA f c::(E.map D1.own++L)) ->
   Wp (jG n (ai b0) (some m) a2 a3 a4 sl (sl.len:Int) (i:Int)) h λz h'=>z=(if r then .inr true else .inl ())/\Z h0 h' (.av b0 [aM s,vi root] ao::L):=by
 have hbig:B<=cT:=by have:=hB.2.1;unfold cT;omega
 have fin:∀{h:ab} {E:List D1} {f:ξ->Option ξ} {c:Nat},Z h0 h (.av b0 [aM s,vi root] ao::.map m aA f c::(E.map D1.own++L))->Z h0 h (.av b0 [aM s,vi root] ao::L):=λz=>
  z.sub ((List.Sublist.cons _ (ag9 _ _)).cons₂ _)
 intro n
 induction n with
 |zero=>intro i r h E met f c h1;omega
 |succ n ih=>
  intro i r h E met f c h1 h2 hm hv I z;rw[Az];unfold r7;rw[il.len];by_cases hi:i<xs.length
  .rw[By (by simp;omega)];obtain⟨x,hx⟩:=dS hi;rw[drop_cons hx,V5] at hv;cases hn:gt N x with
   |none=>rw[hn] at hv;cases hv
   |some nx=>
   rw[hn] at hv;simp only at hv;obtain⟨x1,x2⟩:=ay hn;refine (il.fr z.fr).ix (by omega) (by simpa using hx) λa g cl=>cl.rz (l:=li) rfl rfl ?_;refine z.eU [13] (by decide) (by decide) λnb h3 z=>?_;refine z.ld 1 (o:=0) (l:=.sl) ?_;refine G.at z x1 x2 λa1 k1 i1 n1 _ _=>n1.NT ?_;refine z.ld 1 (o:=0) (l:=.sl) ?_;refine G.at z x1 x2 λa2' k2 i2 n2 _ _=>n2.HS ?_;refine z.newAt 0 λh4 z=>z.st 0 λh5 z=>?_;refine z.fG 0 (ls:=[li,.str]) (x:=(nx.kind,nx.text)) ?_;have z:Z h0 h5 (.av (nb+13) [vi nx.kind,.string nx.text] aA::.av b0 [aM s,vi root] ao::.map m aA f c::(E.map D1.own++L)):=z;have hfk:f (zS nx.kind nx.text)=(lk E nx.kind nx.text).map λp=>aM p.2.s:=I.f _ _;have hst:∀{E':List D1} {f':ξ->Option ξ} {c':Nat} {h':ab},Z h0 h' (.av (nb+13) [vi nx.kind,.string nx.text] aA::.av b0 [aM s,vi root] ao::.map m aA f' c'::(E'.map D1.own++L))->YZ N E' (met++[x]) f'->V5 k N (met++[x]) (xs.drop (i+1))=some r ->
     Wp (jG n (ai b0) (some m) a2 a3 a4 sl (xs.length:Int) (IntKind.i64.wrap ((i:Int)+1))) h' λz h'=>z=(if r then .inr true else .inl ())/\Z h0 h' (.av b0 [aM s,vi root] ao::L):=by
    intro E' f' c' h' z I hv;rw[rR h2 (by have:=hB.2.1;omega)];have:=ih (i+1) r h' E' (met++[x]) f' c' (by omega) (by omega) (by simp[hm]) hv I z.drop
    rwa [il.len] at this
   cases hlk:lk E nx.kind nx.text with
   |none=>
    rw[hlk] at hfk;have hnil:=I.nn _ _ hlk;rw[hnil,YX] at hv;simp only at hv;refine z.kZ 2 (k:=zS nx.kind nx.text) rfl (λv hv2=>by rw[hfk] at hv2;cases hv2) λ_=>?_;have hw:=aeM (L:=.map m aA f c::(E.map D1.own++L)) (root:=root) G hB (k:=k) (x:=x) (sl:=uV) (ys:=[]) (o1:=.av (nb+13) [vi nx.kind,.string nx.text] aA) (b0:=b0) (by simp) (some m) (ai (nb+13)) a2 a3 a4 sl (xs.length:Int) (i:Int) (λh' _=>⟨0,rO.nil rfl⟩) rfl n 0 false h5 (by simp;omega) (by simp) rfl z;rw[ag];refine hw.mono λy h6 hy=>?_;obtain⟨rfl,z⟩:=hy;show Wp (sh _ _) h6 _;refine z.fG 0 (ls:=[li,.str]) (x:=(nx.kind,nx.text)) ?_;refine z.W4 2 (k:=zS nx.kind nx.text) rfl (by rw[F1];simp[F4]) (λv hv2=>by rw[hfk] at hv2;cases hv2) λ_ h7 st z hs=>?_;have z:=z.add (Fr.refl z.wf) (o:=.ps ⟨none,0,0⟩ 1 ar [] 0) yq.nil (.inl rfl);refine z.TO 0 (new:=[vi x]) rfl (by decide) rfl (by show 0+1<=cT;decide) λs' h8 g' hs' z fr=>?_;have hs:=hs.fr fr (by simp);have z:Z h0 h8 (.ps s' 1 ar [vi x] g'::.av (nb+13) [vi nx.kind,.string nx.text] aA::.av b0 [aM s,vi root] ao::.map m aA (yE f (zS nx.kind nx.text) (Ec (Ty.one .sl) uV)) (c+1)::(E.map D1.own++L)):=z;refine z.W5 3 rfl hs λh9 z=>?_;have z:Z h0 h9 (.ps s' 1 ar [vi x] g'::.av (nb+13) [vi nx.kind,.string nx.text] aA::.av b0 [aM s,vi root] ao::.map m aA (yE (yE f (zS nx.kind nx.text) (Ec (Ty.one .sl) uV)) (zS nx.kind nx.text) (aM s')) (c+1)::(E.map D1.own++L)):=z;have z:=z.perm (L':=.av (nb+13) [vi nx.kind,.string nx.text] aA::.av b0 [aM s,vi root] ao::.map m aA (yE (yE f (zS nx.kind nx.text) (Ec (Ty.one .sl) uV)) (zS nx.kind nx.text) (aM s')) (c+1)::.ps s' 1 ar [vi x] g'::(E.map D1.own++L)) (aip (l₁:=[_,_,_])).symm;refine hst (E':=⟨nx.kind,nx.text,s',g',[x]⟩::E) z (I.add hn hlk s' g' _ λk' t'=>?_) hv;unfold yE;rw[F1];split<;>rfl
   |some p=>
    obtain⟨j,e⟩:=p;rw[hlk] at hfk;obtain⟨e1,e2,e3⟩:=SE hlk;have hxs:=I.ss _ _ _ _ hlk;have hjlt:=aP e1;rw[<-hxs] at hv;have hown:∀{f':ξ->Option ξ} {c':Nat},(.av (nb+13) [vi nx.kind,.string nx.text] aA::.av b0 [aM s,vi root] ao::.map m aA f' c'::(E.map D1.own++L):List bA)[j+3]?=some (.ps e.s 1 ar (e.xs.map vi) e.g):=by
     intro f' c';simp only[ahM];rw[ag0 (by simpa using hjlt),aal,e1];rfl
    have hlen:e.s.len=e.xs.length:=(yq.Fi (z.get (j+3) hown)).GQ;have hle:e.xs.length<=i:=(by rw[hxs,<-hm];exact filter_le _ _);refine z.kZ 2 (k:=zS nx.kind nx.text) rfl (λv hv2=>?_) λhv2=>(by rw[hfk] at hv2;cases hv2);rw[hfk] at hv2;cases hv2;refine⟨e.s,rfl,?_⟩;cases hc:YX k N x e.xs with
    |none=>rw[hc] at hv;cases hv
    |some b=>
    rw[hc] at hv;have hw:=aeM (L:=.map m aA f c::(E.map D1.own++L)) (root:=root) G hB (k:=k) (x:=x) (sl:=e.s) (ys:=e.xs) (o1:=.av (nb+13) [vi nx.kind,.string nx.text] aA) (b0:=b0) (by omega) (some m) (ai (nb+13)) a2 a3 a4 sl (xs.length:Int) (i:Int) (λh' z=>⟨_,yq.Fi (z.get (j+3) hown)⟩) hlen n 0 b h5 (by omega) (by omega) hc z;rw[ag];refine hw.mono λy h6 hy=>?_;obtain⟨rfl,z⟩:=hy;cases b with
    |true=>
     cases hv;exact af.2 ⟨rfl,fin z.drop⟩
    |false=>
     simp only at hv;show Wp (sh _ _) h6 _;refine z.fG 0 (ls:=[li,.str]) (x:=(nx.kind,nx.text)) ?_;refine z.W4 2 (k:=zS nx.kind nx.text) rfl (by rw[F1];simp[F4]) (λv hv2=>?_) λhv2=>(by rw[hfk] at hv2;cases hv2);rw[hfk] at hv2;cases hv2;refine⟨e.s,rfl,λst hs=>?_⟩;have hne:e.g≠m+1:=z.ne 2 (j+3) (o:=.map m aA f c) rfl hown (by omega) (by simp[bA.eJ]);refine z.TO (j+3) (new:=[vi x]) hown (by decide) rfl (by show e.s.len+1<=cT;omega) λs' h8 g' hs' z fr=>?_;have hs:=hs.fr fr (λe=>hne e.symm);refine z.W5 2 (k:=zS nx.kind nx.text) (m:=m) (fn:=f) (n:=c) (kt:=aA) rfl hs λh9 z=>?_;refine hst (c':=c) (E':=E.set j ⟨nx.kind,nx.text,s',g',e.xs++[x]⟩) (z.perm ?_) (I.sW hn hlk s' g') hv;refine akP ?_;show bA.av (nb+13) _ _::bA.av b0 _ _::bA.map m _ _ _::((E.map D1.own++L).set j _)=_;rw[akm _ _ (by simpa using hjlt),ajV]
     congr 4
     simp[D1.own]
  .rw[AT (by simp;omega),af];have:xs.drop i=[]:=aaf (by omega);rw[this] at hv;rw[V5] at hv;cases hv;exact⟨rfl,fin z⟩
theorem aiW {s:Sl}{root:Int}{N:List ah}(G:oj h0 s N){B:Nat}(hB:Bd N B){k b0:Nat} :
  ∀(n i:Nat) (r:Bool) (h:ab) (L:List bA),k+(N.length-i)+2*B+7<n->i<=N.length->twN k N (N.drop i)=some r->Z h0 h (.av b0 [aM s,vi root] ao::L) ->
   Wp (jH n (ai b0) s (s.len:Int) (i:Int)) h λz h'=>z=(if r then .inr true else .inl ())/\Z h0 h' L:=by
 intro n
 induction n with
 |zero=>intro i r h L h1;omega
 |succ n ih=>
  intro i r h L h1 h2 hv z;rw[AA];unfold r8;rw[G.len];by_cases hi:i<N.length
  .rw[By (by simp;omega)];obtain⟨x,hx⟩:=dS hi;rw[drop_cons hx,twN] at hv;have hbd:=hB.2.2 x (BY hx);refine G.at z (by omega) (by simpa using hx) λa ks is nd ik ii=>nd.fG ?_;refine z.node λx2 h2' z=>?_;refine z.aih λm h3 z=>?_;refine z.ld 1 (x:=ks) ?_;cases hk:V5 k N [] x.keys with
   |none=>rw[hk] at hv;cases hv
   |some b=>
    rw[hk] at hv;have z:=z.perm (L':=.av b0 [aM s,vi root] ao::.map m aA (λ_=>none) 0::([]++(.av x2 [vi x.kind,.string x.text,.bool x.ord,aM ks,aM is] aW::L))) ((aip (l₁:=[_,_])).trans (ak0 _));rw[ag];refine (aiV (k:=k) G hB ik hbd.1 s (N.length:Int) (i:Int) n 0 b h3 [] [] _ 0 (by omega) (by omega) rfl (by simpa using hk) (YZ.nil N) z).mono λy h4 hy=>?_;obtain⟨rfl,z⟩:=hy;have z:=(z.perm (List.Perm.swap _ _ _)).drop;cases b with
    |true=>cases hv;exact af.2 ⟨rfl,z.drop⟩
    |false=>
     simp only at hv;show Wp (jH n _ _ _ _) h4 _;rw[rR h2 (by have:=hB.1;have:=hB.2.1;omega)];have:=ih (i+1) r h4 L (by omega) (by omega) hv z
     rwa [G.len] at this
  .rw[AT (by simp;omega),af];have:N.drop i=[]:=aaf (by omega);rw[this] at hv;cases hv;exact⟨rfl,z.drop⟩
theorem Y0 {s:Sl}{root:Int}{N:List ah}(z:Z h0 h L)(G:oj h0 s N){B:Nat}(hB:Bd N B){k n:Nat}(hn:k+3*B+8<n){r:Bool}(hr:twN k N N=some r) :
  Wp (vN n (s,root)) h λx h'=>x=r/\Z h0 h' L:=by
 unfold vN;refine z.new λx0 h1 z _=>?_;refine z.ld 0 ?_;rw[ag];refine (aiW G hB (k:=k) n 0 r h1 L (by have:=hB.1;omega) (by omega) (by simpa using hr) z).mono λy h2 hy=>?_;obtain⟨rfl,z⟩:=hy;cases r with
 |true=>exact af.2 ⟨rfl,z⟩
 |false=>exact af.2 ⟨rfl,z⟩
end
section
variable {α β:Type}{h h' h0:ab}{L:List bA}{Q:β->ab->Prop}
structure TS where
 next:Int
 ix:ε
 lo:ε
 nn:ε
 on:List Bool
 gk:ε
 eG:ε
def mn (a b:Int):Int:=if b<a then b else a
def Hm (a:Int)(st:TS):Option TS:=
 if st.gk.length+1<=cT/\st.eG.length+1<=cT/\(gt st.ix a).isSome/\(gt st.lo a).isSome/\(gt st.on a).isSome then
  let nx:=IntKind.i64.wrap (st.next+1)
  some { st with next:=nx,ix:=st.ix.set a.toNat nx,lo:=st.lo.set a.toNat nx,gk:=st.gk++[a],on:=st.on.set a.toNat true }
 else none
def Ir (a v:Int)(st:TS):Option TS:=match gt st.lo a with
 |none=>none
 |some w=>some { st with lo:=st.lo.set a.toNat (mn w v) }
def tp:Nat->Int->TS->Int->Option (TS×Int)
 |0,_,_,_=>none
 |k+1,a,st,n=>match st.gk.getLast? with
  |none=>none
  |some x=>
   if (gt st.on x).isSome/\(gt st.nn x).isSome/\st.gk.length<=cT then
    let st1:={ st with gk:=st.gk.dropLast,on:=st.on.set x.toNat false,nn:=st.nn.set x.toNat (st.eG.length:Int) }
    if x=a then some (st1,IntKind.i64.wrap (n+1)) else tp k a st1 (IntKind.i64.wrap (n+1))
   else none
mutual
def tv:Nat->List ah->Int->TS->Option TS
 |0,_,_,_=>none
 |k+1,N,a,st=>match Hm a st with
  |none=>none
  |some st1=>match gt N a with
   |none=>none
   |some x=>match tl k N a x.keys st1 with
    |none=>none
    |some Ai=>match tl k N a x.items Ai with
     |none=>none
     |some st3=>match gt st3.lo a,gt st3.ix a with
      |some l,some i=>
       if l≠i then some st3 else match tp k a st3 0 with
        |none=>none
        |some (st4,n)=>if st4.eG.length+1<=cT then some { st4 with eG:=st4.eG++[n] } else none
      |_,_=>none
def tl:Nat->List ah->Int->ε->TS->Option TS
 |0,_,_,_,_=>none
 |_+1,_,_,[],st=>some st
 |k+1,N,a,x::xs,st=>match ts k N a x st with
  |none=>none
  |some st1=>tl k N a xs st1
def ts:Nat->List ah->Int->Int->TS->Option TS
 |0,_,_,_,_=>none
 |k+1,N,a,x,st=>match gt st.ix x with
  |none=>none
  |some i=>
   if i=0 then match tv k N x st with
    |none=>none
    |some st1=>match gt st1.lo x with
     |none=>none
     |some l=>Ir a l st1
   else match gt st.on x with
    |none=>none
    |some false=>some st
    |some true=>Ir a i st
end
structure TC where
 c1:Nat
 c2:Nat
 c3:Nat
 c4:Nat
 c5:Nat
 c6:Nat
 c7:Nat
 c8:Nat
 c9:Nat
 bi:Nat
 bl:Nat
 bn:Nat
 bo:Nat
def pv (b:Nat):ξ:=Value.pointer (some (ai b))
def fnC (C:TC):ξ:=Value.func (Fn.func kA) #[] #[pv C.c1,pv C.c2,pv C.c3,pv C.c4,pv C.c5,pv C.c6,pv C.c7,pv C.c8,pv C.c9]
def fnS (C:TC)(b:Nat):ξ:=Value.func (Fn.func jg) #[] #[pv C.c2,pv C.c6,pv C.c3,pv b,pv C.c5]
def arr (b m:Nat):Sl:=⟨some ⟨b,0,none⟩,m,m+1⟩
def TL (C : TC) (m : Nat) (s : Sl) (root : Int) (st : TS) (s1 s2 : Sl) (g1 g2 : Nat) : List bA:=
  [.av C.c1 [vi st.next] ar, .av C.c2 [aM (arr C.bi m)] bt, .av C.c3 [aM (arr C.bl m)] bt, .av C.c4 [aM s1] bt, .av C.c5 [aM (arr C.bo m)] uH, .av C.c6 [fnC C] rV,
   .av C.c7 [aM s, vi root] ao, .av C.c8 [aM s2] bt, .av C.c9 [aM (arr C.bn m)] bt,
   .av C.bi (st.ix.map vi) ar, .av C.bl (st.lo.map vi) ar, .av C.bn (st.nn.map vi) ar, .av C.bo (st.on.map .bool) nV,
   .ps s1 1 ar (st.gk.map vi) g1, .ps s2 1 ar (st.eG.map vi) g2]
structure RE (m:Nat) (st:TS):Prop where
 ix:st.ix.length=m
 lo:st.lo.length=m
 nn:st.nn.length=m
 on:st.on.length=m
def TZ (C:TC)(m:Nat)(s:Sl)(root:Int)(h0 h:ab)(st:TS)(E:List bA):Prop:=
 RE m st/\∃s1 s2 g1 g2,Z h0 h (TL C m s root st s1 s2 g1 g2++E)
theorem _root_.Go.Ago.Z.HO (z:Z h0 h L)(i:Nat){b m:Nat}{e:κ}{c:ε}{a v:Int}{f:Int->M β}(hg:gt c a=some v)(hm:c.length=m)(q:Wp (f v) h Q)(hi:L[i]?=some (.av b (c.map vi) e):=by rfl) :
  Wp (sh (an (arr b m) a 1) λp=>sh (ak li p) f) h Q:=by
 obtain⟨g1,g2⟩:=ay hg;have hlt:=aP g2;refine JF g1 (by omega) ?_;exact z.ld i q hi (by rw[adp,aal,g2];rfl) rfl
theorem _root_.Go.Ago.Z.rdB (z:Z h0 h L)(i:Nat){b m:Nat}{e:κ}{c:List Bool}{a:Int}{v:Bool}{f:Bool->M β}(hg:gt c a=some v)(hm:c.length=m)(q:Wp (f v) h Q)(hi:L[i]?=some (.av b (c.map .bool) e):=by rfl) :
  Wp (sh (an (arr b m) a 1) λp=>sh (ak .bool p) f) h Q:=by
 obtain⟨g1,g2⟩:=ay hg;have hlt:=aP g2;refine JF g1 (by omega) ?_;exact z.ld i q hi (by rw[adp,aal,g2];rfl) rfl
theorem Oc {c:List α}{a:Int}(hg:(gt c a).isSome=true):0<=a/\a.toNat<c.length/\∃v,gt c a=some v:=by
 cases h1:gt c a with
 |none=>rw[h1] at hg;cases hg
 |some v=>exact⟨(ay h1).1,aP (ay h1).2,v,rfl⟩
theorem It {b m:Nat}{a:Int}(h1:0<=a)(h2:a.toNat<m){f:Addr->M β}(q:Wp (f ⟨b,a.toNat,none⟩) h Q):Wp (sh (an (arr b m) a 1) f) h Q:=by
 refine JF h1 (by omega) ?_;rw[adp];exact q
theorem QY {l:List α}{x:α}(hl:l.getLast?=some x):l=l.dropLast++[x]:=by
 cases l with
 |nil=>cases hl
 |cons a r=>
  grind [List.getLast?_eq_some_getLast,Option.some.inj,List.dropLast_concat_getLast]
theorem aiX {C:TC}{m:Nat}{s:Sl}{root:Int}{b:Nat} :
  ∀(k n:Nat) (a:Int) (st r:TS) (v w:Int) (h:ab) (E:List bA),k<=n->tp k a st v=some (r,w)->TZ C m s root h0 h st (.av b [vi a] ar::E) ->
   Wp (dW n (ai C.c4) (ai C.c5) (ai C.c8) (ai C.c9) (ai b) v) h λy h'=>y=w/\TZ C m s root h0 h' r (.av b [vi a] ar::E):=by
 intro k
 induction k with
 |zero=>intro n a st r v w h E _ hv;cases hv
 |succ k ih=>
  intro n a st r v w h E hn hv tz;obtain⟨n,rfl⟩:∃m,n=m+1:=⟨n-1,by omega⟩;rw[u5];unfold lF;rw[tp] at hv;cases hx:st.gk.getLast? with
  |none=>rw[hx] at hv;cases hv
  |some x=>
   rw[hx] at hv;simp only at hv;split at hv
   case isFalse=>cases hv
   rename_i hc;obtain⟨x1,x2,_⟩:=Oc hc.1;obtain⟨_,x3,_⟩:=Oc hc.2.1;obtain⟨ok,s1,s2,g1,g2,z⟩:=tz;have hst:=QY hx;have hps:yq h s1 1 ar (st.gk.map vi) g1:=z.get 13 rfl;have hlen:s1.len=st.gk.length:=hps.Fi.GQ;have hl2:=ahv List.length hst;simp at hl2;have hpos:st.gk.length≠0:=λe=>by rw[acu e] at hx;cases hx
   have hbnd:s1.len<9223372036854775808:=by
    have:=hc.2.2;unfold cT at this;omega
   have e1:IntKind.i64.wrap ((s1.len:Int)-1)=((s1.len:Nat):Int)-1:=IntWalk.i64_in _ ⟨by omega,by omega⟩;refine z.ld 3 ?_;refine z.ld 3 ?_;rw[e1];refine hps.Fi.ix1 (enc:=vi) (v:=x) (by omega) ?_ λad cl=>cl.rz rfl rfl ?_
   .rw[List.getLast?_eq_getElem?] at hx;rw[<-hx];congr 1;omega
   refine z.ld 3 ?_;refine z.ld 3 ?_;rw[e1];refine z.akf 13 (cs:=st.gk.dropLast.map vi) (v:=vi x) (g:=g1) (by show some (bA.ps s1 1 ar (st.gk.map vi) g1)=_;(conv=>lhs;rw[hst]);rw[ain];rfl) λs1' hs1 z=>?_
   refine z.st 3 λh1 z=>?_;refine z.ld 4 ?_;refine It x1 (by rw[<-ok.on];exact x2) ?_;refine z.A2 12 (enc:=Value.bool) (v:=false) x2 λh2 z=>?_;refine z.ld 8 ?_;refine z.ld 7 ?_;refine It x1 (by rw[<-ok.nn];exact x3) ?_;have hsz:s2.len=st.eG.length:=(yq.Fi (z.get 14 rfl)).GQ;rw[hsz];refine z.A2 11 (enc:=vi) (v:=(st.eG.length:Int)) x3 λh3 z=>?_;refine z.ld 15 (x:=a) ?_;have tz:TZ C m s root h0 h3 { st with gk:=st.gk.dropLast,on:=st.on.set x.toNat false,nn:=st.nn.set x.toNat (st.eG.length:Int) } (.av b [vi a] ar::E):=
    ⟨⟨ok.ix,ok.lo,by simp[ok.nn],by simp[ok.on]⟩,s1',s2,g1,g2,z⟩
   by_cases hxa:x=a
   .rw[By hxa] at hv;cases hv;rw[By (by simpa using hxa),af];exact⟨rfl,tz⟩
   .rw[AT hxa] at hv;rw[AT (by simpa using hxa)];exact ih n a _ r _ w h3 E (by omega) hv tz
theorem aiY {C:TC}{m:Nat}{s:Sl}{root:Int}{N:List ah}(G:oj h0 s N){B:Nat}(hB:Bd N B) :
  ∀(k:Nat),(∀(n:Nat) (a:Int) (st r:TS) (h:ab) (E:List bA),k<=n->tv k N a st=some r->TZ C m s root h0 h st E ->
    Wp (dQ n a (ai C.c1) (ai C.c2) (ai C.c3) (ai C.c4) (ai C.c5) (ai C.c6) (ai C.c7) (ai C.c8) (ai C.c9)) h λ_ h'=>TZ C m s root h0 h' r E) /\
   (∀(n:Nat) (a:Int) (b:Nat) (sl:Sl) (xs:ε) (i:Nat) (st r:TS) (h:ab) (E:List bA),k<=n->tl k N a (xs.drop i) st=some r->IL h0 sl xs->i<=xs.length->xs.length<=B->TZ C m s root h0 h st (.av b [vi a] ar::E) ->
    Wp (dY n (ai C.c2) (ai C.c3) (ai C.c4) (ai C.c5) (ai C.c7) (ai C.c8) (ai C.c9) (ai b) (fnS C b) sl (sl.len:Int) (i:Int)) h λ_ h'=>TZ C m s root h0 h' r (.av b [vi a] ar::E)) /\
   (∀(n:Nat) (a:Int) (b:Nat) (sl:Sl) (xs:ε) (i:Nat) (st r:TS) (h:ab) (E:List bA),k<=n->tl k N a (xs.drop i) st=some r->IL h0 sl xs->i<=xs.length->xs.length<=B->TZ C m s root h0 h st (.av b [vi a] ar::E) ->
    Wp (dX n (ai C.c2) (ai C.c3) (ai C.c4) (ai C.c5) (ai C.c8) (ai C.c9) (ai b) (fnS C b) sl (sl.len:Int) (i:Int)) h λ_ h'=>TZ C m s root h0 h' r (.av b [vi a] ar::E)) /\
   (∀(n:Nat) (a x:Int) (b:Nat) (st r:TS) (h:ab) (E:List bA),k<=n->ts k N a x st=some r->TZ C m s root h0 h st (.av b [vi a] ar::E) ->
    Wp (dJ n x (ai C.c2) (ai C.c6) (ai C.c3) (ai b) (ai C.c5)) h λ_ h'=>TZ C m s root h0 h' r (.av b [vi a] ar::E)):=by
 intro k
 induction k with
 |zero=>grind [tv,tl,ts]
 |succ k ih=>
  obtain⟨ih1,ih2,ih3,ih4⟩:=ih;refine⟨λn a st r h E hn hv tz=>?_,λn a b sl xs i st r h E hn hv il hi hxB tz=>?_,λn a b sl xs i st r h E hn hv il hi hxB tz=>?_,λn a x b st r h E hn hv tz=>?_⟩
  .obtain⟨n,rfl⟩:∃m,n=m+1:=⟨n-1,by omega⟩;rw[wZ];unfold oa;rw[tv] at hv;cases hp:Hm a st with
   |none=>rw[hp] at hv;cases hv
   |some st1=>
   rw[hp] at hv;simp only at hv;unfold Hm at hp;split at hp
   case isFalse=>cases hp
   rename_i hc;obtain⟨c1,c2,c3,c4,c5⟩:=hc;obtain⟨a1,a2,_⟩:=Oc c3;obtain⟨_,a3,_⟩:=Oc c4;obtain⟨_,a4,_⟩:=Oc c5;have hp:=aas hp;obtain⟨ok,s1,s2,g1,g2,z⟩:=tz;refine z.new λb h1 z _=>?_;have z:=z.perm (L':=TL C m s root st s1 s2 g1 g2++(.av b [vi a] ar::E)) List.perm_middle.symm;refine z.ld 0 (x:=st.next) ?_
   refine z.st 0 λh2 z=>?_;refine z.ld 1 ?_;refine z.ld 15 (x:=a) ?_;refine z.ld 2 ?_;refine z.ld 15 (x:=a) ?_;refine z.ld 0 (x:=IntKind.i64.wrap (st.next+1)) ?_
   refine It a1 (by rw[<-ok.ix];exact a2) ?_;refine z.ld 0 (x:=IntKind.i64.wrap (st.next+1)) ?_
   refine z.akg 9 (enc:=vi) (v:=IntKind.i64.wrap (st.next+1)) a2 ?_ λh3 z=>?_
   .intro a' ha';simp only[aio,aai,aiQ,akr] at ha';rcases ha' with rfl|rfl|rfl
    .exact z.nbO 9 2 rfl rfl (by decide)
    .exact z.nbO 9 15 rfl rfl (by decide)
    .exact z.nbO 9 0 rfl rfl (by decide)
   refine It a1 (by rw[<-ok.lo];exact a3) ?_;refine z.A2 10 (enc:=vi) (v:=IntKind.i64.wrap (st.next+1)) a3 λh4 z=>?_
   refine z.ld 3 ?_;refine z.ld 15 (x:=a) ?_;have hps:yq h4 s1 1 ar (st.gk.map vi) g1:=z.get 13 rfl;have hlen:s1.len=st.gk.length:=hps.Fi.GQ;refine z.TO 13 (new:=[vi a]) rfl (by decide) rfl (by show s1.len+1<=cT;omega) λs1' h5 g1' hs1 z _=>?_;refine z.st 3 λh6 z=>?_;refine z.ld 4 ?_;refine z.ld 15 (x:=a) ?_;refine It a1 (by rw[<-ok.on];exact a4) ?_;refine z.A2 12 (enc:=Value.bool) (v:=true) a4 λh7 z=>?_;have tz:TZ C m s root h0 h7 st1 (.av b [vi a] ar::E):=by
    subst hp;refine⟨⟨by simp[ok.ix],by simp[ok.lo],ok.nn,by simp[ok.on]⟩,s1',s2,g1',g2,?_⟩;have:(st.gk++[a]).map vi=st.gk.map vi++[vi a]:=(by simp);unfold TL;simp only;rw[this];exact z
   clear z hps hlen;obtain⟨ok,s1,s2,g1,g2,z⟩:=tz;cases hx:gt N a with
   |none=>rw[hx] at hv;cases hv
   |some x=>
   rw[hx] at hv;simp only at hv;obtain⟨x1,x2⟩:=ay hx;have hb:=hB.2.2 x (BY x2);cases hk:tl k N a x.keys st1 with
   |none=>rw[hk] at hv;cases hv
   |some Ai=>
   rw[hk] at hv;simp only at hv;cases hi:tl k N a x.items Ai with
   |none=>rw[hi] at hv;cases hv
   |some st3=>
   rw[hi] at hv;simp only at hv;refine z.ld 6 ?_;refine z.ld 15 (x:=a) ?_;refine G.at z x1 x2 λad ks is nd ik ii=>nd.Ip ?_;rw[ag];refine (ih2 n a b ks x.keys 0 st1 Ai _ E (by omega) hk ik (by omega) hb.1 ⟨ok,s1,s2,g1,g2,z⟩).mono λ_ h8 tz=>?_;obtain⟨ok,s1,s2,g1,g2,z⟩:=tz;refine z.ld 6 ?_;refine z.ld 15 (x:=a) ?_;refine G.at z x1 x2 λad2 ks2 is2 nd2 ik2 ii2=>nd2.CI ?_;rw[ag];refine (ih3 n a b is2 x.items 0 Ai st3 _ E (by omega) hi ii2 (by omega) hb.2 ⟨ok,s1,s2,g1,g2,z⟩).mono λ_ h9 tz=>?_;obtain⟨ok,s1,s2,g1,g2,z⟩:=tz;cases hl:gt st3.lo a with
   |none=>rw[hl] at hv;cases hv
   |some l=>
   cases hj:gt st3.ix a with
   |none=>rw[hl,hj] at hv;cases hv
   |some j=>
   rw[hl,hj] at hv;simp only at hv;refine z.ld 2 ?_;refine z.ld 15 (x:=a) ?_;refine z.HO 10 hl ok.lo ?_;refine z.ld 1 ?_;refine z.ld 15 (x:=a) ?_;refine z.HO 9 hj ok.ix ?_;have fin:∀{h':ab} {r:TS},TZ C m s root h0 h' r (.av b [vi a] ar::E)->TZ C m s root h0 h' r E:=λtz=>by
    obtain⟨ok,s1,s2,g1,g2,z⟩:=tz;exact⟨ok,s1,s2,g1,g2,(z.perm aip).drop⟩
   by_cases hlj:l=j
   .rw[AT (by simpa using hlj)] at hv;rw[AT (by simpa using hlj)];cases ht:tp k a st3 0 with
    |none=>rw[ht] at hv;cases hv
    |some q=>
    obtain⟨st4,w⟩:=q;rw[ht] at hv;simp only at hv;split at hv
    case isFalse=>cases hv
    rename_i hcs;cases hv;rw[ag];refine (aiX k n a st3 st4 0 w h9 E (by omega) ht ⟨ok,s1,s2,g1,g2,z⟩).mono λy h10 hy=>?_;obtain⟨rfl,ok,s1,s2,g1,g2,z⟩:=hy;refine z.ld 7 ?_;have hsz:s2.len=st4.eG.length:=(yq.Fi (z.get 14 rfl)).GQ;refine z.TO 14 (new:=[vi y]) rfl (by decide) rfl (by show s2.len+1<=cT;omega) λs2' h11 g2' hs2 z _=>?_;refine z.st 7 λh12 z=>?_;rw[af];refine fin ⟨⟨ok.ix,ok.lo,ok.nn,ok.on⟩,s1,s2',g1,g2',?_⟩;have:(st4.eG++[y]).map vi=st4.eG.map vi++[vi y]:=(by simp);unfold TL;simp only;rw[this];exact z
   .rw[By (by simpa using hlj)] at hv;cases hv;rw[By (by simpa using hlj),af];exact fin ⟨ok,s1,s2,g1,g2,z⟩
  .obtain⟨n,rfl⟩:∃m,n=m+1:=⟨n-1,by omega⟩;rw[u7];unfold lH;rw[il.len];by_cases hi2:i<xs.length
   .rw[By (by simp;omega)];obtain⟨x,hx⟩:=dS hi2;rw[drop_cons hx,tl] at hv;cases hs:ts k N a x st with
    |none=>rw[hs] at hv;cases hv
    |some st1=>
     rw[hs] at hv;simp only at hv;have fr:Fr (λ_=>False) h0 h:=(by obtain⟨_,_,_,_,_,z⟩:=tz;exact z.fr);refine (il.fr fr).ix (by omega) (by simpa using hx) λa1 g c=>c.rz rfl rfl ?_;unfold fM;rw[ag,By (by rfl),ag];refine kr (c:=(ai C.c2,ai C.c6,ai C.c3,ai b,ai C.c5)) rfl ?_;refine (ih4 n a x b st st1 h E (by omega) hs tz).mono λ_ h2 tz=>?_;rw[rR hi (by have:=hB.2.1;omega)];have:=ih2 n a b sl xs (i+1) st1 r h2 E (by omega) hv il (by omega) hxB tz
     rwa [il.len] at this
   .rw[AT (by simp;omega),af]
    grind [List.drop_eq_nil_of_le,tl,tl,tl]
  .obtain⟨n,rfl⟩:∃m,n=m+1:=⟨n-1,by omega⟩;rw[u6];unfold lG;rw[il.len];by_cases hi2:i<xs.length
   .rw[By (by simp;omega)];obtain⟨x,hx⟩:=dS hi2;rw[drop_cons hx,tl] at hv;cases hs:ts k N a x st with
    |none=>rw[hs] at hv;cases hv
    |some st1=>
     rw[hs] at hv;simp only at hv;have fr:Fr (λ_=>False) h0 h:=(by obtain⟨_,_,_,_,_,z⟩:=tz;exact z.fr);refine (il.fr fr).ix (by omega) (by simpa using hx) λa1 g c=>c.rz rfl rfl ?_;unfold kR fM;rw[ag,By (by rfl),ag];refine kr (c:=(ai C.c2,ai C.c6,ai C.c3,ai b,ai C.c5)) rfl ?_;refine (ih4 n a x b st st1 h E (by omega) hs tz).mono λ_ h2 tz=>?_;rw[rR hi (by have:=hB.2.1;omega)];have:=ih3 n a b sl xs (i+1) st1 r h2 E (by omega) hv il (by omega) hxB tz
     rwa [il.len] at this
   .rw[AT (by simp;omega),af]
    grind [List.drop_eq_nil_of_le,tl,tl,tl]
  .obtain⟨n,rfl⟩:∃m,n=m+1:=⟨n-1,by omega⟩;rw[vz];unfold mE;rw[ts] at hv;cases hx:gt st.ix x with
   |none=>rw[hx] at hv;cases hv
   |some i=>
   rw[hx] at hv;simp only at hv;obtain⟨ok,s1,s2,g1,g2,z⟩:=tz;refine z.ld 1 ?_;refine z.HO 9 hx ok.ix ?_;by_cases hi0:i=0
   .rw[By hi0] at hv;rw[By (by simpa using hi0)];cases hv1:tv k N x st with
    |none=>rw[hv1] at hv;cases hv
    |some st1=>
    rw[hv1] at hv;simp only at hv;refine z.ld 5 (x:=fnC C) ?_;unfold jI;rw[ag,By (by rfl),ag];refine kr (c:=(ai C.c1,ai C.c2,ai C.c3,ai C.c4,ai C.c5,ai C.c6,ai C.c7,ai C.c8,ai C.c9)) rfl ?_;refine (ih1 n x st st1 h _ (by omega) hv1 ⟨ok,s1,s2,g1,g2,z⟩).mono λ_ h2 tz=>?_;obtain⟨ok,s1,s2,g1,g2,z⟩:=tz;cases hl:gt st1.lo x with
    |none=>rw[hl] at hv;cases hv
    |some l=>
    rw[hl] at hv;simp only at hv;unfold Ir at hv;cases hw:gt st1.lo a with
    |none=>rw[hw] at hv;cases hv
    |some w=>
    rw[hw] at hv;have hv:=aas hv;refine z.ld 2 ?_;refine z.ld 15 (x:=a) ?_;refine z.ld 2 ?_;refine z.ld 15 (x:=a) ?_;refine z.HO 10 hw ok.lo ?_;refine z.ld 2 ?_;refine z.HO 10 hl ok.lo ?_;obtain⟨w1,w2⟩:=ay hw;refine It w1 (by rw[<-ok.lo];exact aP w2) ?_;refine z.A2 10 (enc:=vi) (v:=mn w l) (aP w2) λh3 z=>?_;rw[af,<-hv];exact⟨⟨ok.ix,by simp[ok.lo],ok.nn,ok.on⟩,s1,s2,g1,g2,z⟩
   .rw[AT hi0] at hv;rw[AT (by simpa using hi0)];cases ho:gt st.on x with
    |none=>rw[ho] at hv;cases hv
    |some o=>
    rw[ho] at hv;refine z.ld 4 ?_;refine z.rdB 12 ho ok.on ?_;cases o with
    |false=>
     cases hv;rw[AT (by simp),af];exact⟨ok,s1,s2,g1,g2,z⟩
    |true=>
     simp only at hv;rw[By rfl];unfold Ir at hv;cases hw:gt st.lo a with
     |none=>rw[hw] at hv;cases hv
     |some w=>
     rw[hw] at hv;have hv:=aas hv;refine z.ld 2 ?_;refine z.ld 15 (x:=a) ?_;refine z.ld 2 ?_;refine z.ld 15 (x:=a) ?_;refine z.HO 10 hw ok.lo ?_;refine z.ld 1 ?_;refine z.HO 9 hx ok.ix ?_;obtain⟨w1,w2⟩:=ay hw;refine It w1 (by rw[<-ok.lo];exact aP w2) ?_;refine z.A2 10 (enc:=vi) (v:=mn w i) (aP w2) λh3 z=>?_;rw[af,<-hv];exact⟨⟨ok.ix,by simp[ok.lo],ok.nn,ok.on⟩,s1,s2,g1,g2,z⟩
end
section
variable {α β:Type}{h h' h0:ab}{L:List bA}{Q:β->ab->Prop}
def mc (m:Nat):TS:=⟨0,List.replicate m 0,List.replicate m 0,List.replicate m (-1),List.replicate m false,[],[]⟩
def comp (k:Nat)(N:List ah)(root:Int):Option (ε×ε):=(tv k N root (mc N.length)).map λst=>(st.nn,st.eG)
theorem Y1 {m i:Nat}(hi:i<m):(List.replicate i (-1:Int)++List.replicate (m-i) 0).set i (-1)=List.replicate (i+1) (-1)++List.replicate (m-(i+1)) 0:=by
 have e:m-i=(m-(i+1))+1:=by omega
 rw[ajj _ _ (by simp),e,aiK,aeL,ai5,ahV,akl (n:=i),abt];rfl
theorem ack {bn c9 m:Nat}(hm:m<1073741824){o1 o2 o3 o4:bA}(a0:Addr)(a1:Int)(a2 a3:Addr) :
  ∀(n i:Nat) (h:ab),m-i<n->i<=m->Z h0 h (o1::o2::.av bn ((List.replicate i (-1)++List.replicate (m-i) 0).map vi) ar::o3::o4::.av c9 [aM (arr bn m)] bt::L) ->
   Wp (gE n a0 a1 a2 a3 (ai c9) (m:Int) (i:Int)) h λ_ h'=>Z h0 h' (o1::o2::.av bn ((List.replicate m (-1)).map vi) ar::o3::o4::.av c9 [aM (arr bn m)] bt::L):=by
 intro n
 induction n with
 |zero=>intro i h h1;omega
 |succ n ih=>
  intro i h h1 h2 z;rw[wz];unfold nA;by_cases hi:i<m
  .rw[By (by simp;omega)];refine z.ld 5 (x:=arr bn m) ?_;refine It (b:=bn) (m:=m) (by omega) (by omega) ?_;rw[aab];refine z.A2 2 (enc:=vi) (xs:=List.replicate i (-1)++List.replicate (m-i) 0) (v:=-1) (by grind) λh3 z=>?_;rw[rR h2 (by omega)];rw[Y1 hi] at z;exact ih (i+1) h3 (by omega) (by omega) z
  .rw[AT (by simp;omega),af];have:i=m:=by omega
   subst this;simpa using z
theorem Iu {s:Sl}{root:Int}{N:List ah}(z:Z h0 h L)(G:oj h0 s N){B:Nat}(hB:Bd N B){k n:Nat}(hk:k<=n)(hn:B+2<n){nn eG:ε}(hv:comp k N root=some (nn,eG)) :
  Wp (oJ n (s,root)) h λx h'=>nn.length=N.length/\∃bn s2 g2,x=(arr bn N.length,s2)/\Z h0 h' (.av bn (nn.map vi) ar::.ps s2 1 ar (eG.map vi) g2::L):=by
 unfold oJ;unfold comp at hv;cases ht:tv k N root (mc N.length) with
 |none=>rw[ht] at hv;cases hv
 |some st=>
 rw[ht] at hv;have hv:=aas hv;have e1:st.nn=nn:=ahv Prod.fst hv;have e2:st.eG=eG:=ahv Prod.snd hv;subst e1 e2;have hb1:(N.length:Int)<=cT:=by have:=hB.1;have:=hB.2.1;unfold cT;omega
 refine z.new λx0 h1 z _=>?_;refine z.ld 0 (o:=0) (l:=.sl) ?_;rw[G.len];refine z.eU [1,3,5,6,7,8] (by decide) (by decide) λnb h2 z=>?_;refine z.aa9 0 (by omega) hb1 λh3 z=>?_;refine z.aa9 1 (by omega) hb1 λh4 z=>?_;refine z.aa9 2 (by omega) hb1 λh5 z=>?_;rw[aab] at z⊢;rw[lj (enc:=vi)] at z;refine z.newAt 3 λh6 z=>z.newAt 4 λh7 z=>z.newAt 5 λh8 z=>?_;refine z.Gd 3 (by intro k hk;simp at hk;omega) ?_;refine z.stC 3 (by intro a ha;simp at ha) λh9 z=>?_;refine z.Gd 4 (by intro k hk;simp at hk;omega) ?_;refine z.stC 4 (by intro a ha;simp at ha) λh10 z=>?_;refine z.st 5 λh11 z=>?_;refine z.ld 5 (o:=0) (l:=.sl) ?_;rw[ag];refine (ack (m:=N.length) (by have:=hB.1;have:=hB.2.1;omega) (ai x0) (N.length:Int) (ai (nb+6)) (ai (nb+7)) n 0 h11 (by have:=hB.1;omega) (by omega) z).mono λ_ h12 z=>?_;refine z.new λb14 h13 z _=>?_;refine z.new λb15 h14 z _=>?_;refine z.JE (by omega) hb1 λbo h15 z _=>?_;rw[aab] at z⊢;rw[lj (enc:=Value.bool)] at z;refine z.new λb17 h16 z _=>z.st 0 λh17 z=>?_;refine z.new λb19 h18 z _=>z.st 0 λh19 z=>?_;refine z.new λb21 h20 z _=>z.st 0 λh21 z=>?_;refine z.ld 0 (o:=0) (l:=.raw) ?_;refine z.ld 12 (o:=1) (l:=li) (x:=root) ?_;have z:=z.add (Fr.refl z.wf) (o:=.ps ⟨none,0,0⟩ 1 ar [] 0) yq.nil (.inl rfl);have z:=z.add (Fr.refl z.wf) (o:=.ps ⟨none,0,0⟩ 1 ar [] 0) yq.nil (.inl rfl);have z:=Z.rU (pre:=[_,_,_,_,_,_,_,_,_,_,_,_,_,_,_]) z [3,11,12,6,4,2,14,7,13,8,9,10,5,0,1] (by simp only[aac,adf];decide);have tz:TZ ⟨b19,nb+6,nb+7,b15,b17,b21,x0,b14,nb+8,nb+1,nb+3,nb+5,bo⟩ N.length s root h0 h21 (mc N.length) L:=
  ⟨⟨by simp[mc],by simp[mc],by simp[mc],by simp[mc]⟩,⟨none,0,0⟩,⟨none,0,0⟩,0,0,z⟩
 unfold oc;rw[ag,By (by rfl),ag];refine kr (c:=(ai b19,ai (nb+6),ai (nb+7),ai b15,ai b17,ai b21,ai x0,ai b14,ai (nb+8))) rfl ?_;refine ((aiY G hB k).1 n root _ st h21 L hk ht tz).mono λ_ h22 tz=>?_;obtain⟨ok,s1,s2,g1,g2,z⟩:=tz;refine z.ld 8 (o:=0) (l:=.sl) ?_;refine z.ld 7 (o:=0) (l:=.sl) ?_;rw[af];exact⟨ok.nn,nb+5,s2,g2,rfl,z.sub ((List.Sublist.cons _<|List.Sublist.cons _<|List.Sublist.cons _<|List.Sublist.cons _<|List.Sublist.cons _<|List.Sublist.cons _<|List.Sublist.cons _<|List.Sublist.cons _<|List.Sublist.cons _<|List.Sublist.cons _<|List.Sublist.cons _<|List.Sublist.cons₂ _<|List.Sublist.cons _<|List.Sublist.cons _<|List.Sublist.cons₂ _ (ajH L)))⟩
end
section
variable {α β:Type}{h h' h0:ab}{L:List bA}{Q:β->ab->Prop}
def mx (p q:Int):Int:=if p<q then q else p
def mem:Nat->ε->List ε->Option (List ε)
 |_,[],X=>some X
 |i,c::cs,X=>match gt X c with
  |none=>none
  |some xs=>mem (i+1) cs (X.set c.toNat (xs++[(i:Int)]))
def dR (nn:ε)(c:Int):ε->ε->Bool->Option (ε×Bool)
 |[],b,a=>some (b,a)
 |x::xs,b,a=>match gt nn x with
  |none=>none
  |some d=>if d=c then dR nn c xs b false else match gt b c,gt b d with
   |some p,some q=>dR nn c xs (b.set c.toNat (mx p q)) a
   |_,_=>none
def dM (N:List ah)(nn:ε)(c:Int):ε->ε->Bool->Option (ε×Bool)
 |[],b,a=>some (b,a)
 |i::is,b,a=>match gt N i with
  |none=>none
  |some x=>match dR nn c x.keys b a with
   |none=>none
   |some (b1,a1)=>match dR nn c x.items b1 a1 with
    |none=>none
    |some (b2,a2)=>dM N nn c is b2 a2
def dC (N:List ah)(nn:ε):Nat->List (ε×Int)->ε->Bool->Option (ε×Bool)
 |_,[],b,a=>some (b,a)
 |c,(xs,sz)::r,b,a=>match dM N nn (c:Int) xs b a with
  |none=>none
  |some (b1,a1)=>match gt b1 (c:Int) with
   |none=>none
   |some p=>dC N nn (c+1) r (b1.set c (IntKind.i64.wrap (p+sz))) a1
def dep (k:Nat)(N:List ah)(root:Int):Option (Int×Bool):=match comp k N root with
 |none=>none
 |some (nn,eG)=>if eG.length<=N.length then match mem 0 nn (List.replicate eG.length []) with
  |none=>none
  |some X=>match dC N nn 0 (X.zip eG) (List.replicate eG.length 0) true with
   |none=>none
   |some (b,a)=>match gt nn root with
    |none=>none
    |some c=>match gt b c with
     |none=>none
     |some v=>some (IntKind.i64.wrap (v-1),a)
  else none
theorem SF:∀{cs:ε} {i:Nat} {X Y:List ε},mem i cs X=some Y->Y.length=X.length
 |[],i,X,Y,he=>by cases he;rfl
 |c::cs,i,X,Y,he=>by
  rw[mem] at he;cases hg:gt X c with
  |none=>rw[hg] at he;cases he
  |some xs=>rw[hg] at he;rw[SF he,aiw]
theorem Y2:∀{cs:ε} {i:Nat} {X Y:List ε},mem i cs X=some Y->(∀xs∈X,xs.length<=i)->∀xs∈Y,xs.length<=i+cs.length
 |[],i,X,Y,he,hX=>by cases he;simpa using hX
 |c::cs,i,X,Y,he,hX=>by
  rw[mem] at he;cases hg:gt X c with
  |none=>rw[hg] at he;cases he
  |some xs=>
   rw[hg] at he;intro ys hy;have:=Y2 he (λzs hz=>?_) ys hy
   .simp;omega
   .rcases ahS hz with hz|rfl
    .have:=hX zs hz;omega
    .have:=hX xs (BY (ay hg).2);simp;omega
theorem BN {nn:ε}{c:Int}:∀{xs b:ε} {a:Bool} {b':ε} {a':Bool},dR nn c xs b a=some (b',a')->b'.length=b.length
 |[],b,a,b',a',he=>by cases he;rfl
 |x::xs,b,a,b',a',he=>by
  rw[dR] at he;split at he
  .cases he
  .split at he
   .exact BN he
   .split at he
    .rw[BN he,aiw]
    .cases he
theorem QZ {N:List ah}{nn:ε}{c:Int}:∀{xs b:ε} {a:Bool} {b':ε} {a':Bool},dM N nn c xs b a=some (b',a')->b'.length=b.length
 |[],b,a,b',a',he=>by cases he;rfl
 |x::xs,b,a,b',a',he=>by
  rw[dM] at he;split at he
  .cases he
  .split at he
   .cases he
   .rename_i h1;split at he
    .cases he
    .rename_i h2;rw[QZ he,BN h2,BN h1]
theorem Y3 {N:List ah}{nn:ε}:∀{r:List (ε×Int)} {c:Nat} {b:ε} {a:Bool} {b':ε} {a':Bool},dC N nn c r b a=some (b',a')->b'.length=b.length
 |[],c,b,a,b',a',he=>by cases he;rfl
 |(xs,sz)::r,c,b,a,b',a',he=>by
  rw[dC] at he;split at he
  .cases he
  .rename_i h1;split at he
   .cases he
   .rw[Y3 he,aiw,QZ h1]
structure ME where
 s:Sl
 g:Nat
 xs:ε
def ME.own (e:ME):bA:=.ps e.s 1 ar (e.xs.map vi) e.g
def DL (bb bn x0 bm:Nat)(s2 s:Sl)(g2:Nat)(root:Int)(nn eG b:ε)(M:List ME):List bA:=
 [.av bb (b.map vi) ar,.av bn (nn.map vi) ar,.ps s2 1 ar (eG.map vi) g2,.av x0 [aM s,vi root] ao,.av bm ((M.map ME.s).map aM) bt]
theorem agI {M:List ME}{c:Nat}{e:ME}(he:M[c]?=some e){bb bn x0 bm:Nat}{s2 s:Sl}{g2:Nat}{root:Int}{nn eG b:ε}{M':List ME} :
  (DL bb bn x0 bm s2 s g2 root nn eG b M'++(M.map ME.own++L))[c+5]?=some (.ps e.s 1 ar (e.xs.map vi) e.g):=by
 simp only[DL,aao,acB,ahM];rw[ag0 (by simpa using aP he),aal,he];rfl
theorem agJ {bb bn x0 bm:Nat}{s2 s:Sl}{g2:Nat}{root:Int}{nn eG b:ε}{m:Nat}(hm:nn.length=m)(hb:m<1073741824)(a4:Sl)(a3:Bool)(a2:Sl)(a1:Sl) :
  ∀(n i:Nat) (h:ab) (M:List ME) (X:List ε),m-i<n->i<=m->mem i (nn.drop i) (M.map ME.xs)=some X->(∀e∈M,e.xs.length<=i)->Z h0 h (DL bb bn x0 bm s2 s g2 root nn eG b M++(M.map ME.own++L)) ->
   Wp (lN n (ai x0) a1 a2 a3 a4 (arr bm M.length) (arr bn m) (m:Int) (i:Int)) h λ_ h'=>∃M',M'.map ME.xs=X/\Z h0 h' (DL bb bn x0 bm s2 s g2 root nn eG b M'++(M'.map ME.own++L)):=by
 intro n
 induction n with
 |zero=>intro i h M X h1;omega
 |succ n ih=>
  intro i h M X h1 h2 hv hle z;rw[AG];unfold sf;by_cases hi:i<m
  .rw[By (by simp;omega)];obtain⟨c,hc⟩:=dS (l:=nn) (i:=i) (by omega);rw[drop_cons hc,mem] at hv;cases hg:gt (M.map ME.xs) c with
   |none=>rw[hg] at hv;cases hv
   |some xs=>
   rw[hg] at hv;simp only at hv;obtain⟨g1,gg⟩:=ay hg;rw[aal] at gg;cases hM:M[c.toNat]? with
   |none=>rw[hM] at gg;cases gg
   |some e=>
   rw[hM] at gg;have gg:e.xs=xs:=aas gg;have hlt:=aP hM;refine z.HO (c:=nn) 1 (v:=c) (by unfold gt;rw[By (by omega)];simpa using hc) hm ?_;refine It (b:=bm) (m:=M.length) g1 hlt ?_;refine z.ld 4 (o:=c.toNat) (l:=.sl) (x:=e.s) ?_ rfl (by rw[aal,aal,hM];rfl) rfl;have hown:=agI (L:=L) hM (bb:=bb) (bn:=bn) (x0:=x0) (bm:=bm) (s2:=s2) (s:=s) (g2:=g2) (root:=root) (nn:=nn) (eG:=eG) (b:=b) (M':=M);have hlen:e.s.len=e.xs.length:=(yq.Fi (z.get _ hown)).GQ;have hel:=hle e (BY hM);refine z.TO (c.toNat+5) (new:=[vi (i:Int)]) hown (by decide) rfl (by unfold cT;omega) λs' h3 g' hs' z _=>?_;refine It (b:=bm) (m:=M.length) g1 hlt ?_;refine z.A2 4 (xs:=M.map ME.s) (enc:=aM) (v:=s') (k:=c.toNat) (by simpa using hlt) (λh4 z=>?_);rw[rR h2 (by omega)];have hl':(M.set c.toNat ⟨s',g',e.xs++[(i:Int)]⟩).length=M.length:=by simp
   have z:Z h0 h4 (DL bb bn x0 bm s2 s g2 root nn eG b (M.set c.toNat ⟨s',g',e.xs++[(i:Int)]⟩)++((M.set c.toNat ⟨s',g',e.xs++[(i:Int)]⟩).map ME.own++L)):=by
    refine z.perm (akP ?_);simp only[DL,aao,acB,ai6,ahV]
    grind [List.set_append_left,List.map_set,ME.own]
   have:=ih (i+1) h4 (M.set c.toNat ⟨s',g',e.xs++[(i:Int)]⟩) X (by omega) (by omega) (by rw[ajV];simp only;rw[gg];exact hv) (λx hx=>?_) z
   .rw[hl'] at this;exact this
   grind
  .rw[AT (by simp;omega),af];have:nn.drop i=[]:=aaf (by omega);rw[this] at hv;cases hv;exact⟨M,rfl,z⟩
theorem Y4 {bb bn:Nat}{nn:ε}{m p:Nat}(hm:nn.length=m){sl:Sl}{xs:ε}(il:IL h0 sl xs){B:Nat}(hB:B<1073741824)(hl:xs.length<=B){c:Nat}(a0:Addr)(a2 a5:Sl)(a7 a8:Int)(a9:Sl)(a10 a11:Int)(a12:Sl)(a13 a14:Int) :
  ∀(n i:Nat) (h:ab) (b b':ε) (a a':Bool) (R:List bA),xs.length-i<n->i<=xs.length->b.length=p->dR nn c (xs.drop i) b a=some (b',a')->Z h0 h (.av bb (b.map vi) ar::.av bn (nn.map vi) ar::R) ->
   Wp (lI n a0 (arr bn m) a2 a (arr bb p) a5 (c:Int) a7 a8 a9 a10 a11 a12 a13 a14 sl (sl.len:Int) (i:Int)) h λy h'=>y=a'/\Z h0 h' (.av bb (b'.map vi) ar::.av bn (nn.map vi) ar::R):=by
 intro n
 induction n with
 |zero=>intro i h b b' a a' R h1;omega
 |succ n ih=>
  intro i h b b' a a' R h1 h2 hp hv z;rw[AD];unfold r9;rw[il.len];by_cases hi:i<xs.length
  .rw[By (by simp;omega)];obtain⟨x,hx⟩:=dS hi;rw[drop_cons hx,dR] at hv;refine (il.fr z.fr).ix (by omega) (by simpa using hx) λa1 g cl=>cl.rz rfl rfl ?_;cases hg:gt nn x with
   |none=>rw[hg] at hv;cases hv
   |some d=>
   rw[hg] at hv;simp only at hv;refine z.HO (c:=nn) 1 hg hm ?_;rw[rR h2 (by omega)];by_cases hd:d=c
   .rw[By hd] at hv;rw[By (by simpa using hd)];have:=ih (i+1) h b b' false a' R (by omega) (by omega) hp hv z
    rwa [il.len] at this
   .rw[AT hd] at hv;rw[AT (by simpa using hd)];cases hq1:gt b (c:Int) with
    |none=>rw[hq1] at hv;cases hv
    |some v=>
    cases hq2:gt b d with
    |none=>rw[hq1,hq2] at hv;cases hv
    |some w=>
    rw[hq1,hq2] at hv;simp only at hv;obtain⟨g1,g2⟩:=ay hq1;obtain⟨g3,g4⟩:=ay hg;have hlt:=aP g2;refine It (b:=bb) (m:=p) g1 (by omega) ?_;refine It (b:=bn) (m:=m) g3 (by rw[<-hm];exact aP g4) ?_;refine z.ld 0 (x:=v) ?_ rfl (by rw[aal,g2];rfl) rfl;refine z.ld 1 (x:=d) ?_ rfl (by rw[aal,g4];rfl) rfl;refine z.HO (c:=b) 0 hq2 hp ?_;refine It (b:=bb) (m:=p) g1 (by omega) ?_;refine z.A2 0 (xs:=b) (enc:=vi) (v:=mx v w) hlt (λh3 z=>?_);have:=ih (i+1) h3 (b.set (c:Int).toNat (mx v w)) b' a a' R (by omega) (by omega) (by simpa using hp) hv z
    rwa [il.len] at this
  .rw[AT (by simp;omega),af];have:xs.drop i=[]:=aaf (by omega);rw[this] at hv;cases hv;exact⟨rfl,z⟩
theorem agK {bb bn b1:Nat}{nn:ε}{m p:Nat}(hm:nn.length=m){ks is:Sl}{kl il:ε}(ik:IL h0 ks kl)(ii:IL h0 is il){B:Nat}(hB:B<1073741824)(hl:kl.length<=B)(hl2:il.length<=B){c:Nat}(a0:Addr)(a2 a5:Sl)(a7 a8:Int)(a9:Sl)(a10 a11:Int)
  (n:Nat) (hn:B+5<=n) (h:ab) (b b2 b':ε) (a a2' a':Bool) (R:List bA) (hp:b.length=p) (hv1:dR nn c kl b a=some (b2,a2')) (hv2:dR nn c il b2 a2'=some (b',a')) (z:Z h0 h (.av bb (b.map vi) ar::.av bn (nn.map vi) ar::.av b1 [aM ks,aM is] bt::R)) :
   Wp (lK n a0 (arr bn m) a2 a (arr bb p) a5 (c:Int) a7 a8 a9 a10 a11 { a:=some (ai b1),len:=2,cap:=3 } (2:Nat) 0) h λy h'=>y=a'/\Z h0 h' (.av bb (b'.map vi) ar::.av bn (nn.map vi) ar::.av b1 [aM ks,aM is] bt::R):=by
 obtain⟨n,rfl⟩:∃m,n=m+3:=⟨n-3,by omega⟩;have rs:∀{h},Cl h ⟨b1,0,none⟩ [aM ks,aM is] (b1+1)->rO h { a:=some (ai b1),len:=2,cap:=3 } 1 [aM ks,aM is] (b1+1):=λc=>⟨rfl,.inr ⟨_,rfl,c⟩⟩;rw[oR];unfold lJ;rw[By (by decide)];refine (rs (z.cl 2 rfl)).ix (k:=0) (by decide) (by simp) λad cl=>cl.rz rfl rfl ?_;rw[ag];refine (Y4 hm ik hB hl a0 a2 a5 a7 a8 a9 a10 a11 _ _ _ _ 0 h b b2 a a2' _ (by omega) (by omega) hp (by simpa using hv1) z).mono λy h1 hy=>?_;obtain⟨rfl,z⟩:=hy;rw[show IntKind.i64.wrap (0+1)=1 from by decide,oR];unfold lJ;rw[By (by decide)];refine (rs (z.cl 2 rfl)).ix (k:=1) (by decide) (by simp) λad cl=>cl.rz rfl rfl ?_;rw[ag];refine (Y4 hm ii hB hl2 a0 a2 a5 a7 a8 a9 a10 a11 _ _ _ _ 0 h1 b2 b' y a' _ (by omega) (by omega) (by rw[BN hv1];exact hp) (by simpa using hv2) z).mono λy2 h2 hy=>?_;obtain⟨rfl,z⟩:=hy;rw[show IntKind.i64.wrap (1+1)=2 from by decide,oR];unfold lJ;rw[AT (by decide),af];exact⟨rfl,z⟩
theorem agL {s:Sl}{N:List ah}(G:oj h0 s N){B:Nat}(hB:Bd N B){bb bn x0:Nat}{root:Int}{nn:ε}{m p:Nat}(hm:nn.length=m){sl:Sl}{xs:ε}(hl:xs.length<=B){o2:bA}{c:Nat}(a2 a5:Sl)(a7 a8:Int)
  (hr:∀h' b,Z h0 h' (.av bb b ar::.av bn (nn.map vi) ar::o2::.av x0 [aM s,vi root] ao::L)->IL h' sl xs) (hsl:sl.len=xs.length) :
  ∀(n i:Nat) (h:ab) (b b':ε) (a a':Bool),B+6+(xs.length-i)<n->i<=xs.length->b.length=p->dM N nn c (xs.drop i) b a=some (b',a')->Z h0 h (.av bb (b.map vi) ar::.av bn (nn.map vi) ar::o2::.av x0 [aM s,vi root] ao::L) ->
   Wp (lL n (ai x0) (arr bn m) a2 a (arr bb p) a5 (c:Int) a7 a8 sl (sl.len:Int) (i:Int)) h λy h'=>y=a'/\Z h0 h' (.av bb (b'.map vi) ar::.av bn (nn.map vi) ar::o2::.av x0 [aM s,vi root] ao::L):=by
 intro n
 induction n with
 |zero=>intro i h b b' a a' h1;omega
 |succ n ih=>
  intro i h b b' a a' h1 h2 hp hv z;rw[AE];unfold sd;rw[hsl];by_cases hi:i<xs.length
  .rw[By (by simp;omega)];obtain⟨x,hx⟩:=dS hi;rw[drop_cons hx,dM] at hv;cases hg:gt N x with
   |none=>rw[hg] at hv;cases hv
   |some nx=>
   rw[hg] at hv;simp only at hv;obtain⟨x1,x2⟩:=ay hg;have hb:=hB.2.2 nx (BY x2);cases hv1:dR nn c nx.keys b a with
   |none=>rw[hv1] at hv;cases hv
   |some q1=>
   obtain⟨b1,a1⟩:=q1;rw[hv1] at hv;simp only at hv;cases hv2:dR nn c nx.items b1 a1 with
   |none=>rw[hv2] at hv;cases hv
   |some q2=>
   obtain⟨b2,a2'⟩:=q2;rw[hv2] at hv;simp only at hv;refine (hr h _ z).ix (by omega) (by simpa using hx) λad g cl=>cl.rz rfl rfl ?_;refine z.eU [12] (by decide) (by decide) λnb h3 z=>?_;refine z.ld 4 ?_;refine G.Yr z x1 x2 λad1 ks is nd=>(nd.fr z.fr).Ip ?_;refine z.ld 4 ?_;refine G.Yr z x1 x2 λad2 ks2 is2 nd2=>(nd2.fr z.fr).CI ?_;refine z.newAt 0 λh4 z=>?_;have z:=Z.rU (pre:=[_,_,_]) z [1,2,0] (by simp only[aac,adf];decide);rw[ag];refine (agK hm nd.keys nd2.items hB.2.1 hb.1 hb.2 _ _ _ _ _ _ _ _ n (by omega) h4 b b1 b2 a a1 a2' _ hp hv1 hv2 z).mono λy h5 hy=>?_;obtain⟨rfl,z⟩:=hy;have z:=(Z.rU (pre:=[_,_,_]) z [2,0,1] (by simp only[aac,adf];decide)).drop;rw[rR h2 (by have:=hB.2.1;omega)];have:=ih (i+1) h5 b2 b' y a' (by omega) (by omega) (by rw[BN hv2,BN hv1];exact hp) hv z
   rwa [hsl] at this
  .rw[AT (by simp;omega),af];have:xs.drop i=[]:=aaf (by omega);rw[this] at hv;cases hv;exact⟨rfl,z⟩
theorem agM {s:Sl}{N:List ah}(G:oj h0 s N){B:Nat}(hB:Bd N B){bb bn x0 bm:Nat}{s2:Sl}{g2:Nat}{root:Int}{nn eG:ε}{m p:Nat}(hm:nn.length=m){M:List ME}(hM:M.length=p)(hs:eG.length=p)(hpB:p<=B)(hle:∀e∈M,e.xs.length<=B) :
  ∀(n i:Nat) (h:ab) (b b':ε) (a a':Bool),2*B+8+(p-i)<n->i<=p->b.length=p->dC N nn i (((M.map ME.xs).zip eG).drop i) b a=some (b',a')->Z h0 h (DL bb bn x0 bm s2 s g2 root nn eG b M++(M.map ME.own++L)) ->
   Wp (lM n (ai x0) (arr bn m) s2 a (arr bb p) (arr bm p) (p:Int) (i:Int)) h λy h'=>y=a'/\Z h0 h' (DL bb bn x0 bm s2 s g2 root nn eG b' M++(M.map ME.own++L)):=by
 intro n
 induction n with
 |zero=>intro i h b b' a a' h1;omega
 |succ n ih=>
  intro i h b b' a a' h1 h2 hp hv z;rw[AF];unfold se;by_cases hi:i<p
  .rw[By (by simp;omega)];obtain⟨e,he⟩:=dS (l:=M) (i:=i) (by omega);obtain⟨sz,hz⟩:=dS (l:=eG) (i:=i) (by omega);have hzip:((M.map ME.xs).zip eG)[i]?=some (e.xs,sz):=by
    grind
   rw[drop_cons hzip,dC] at hv;cases hv1:dM N nn (i:Int) e.xs b a with
   |none=>rw[hv1] at hv;cases hv
   |some q1=>
   obtain⟨b1,a1⟩:=q1;rw[hv1] at hv;simp only at hv;cases hg:gt b1 (i:Int) with
   |none=>rw[hg] at hv;cases hv
   |some v=>
   rw[hg] at hv;simp only at hv;obtain⟨g1,gg⟩:=ay hg;refine It (b:=bm) (m:=p) (by omega) (by omega) ?_;refine z.ld 4 (o:=(i:Int).toNat) (l:=.sl) (x:=e.s) ?_ rfl (by rw[aab,aal,aal,he];rfl) rfl;have hown:∀{b:δ},(.av bb b ar::.av bn (nn.map vi) ar::.ps s2 1 ar (eG.map vi) g2::.av x0 [aM s,vi root] ao::.av bm ((M.map ME.s).map aM) bt::(M.map ME.own++L):List bA)[i+5]?=some (.ps e.s 1 ar (e.xs.map vi) e.g):=by
    intro b;simp only[ahM];rw[ag0 (by simpa using aP he),aal,he];rfl
   have hlen:e.s.len=e.xs.length:=(yq.Fi (z.get _ (hown (b:=b.map vi)))).GQ;have hel:=hle e (BY he);rw[ag];refine (agL G hB hm hel s2 (arr bm p) (p:Int) (i:Int) (λh' b z=>⟨_,yq.Fi (z.get _ hown)⟩) hlen n 0 h b b1 a a1 (by omega) (by omega) hp (by simpa using hv1) z).mono λy h3 hy=>?_;obtain⟨rfl,z⟩:=hy;have hlb:b1.length=p:=by rw[QZ hv1];exact hp
   refine It (b:=bb) (m:=p) (by omega) (by omega) ?_;have hps:yq h3 s2 1 ar (eG.map vi) g2:=z.get 2 rfl;refine hps.Fi.ix1 (enc:=vi) (v:=sz) (by omega) (by simpa using hz) λad cl=>?_;refine z.ld 0 (o:=(i:Int).toNat) (l:=li) (x:=v) ?_ rfl (by rw[aal,gg];rfl) rfl;refine cl.rz (l:=li) rfl rfl ?_;refine It (b:=bb) (m:=p) (by omega) (by omega) ?_;refine z.A2 0 (xs:=b1) (enc:=vi) (v:=IntKind.i64.wrap (v+sz)) (aP gg) (λh4 z=>?_);rw[rR h2 (by have:=hB.2.1;omega)];exact ih (i+1) h4 _ b' y a' (by omega) (by omega) (by simpa using hlb) hv z
  .rw[AT (by simp;omega),af];have:((M.map ME.xs).zip eG).drop i=[]:=aaf (by simp;omega);rw[this] at hv;cases hv;exact⟨rfl,z⟩
theorem Od {s:Sl}{root:Int}{N:List ah}(z:Z h0 h L)(G:oj h0 s N){B:Nat}(hB:Bd N B){k n:Nat}(hk:k<=n)(hn:3*B+10<n){d:Int}{a:Bool}(hv:dep k N root=some (d,a)) :
  Wp (tf n (s,root)) h λx h'=>x=(d,a)/\Z h0 h' L:=by
 unfold tf;unfold dep at hv;cases hc:comp k N root with
 |none=>rw[hc] at hv;cases hv
 |some q=>
 obtain⟨nn,eG⟩:=q;rw[hc] at hv;simp only at hv;split at hv
 case isFalse=>cases hv
 rename_i hsz;cases hm:mem 0 nn (List.replicate eG.length []) with
 |none=>rw[hm] at hv;cases hv
 |some X=>
 rw[hm] at hv;simp only at hv;cases hd:dC N nn 0 (X.zip eG) (List.replicate eG.length 0) true with
 |none=>rw[hd] at hv;cases hv
 |some q=>
 obtain⟨b,a1⟩:=q;rw[hd] at hv;simp only at hv;cases hg:gt nn root with
 |none=>rw[hg] at hv;cases hv
 |some c=>
 rw[hg] at hv;simp only at hv;cases hg2:gt b c with
 |none=>rw[hg2] at hv;cases hv
 |some v=>
 rw[hg2] at hv;simp only[aai,aiJ] at hv;obtain⟨rfl,rfl⟩:=hv;have hNB:=hB.1;have hBB:=hB.2.1;refine z.new λx0 h1 z _=>?_;refine z.fG 0 (ls:=[.sl,li]) (x:=(s,root)) ?_;rw[ag];refine (Iu z G hB hk (by omega) hc).mono λy h2 hy=>?_;obtain⟨hnn,bn,s2,g2,rfl,z⟩:=hy;have hs2:s2.len=eG.length:=(yq.Fi (z.get 1 rfl)).GQ;simp only;rw[hs2];refine z.JE (by omega) (by unfold cT;omega) λbb h3 z _=>?_;refine z.JE (by omega) (by unfold cT;omega) λbm h4 z _=>?_;rw[aab] at z⊢;rw[lj (enc:=vi),show bF=aM uV from rfl,lj (enc:=aM)] at z;have z:=Z.rU (pre:=[_,_,_,_,_]) z [1,2,3,4,0] (by simp only[aac,adf];decide);have hown:∀n,((List.replicate n (⟨⟨none,0,0⟩,0,[]⟩:ME)).map ME.own)=List.replicate n (.ps ⟨none,0,0⟩ 1 ar [] 0):=by
  intro n;rw[ajC];rfl
 have addn:∀(n:Nat) {L:List bA},Z h0 h4 L->Z h0 h4 (List.replicate n (.ps ⟨none,0,0⟩ 1 ar [] 0)++L):=by
  intro n
  induction n with
  |zero=>intro L z;exact z
  |succ n ih=>intro L z;exact (ih z).add (Fr.refl z.wf) yq.nil (.inl rfl)
 have z:=addn eG.length z;have z:Z h0 h4 (DL bb bn x0 bm s2 s g2 root nn eG (List.replicate eG.length 0) (List.replicate eG.length ⟨⟨none,0,0⟩,0,[]⟩)++((List.replicate eG.length (⟨⟨none,0,0⟩,0,[]⟩:ME)).map ME.own++L)):=by
  refine z.perm ?_;rw[hown];have e:(List.replicate eG.length (⟨⟨none,0,0⟩,0,[]⟩:ME)).map ME.s=List.replicate eG.length uV:=by rw[ajC]
  unfold DL;rw[e];simp only[aao,acB];have:=aj2 L (ak1 (l₁:=List.replicate eG.length (bA.ps ⟨none,0,0⟩ 1 ar [] 0)) (l₂:=[.av bb ((List.replicate eG.length 0).map vi) ar,.av bn (nn.map vi) ar,.ps s2 1 ar (eG.map vi) g2,.av x0 [aM s,vi root] ao,.av bm ((List.replicate eG.length uV).map aM) bt]))
  simp_all
 rw[ag];have hl0:=agJ (L:=L) (h0:=h0) hnn (by omega) (arr bb eG.length) true s2 (arr bn N.length) n 0 h4 (List.replicate eG.length ⟨⟨none,0,0⟩,0,[]⟩) X (by omega) (by omega) (by rw[ajC];exact hm) (λe he=>by rw[aiH he];simp) z;rw[aeL] at hl0;refine hl0.mono λ_ h5 hx=>?_;obtain⟨M,rfl,z⟩:=hx;have hML:M.length=eG.length:=by have:=SF hm;simpa using this
 rw[ag];refine (agM G hB hnn hML rfl (by omega) (λe he=>?_) n 0 h5 _ b true a1 (by omega) (by omega) (by simp) (by simpa using hd) z).mono λy h6 hy=>?_
 .have:=Y2 hm (λxs hx=>by rw[aiH hx];simp) e.xs (List.mem_map.2 ⟨e,he,rfl⟩);omega
 obtain⟨rfl,z⟩:=hy;refine z.ld 3 (x:=root) ?_;refine z.HO (c:=nn) 1 hg hnn ?_;have hbl:b.length=eG.length:=by rw[Y3 hd,aeL]
 refine z.HO (c:=b) (m:=eG.length) 0 hg2 hbl ?_;rw[af];refine⟨rfl,?_⟩;have z:=z.drop.drop.drop.drop.drop;exact z.sub (ag9 _ _)
end
section
variable {α β:Type}{h h' h0:ab}{L:List bA}{Q:β->ab->Prop}
noncomputable def gA:List Bool->List ah->Option Bool
 |m::ms,x::xs=>if m=false then some false else match jc x with
  |none=>none
  |some false=>some false
  |some true=>gA ms xs
 |_,[]=>some true
 |[],_::_=>none
def gB:List Bool->ε->Bool
 |b::bs,c::cs=>if b=true/\c≠1 then false else gB bs cs
 |_,_=>true
noncomputable def me (k:Nat)(N:List ah)(root:Int):Option Int:=
 if 4096<N.length then some 7
 else if N.length=0 then some 3
 else if He N root=false then some 3
 else match yg k N root (List.replicate N.length false) with
  |none=>none
  |some ms=>match gA ms N with
   |none=>none
   |some false=>some 3
   |some true=>match OY N root with
    |none=>none
    |some c=>match LG k N N (List.replicate N.length false) with
     |none=>none
     |some ks=>
      if gB ks c=false then some 3
      else match twN k N N with
       |none=>none
       |some true=>some 8
       |some false=>match dep k N root with
        |none=>none
        |some (d,_)=>if 32<d then some 5 else some 0
theorem Y5 {s:Sl}{N:List ah}(G:oj h0 s N){B:Nat}(hB:Bd N B)(ht:∀x∈N,x.text.size<=65536){bm:Nat}{ms:List Bool}(hm:ms.length=N.length){e:κ}(a0:Addr) :
  ∀(n i:Nat) (r:Bool) (h:ab) (L:List bA),(N.length-i)+65540<n->i<=N.length->gA (ms.drop i) (N.drop i)=some r->Z h0 h (.av bm (ms.map .bool) e::L) ->
   Wp (lP n a0 (arr bm N.length) s (s.len:Int) (i:Int)) h λy h'=>y=(if r then .inl () else .inr 3)/\Z h0 h' (.av bm (ms.map .bool) e::L):=by
 intro n
 induction n with
 |zero=>intro i r h L h1;omega
 |succ n ih=>
  intro i r h L h1 h2 hv z;rw[AJ];unfold sq;rw[G.len];by_cases hi:i<N.length
  .rw[By (by simp;omega)];obtain⟨x,hx⟩:=dS hi;obtain⟨b,hb⟩:=dS (l:=ms) (i:=i) (by omega);rw[drop_cons hx,drop_cons hb,gA] at hv;refine G.at z (by omega) (by simpa using hx) λa ks is nd ik ii=>nd.fG ?_;refine z.node λx2 h2' z=>?_;refine z.rdB (c:=ms) 1 (v:=b) (by unfold gt;rw[By (by omega)];simpa using hb) hm ?_;cases b with
   |false=>
    rw[By rfl] at hv;cases hv;rw[By (by rfl),af];exact⟨rfl,z.drop⟩
   |true=>
    rw[AT (by simp)] at hv;rw[AT (by simp)];refine z.fG 0 (ls:=[li,.str,.bool,.sl,.sl]) (x:=(x.kind,x.text,x.ord,ks,is)) ?_;cases hf:jc x with
    |none=>rw[hf] at hv;cases hv
    |some f=>
     rw[hf] at hv;have htx:=ht x (BY hx);rw[ag];refine (aci z ik ii htx (by omega) hf).mono λy h3 hy=>?_;obtain⟨rfl,z⟩:=hy;cases y with
     |false=>
      cases hv;rw[By (by rfl),af];exact⟨rfl,z.drop⟩
     |true=>
      simp only at hv;rw[AT (by simp),rR h2 (by have:=hB.1;have:=hB.2.1;omega)];have:=ih (i+1) r h3 L (by omega) (by omega) hv z.drop
      rwa [G.len] at this
  .rw[AT (by simp;omega),af];have e1:N.drop i=[]:=aaf (by omega);have e2:ms.drop i=[]:=aaf (by omega);rw[e1,e2] at hv;cases hv;exact⟨rfl,z⟩
theorem Y6 {bk bc m:Nat}{ks:List Bool}{c:ε}(hk:ks.length=m)(hc:c.length=m)(hb:m<1073741824){e1 e2:κ}(a0:Addr)(z:Z h0 h (.av bk (ks.map .bool) e1::.av bc (c.map vi) e2::L)) :
  ∀(n i:Nat),m-i<n->i<=m->Wp (lO n a0 (arr bc m) (arr bk m) (m:Int) (i:Int)) h λy h'=>y=(if gB (ks.drop i) (c.drop i) then .inl () else .inr 3)/\h'=h:=by
 intro n
 induction n with
 |zero=>intro i h1;omega
 |succ n ih=>
  intro i h1 h2;rw[AH];unfold sk;by_cases hi:i<m
  .rw[By (by simp;omega)];obtain⟨b,hb⟩:=dS (l:=ks) (i:=i) (by omega);obtain⟨v,hv⟩:=dS (l:=c) (i:=i) (by omega);have hg:gB (ks.drop i) (c.drop i)=if b=true/\v≠1 then false else gB (ks.drop (i+1)) (c.drop (i+1)):=by rw[drop_cons hb,drop_cons hv,gB]
   rw[hg];clear hg;refine z.rdB (c:=ks) 0 (v:=b) (by unfold gt;rw[By (by omega)];simpa using hb) hk ?_;have hnx:=ih (i+1) (by omega) (by omega);rw[<-rR h2 (by omega)] at hnx;cases b with
   |false=>
    have e:(if false=true/\v≠1 then false else gB (ks.drop (i+1)) (c.drop (i+1)))=gB (ks.drop (i+1)) (c.drop (i+1)):=AT (by simp);rw[e,AT (by simp)];exact hnx
   |true=>
    rw[By rfl];refine z.HO (c:=c) 1 (v:=v) (by unfold gt;rw[By (by omega)];simpa using hv) hc ?_;by_cases h1:v=1
    .have e:(if true=true/\v≠1 then false else gB (ks.drop (i+1)) (c.drop (i+1)))=gB (ks.drop (i+1)) (c.drop (i+1)):=AT (by simp[h1]);rw[e,AT (by simpa using h1)];exact hnx
    .have e:(if true=true/\v≠1 then false else gB (ks.drop (i+1)) (c.drop (i+1)))=false:=By ⟨rfl,h1⟩;rw[e,By (by simpa using h1),af];exact⟨rfl,rfl⟩
  .rw[AT (by simp;omega),af];have e1:ks.drop i=[]:=aaf (by omega);rw[e1];exact⟨rfl,rfl⟩
theorem zT {s:Sl}{root:Int}{N:List ah}(z:Z h0 h L)(G:oj h0 s N){B:Nat}(hB:Bd N B)(ht:∀x∈N,x.text.size<=65536){k n:Nat}(hn:k+4*B+65600<n){r:Int}(hv:me k N root=some r) :
  Wp (oe n (s,root)) h λx h'=>x=r/\Z h0 h' L:=by
 have hNB:=hB.1;have hBB:=hB.2.1;unfold oe;unfold me at hv;refine z.new λx0 h1 z _=>?_;refine z.ld 0 ?_;rw[G.len];by_cases c1:4096<N.length
 .rw[By c1] at hv;cases hv;rw[By (by simp;omega),af];exact⟨rfl,z.drop⟩
 rw[AT c1] at hv;rw[AT (by simp;omega)];refine z.ld 0 ?_;rw[G.len];by_cases c2:N.length=0
 .rw[By c2] at hv;cases hv;rw[By (by simp[c2]),af];exact⟨rfl,z.drop⟩
 rw[AT c2] at hv;rw[AT (by simp;exact λe=>c2 (by simp[e]))];refine z.fG 0 (ls:=[.sl,li]) (x:=(s,root)) ?_;rw[ag];refine (QH z G hB (by omega)).mono λy h2 hy=>?_;obtain⟨rfl,z⟩:=hy;cases c3:He N root with
 |false=>
  rw[By c3] at hv;cases hv;rw[By (by rfl),af];exact⟨rfl,z.drop⟩
 |true=>
 rw[AT (by simp[c3])] at hv;rw[AT (by simp)];unfold va;refine z.ld 0 ?_;rw[G.len];refine z.JE (by omega) (by unfold cT;omega) λbm h3 z _=>?_;rw[aab] at z⊢;rw[lj (enc:=Value.bool)] at z;refine z.fG 1 (ls:=[.sl,li]) (x:=(s,root)) ?_;refine z.ld 1 (x:=root) ?_;cases hvis:yg k N root (List.replicate N.length false) with
 |none=>rw[hvis] at hv;cases hv
 |some ms=>
 rw[hvis] at hv;simp only at hv;rw[ag];have hms:ms.length=N.length:=by have:=(FV k N).1 _ _ _ hvis;simpa using this
 have hw:=BJ (cap:=N.length+1) z G hB hvis (n:=n) (root:=root) (by omega);rw[aeL] at hw;refine hw.mono λ_ h4 z=>?_;refine z.ld 1 ?_;cases hA:gA ms N with
 |none=>rw[hA] at hv;cases hv
 |some b=>
 rw[hA] at hv;rw[ag];refine (Y5 G hB ht hms (ai x0) n 0 b h4 _ (by omega) (by omega) (by simpa using hA) z).mono λy h5 hy=>?_;obtain⟨rfl,z⟩:=hy;cases b with
 |false=>cases hv;exact af.2 ⟨rfl,z.drop.drop⟩
 |true=>
 simp only at hv;show Wp (sh _ _) h5 _;refine z.fG 1 (ls:=[.sl,li]) (x:=(s,root)) ?_;cases hc:OY N root with
 |none=>rw[hc] at hv;cases hv
 |some c=>
 rw[hc] at hv;simp only at hv;rw[ag];refine (Vn z G hB (by omega) hc).mono λy h6 hy=>?_;obtain⟨bc,rfl,hcl,z⟩:=hy;refine z.fG 2 (ls:=[.sl,li]) (x:=(s,root)) ?_;cases hi:LG k N N (List.replicate N.length false) with
 |none=>rw[hi] at hv;cases hv
 |some ks=>
 rw[hi] at hv;simp only at hv;rw[ag];refine (Vo (k:=k) z G hB (by omega) hi).mono λy h7 hy=>?_;obtain⟨bk,rfl,hkl,z⟩:=hy;rw[ag];refine (Y6 hkl hcl (by omega) (ai x0) z n 0 (by omega) (by omega)).mono λy h8 hy=>?_;obtain⟨rfl,rfl⟩:=hy;simp only[ahZ];cases hgB:gB ks c with
 |false=>
  rw[By hgB] at hv;cases hv;exact af.2 ⟨rfl,z.drop.drop.drop.drop⟩
 |true=>
 rw[AT (by simp[hgB])] at hv;show Wp (sh _ _) h8 _;refine z.fG 3 (ls:=[.sl,li]) (x:=(s,root)) ?_;cases htw:twN k N N with
 |none=>rw[htw] at hv;cases hv
 |some b=>
 rw[htw] at hv;rw[ag];refine (Y0 (k:=k) z G hB (by omega) htw).mono λy h9 hy=>?_;obtain⟨rfl,z⟩:=hy;cases y with
 |true=>cases hv;rw[By rfl,af];exact⟨rfl,z.drop.drop.drop.drop⟩
 |false=>
 simp only at hv;rw[AT (by simp)];refine z.fG 3 (ls:=[.sl,li]) (x:=(s,root)) ?_;cases hd:dep k N root with
 |none=>rw[hd] at hv;cases hv
 |some q=>
 obtain⟨d,a⟩:=q;rw[hd] at hv;simp only at hv;rw[ag];refine (Od z G hB (k:=k) (by omega) (by omega) hd).mono λy h10 hy=>?_;obtain⟨rfl,z⟩:=hy;by_cases h32:32<d
 .rw[By h32] at hv;cases hv;rw[By (by simpa using h32),af];exact⟨rfl,z.drop.drop.drop.drop⟩
 .rw[AT h32] at hv;cases hv;rw[AT (by simpa using h32),af];exact⟨rfl,z.drop.drop.drop.drop⟩
end
section
variable {α β:Type}{h h' h0:ab}{L:List bA}{Q:β->ab->Prop}
def rH:List Bool->Nat->ε
 |[],_=>[]
 |b::bs,n=>(n:Int)::rH bs (if b then n+1 else n)
def Hn (at':ε):ε->Option ε
 |[]=>some []
 |x::xs=>match gt at' x,Hn at' xs with
  |some v,some r=>some (v::r)
  |_,_=>none
def kN (at':ε):List Bool->List ah->Option (List ah)
 |_,[]=>some []
 |[],_::_=>none
 |b::bs,x::xs=>if b then match Hn at' x.keys,Hn at' x.items,kN at' bs xs with
   |some ks,some is,some r=>some ({ x with keys:=ks,items:=is }::r)
   |_,_,_=>none
  else kN at' bs xs
def kept (k:Nat)(N:List ah)(root:Int):Option (List ah×Int):=match yg k N root (List.replicate N.length false) with
 |none=>none
 |some ms=>match gt (rH ms 0) root,kN (rH ms 0) ms N with
  |some r,some N'=>some (N',r)
  |_,_=>none
theorem CN:∀(bs:List Bool) (n:Nat),(rH bs n).length=bs.length
 |[],_=>rfl
 |b::bs,n=>by rw[rH,aac,CN,aac]
theorem vX {at':ε}:∀{xs ys:ε},Hn at' xs=some ys->ys.length=xs.length
 |[],ys,he=>by cases he;rfl
 |x::xs,ys,he=>by
  rw[Hn] at he;cases h1:gt at' x with
  |none=>rw[h1] at he;cases he
  |some v=>
   cases h2:Hn at' xs with
   |none=>rw[h1,h2] at he;cases he
   |some r=>rw[h1,h2] at he;cases he;rw[aac,vX h2,aac]
theorem LO {at':ε}:∀{xs ys:ε} {i:Nat} {x:Int},Hn at' xs=some ys->xs[i]?=some x->∃v,gt at' x=some v/\ys[i]?=some v
 |[],ys,i,x,he,hx=>by simp at hx
 |x::xs,ys,i,w,he,hx=>by
  rw[Hn] at he;cases h1:gt at' x with
  |none=>rw[h1] at he;cases he
  |some v=>
   cases h2:Hn at' xs with
   |none=>rw[h1,h2] at he;cases he
   |some r=>
    rw[h1,h2] at he;cases he;cases i with
    |zero=>simp at hx;subst hx;exact⟨v,h1,rfl⟩
    |succ i=>have:=LO h2 (i:=i) (x:=w) (by simpa using hx);simpa using this
theorem fill {ys:ε}{i:Nat}{v:Int}(hv:ys[i]?=some v):(ys.take i++List.replicate (ys.length-i) 0).set i v=ys.take (i+1)++List.replicate (ys.length-(i+1)) 0:=by
 have hlt:=aP hv;have e:ys.length-i=(ys.length-(i+1))+1:=by omega
 rw[ajj _ _ (by simp;omega),e,aiK,afd,akn (by omega),ai5,ahV,ajI,hv,abt];rfl
theorem Y7 {cks:List θ}{m:M α}{f:α->M β}{P:α->ab->Prop}(ha:∀a,some a∈cks->∃cs e,LB h a.block cs e/\∀r h',P r h'->LB h' a.block cs e)(hm:Wp m h P)(q:∀r h',P r h'->Wp (f r) h' Q):Wp (sh (oo cks m) f) h Q:=by
 rw[ag];refine zg (hm.mono λr h' hp=>⟨λa hma=>?_,q r h' hp⟩);obtain⟨cs,e,l1,l2⟩:=ha a hma;rw[(l2 r h' hp).get,l1.get]
theorem Y8 {c9 ba b:Nat}{at':ε}{m:Nat}(hm:at'.length=m){sl:Sl}{xs ys:ε}(il:IL h0 sl xs)(hl:xs.length<1073741824)(hy:Hn at' xs=some ys) :
  ∀(n i:Nat) (h:ab) (L:List bA),xs.length-i<n->i<=xs.length->Z h0 h (.av b ((ys.take i++List.replicate (ys.length-i) 0).map vi) ar::.av c9 [aM (arr ba m)] bt::.av ba (at'.map vi) ar::L) ->
   Wp (ko n (ai c9) (arr b xs.length) sl (sl.len:Int) (i:Int)) h λ_ h'=>Z h0 h' (.av b (ys.map vi) ar::.av c9 [aM (arr ba m)] bt::.av ba (at'.map vi) ar::L):=by
 have hyl:=vX hy;intro n
 induction n with
 |zero=>intro i h L h1;omega
 |succ n ih=>
  intro i h L h1 h2 z;rw[zJ];unfold qO;rw[il.len];by_cases hi:i<xs.length
  .rw[By (by simp;omega)];obtain⟨x,hx⟩:=dS hi;obtain⟨v,hg,hv⟩:=LO hy hx;refine (il.fr z.fr).ix (by omega) (by simpa using hx) λa g cl=>cl.rz rfl rfl ?_;refine z.ld 1 (x:=arr ba m) ?_;refine z.HO (c:=at') 2 hg hm ?_;refine It (b:=b) (m:=xs.length) (by omega) (by omega) ?_;rw[aab];refine z.A2 0 (xs:=ys.take i++List.replicate (ys.length-i) 0) (enc:=vi) (v:=v) (by grind) (λh3 z=>?_);rw[fill hv] at z;rw[rR h2 (by omega)];have:=ih (i+1) h3 L (by omega) (by omega) z
   rwa [il.len] at this
  .rw[AT (by simp;omega),af];have:i=ys.length:=by omega
   subst this;simpa using z
theorem Oe {c9 ba:Nat}{at':ε}{m:Nat}(hm:at'.length=m){sl:Sl}{xs ys:ε}(il:IL h0 sl xs)(hl:xs.length<1073741824)(hy:Hn at' xs=some ys){n:Nat}(hn:xs.length<n)
  (z:Z h0 h (.av c9 [aM (arr ba m)] bt::.av ba (at'.map vi) ar::L)) :
  Wp (mF n sl (ai c9)) h λr h'=>∃b,r=arr b xs.length/\Z h0 h' (.av b (ys.map vi) ar::.av c9 [aM (arr ba m)] bt::.av ba (at'.map vi) ar::L):=by
 have hyl:=vX hy;unfold mF;rw[il.len];refine z.JE (by omega) (by unfold cT;omega) λb h1 z _=>?_;rw[aab] at z⊢;rw[lj (enc:=vi)] at z;rw[ag];have:=Y8 (b:=b) hm il hl hy n 0 h1 L (by omega) (by omega) (by rw[hyl];exact z);rw[il.len] at this;refine this.mono λ_ h2 z=>?_;rw[af];exact⟨b,rfl,z⟩
theorem aiZ {c9 ba bm:Nat}{ms:List Bool}{m:Nat}(hm:ms.length=m)(hb:m<1073741824)(a0 a1:Addr) :
  ∀(n i c:Nat) (h:ab) (L:List bA),m-i<n->i<=m->c<=i->(rH ms 0).drop i=rH (ms.drop i) c->Z h0 h (.av c9 [aM (arr ba m)] bt::.av ba (((rH ms 0).take i++List.replicate (m-i) 0).map vi) ar::.av bm (ms.map .bool) nV::L) ->
   Wp (nj n a0 a1 (arr bm m) (ai c9) (c:Int) (arr bm m) (m:Int) (i:Int)) h λ_ h'=>Z h0 h' (.av c9 [aM (arr ba m)] bt::.av ba ((rH ms 0).map vi) ar::.av bm (ms.map .bool) nV::L):=by
 have hkl:(rH ms 0).length=m:=by rw[CN,hm]
 intro n
 induction n with
 |zero=>intro i c h L h1;omega
 |succ n ih=>
  intro i c h L h1 h2 hc hk z;rw[BC];unfold tM;by_cases hi:i<m
  .rw[By (by simp;omega)];obtain⟨b,hbit⟩:=dS (l:=ms) (i:=i) (by omega);obtain⟨v,hv⟩:=dS (l:=rH ms 0) (i:=i) (by omega);have hk2:=hk;rw[drop_cons hv,drop_cons hbit,rH] at hk2;have hvc:v=(c:Int):=(aj6 hk2).1;have hkn:=(aj6 hk2).2;refine z.rdB (c:=ms) 2 (v:=b) (by unfold gt;rw[By (by omega)];simpa using hbit) hm ?_;refine z.ld 0 (o:=0) (l:=.sl) (x:=arr ba m) ?_;refine It (b:=ba) (m:=m) (by omega) (by omega) ?_;rw[aab];refine z.A2 1 (xs:=(rH ms 0).take i++List.replicate (m-i) 0) (enc:=vi) (v:=(c:Int)) (by grind) (λh3 z=>?_);have hf:=fill hv;rw[hkl,hvc] at hf;rw[hf] at z;rw[rR h2 (by omega)];cases b with
   |true=>
    rw[By rfl,rR hc (by omega)];exact ih (i+1) (c+1) h3 L (by omega) (by omega) (by omega) hkn z
   |false=>
    rw[AT (by simp)];exact ih (i+1) c h3 L (by omega) (by omega) (by omega) hkn z
  .rw[AT (by simp;omega),af];have:i=m:=by omega
   subst this
   grind
structure KR where
 v:ah
 kb:Nat
 ib:Nat
def KR.r (x:KR):gP:=⟨x.v.kind,x.v.text,x.v.ord,arr x.kb x.v.keys.length,x.v.keys,x.kb+1,arr x.ib x.v.items.length,x.v.items,x.ib+1⟩
def KR.own (x:KR):List bA:=[.av x.kb (x.v.keys.map vi) ar,.av x.ib (x.v.items.map vi) ar]
def KO (R:List KR):List bA:=R.flatMap KR.own
def KL (x16 c9 ba bm:Nat)(out:Sl)(r:Int)(g m:Nat)(at':ε)(ms:List Bool)(R:List KR):List bA:=
 [.av c9 [aM (arr ba m)] bt,.av ba (at'.map vi) ar,.av bm (ms.map .bool) nV,.av x16 [aM out,vi r] ao,.ps out 5 aW ((R.map KR.r).flatMap gP.enc) g]
theorem LP {at':ε}:∀{ms:List Bool} {xs ys:List ah},kN at' ms xs=some ys->ys.length<=xs.length
 |_,[],ys,he=>by cases ms_:0<;>(rw[kN] at he;cases he;simp)
 |[],_::_,ys,he=>by cases he
 |b::bs,x::xs,ys,he=>by
  rw[kN] at he;cases b with
  |false=>rw[AT (by simp)] at he;have:=LP he;simp;omega
  |true=>
   rw[By rfl] at he;split at he
   .rename_i h1;cases he;have:=LP h1;simp;omega
   .cases he
theorem acm {s:Sl}{N:List ah}(G:oj h0 s N){B:Nat}(hB:Bd N B){x16 c9 ba bm:Nat}{r:Int}{at':ε}{ms:List Bool}(hm:ms.length=N.length)(ha:at'.length=N.length)(a0:Addr) :
  ∀(n i:Nat) (N':List ah) (out:Sl) (g:Nat) (R:List KR) (h:ab) (L:List bA),B+5+(N.length-i)<n->i<=N.length->kN at' (ms.drop i) (N.drop i)=some N'->R.length<=i->Z h0 h (KL x16 c9 ba bm out r g N.length at' ms R++(KO R++L)) ->
   Wp (ni n a0 (arr bm N.length) (ai x16) (Value.func (Fn.func qs) #[] #[pv c9]) s (s.len:Int) (i:Int)) h λ_ h'=>∃out g R',R'.map KR.v=R.map KR.v++N'/\Z h0 h' (KL x16 c9 ba bm out r g N.length at' ms R'++(KO R'++L)):=by
 intro n
 induction n with
 |zero=>intro i N' out g R h L h1;omega
 |succ n ih=>
  intro i N' out g R h L h1 h2 hv hR z;rw[BB];unfold tL;rw[G.len];by_cases hi:i<N.length
  .rw[By (by simp;omega)];obtain⟨x,hx⟩:=dS hi;obtain⟨b,hb⟩:=dS (l:=ms) (i:=i) (by omega);have hbd:=hB.2.2 x (BY hx);have hBB:=hB.2.1;have hNB:=hB.1;rw[drop_cons hx,drop_cons hb,kN] at hv;refine G.at z (by omega) (by simpa using hx) λa ks is nd ik ii=>nd.fG ?_;refine z.node λx2 h2' z=>?_;refine z.rdB (c:=ms) 3 (v:=b) (by unfold gt;rw[By (by omega)];simpa using hb) hm ?_;rw[rR h2 (by omega)];cases b with
   |false=>
    rw[AT (by simp)] at hv;rw[AT (by simp)];have:=ih (i+1) N' out g R h2' L (by omega) (by omega) hv (by omega) z.drop
    rwa [G.len] at this
   |true=>
    rw[By rfl] at hv;rw[By rfl];cases hk:Hn at' x.keys with
    |none=>rw[hk] at hv;cases hv
    |some kl=>
    cases hii:Hn at' x.items with
    |none=>rw[hk,hii] at hv;cases hv
    |some il=>
    cases hr:kN at' (ms.drop (i+1)) (N.drop (i+1)) with
    |none=>rw[hk,hii,hr] at hv;cases hv
    |some N2=>
    rw[hk,hii,hr] at hv;have hv:=aas hv;refine z.ld 0 (o:=3) (l:=.sl) (x:=ks) ?_;refine z.ld 0 (o:=4) (l:=.sl) (x:=is) ?_;have zc:=z;have z:=Z.rU (pre:=[_,_,_]) z [1,2,0] (by simp only[aac,adf];decide);unfold vf;rw[By (by rfl)];refine Y7 (P:=λrr h'=>∃b,rr=arr b x.keys.length/\Z h0 h' (.av b (kl.map vi) ar::.av c9 [aM (arr ba N.length)] bt::.av ba (at'.map vi) ar::.av x2 [vi x.kind,.string x.text,.bool x.ord,aM ks,aM is] aW::.av bm (ms.map .bool) nV::.av x16 [aM out,vi r] ao::.ps out 5 aW ((R.map KR.r).flatMap gP.enc) g::(KO R++L))) ?_ ?_ λr1 h3 hr1=>?_
    .intro a' ha';simp only[aio,aai,aiQ,akr] at ha';subst ha';refine⟨_,_,zc.get 0 rfl,λr1 h3 hr1=>?_⟩;obtain⟨b,_,z⟩:=hr1;exact z.get 3 rfl
    .rw[ag];refine kr (c:=ai c9) rfl ?_;exact Oe ha ik (by omega) hk (by omega) z
    obtain⟨kb,rfl,z⟩:=hr1;have z:=Z.rU (pre:=[_,_,_]) z [1,2,0] (by simp only[aac,adf];decide);unfold vg;rw[By (by rfl),ag,ag];refine kr (c:=ai c9) rfl ?_;refine (Oe ha ii (by omega) hii (by omega) z).mono λr2 h4 hr2=>?_;obtain⟨ib,rfl,z⟩:=hr2;refine z.st 4 (cs:=[vi x.kind,.string x.text,.bool x.ord,aM ks,aM is]) (λh5 z=>z.st 4 (cs:=[vi x.kind,.string x.text,.bool x.ord,aM (arr kb x.keys.length),aM is]) (λh6 z=>?_));refine z.ld 6 (o:=0) (l:=.sl) (x:=out) ?_;refine z.fG 4 (ls:=[li,.str,.bool,.sl,.sl]) (x:=(x.kind,x.text,x.ord,arr kb x.keys.length,arr ib x.items.length)) ?_;have hps:yq h6 out 5 aW ((R.map KR.r).flatMap gP.enc) g:=z.get 7 rfl;have hol:out.len=R.length:=by
     have:=hps.1;rw[ic gP.kB,ae1] at this;omega
    refine z.TO 7 (new:=[vi x.kind,.string x.text,.bool x.ord,aM (arr kb x.keys.length),aM (arr ib x.items.length)]) rfl (by decide) rfl (by show out.len+1<=cT;unfold cT;omega) λout' h7 g' ho z _=>?_;refine z.st 6 λh8 z=>?_;have hkl:=vX hk;have hil:=vX hii
    let nw:KR:=⟨{ x with keys:=kl,items:=il },kb,ib⟩
    have henc:((R++[nw]).map KR.r).flatMap gP.enc=(R.map KR.r).flatMap gP.enc++[vi x.kind,.string x.text,.bool x.ord,aM (arr kb x.keys.length),aM (arr ib x.items.length)]:=by
     rw[ain,akq]
     congr 1
     show gP.enc nw.r++[]=_;rw[afw];show [vi x.kind,.string x.text,.bool x.ord,aM (arr kb kl.length),aM (arr ib il.length)]=_;rw[hkl,hil]
    have z:=Z.rU (pre:=[_,_,_,_,_,_,_,_]) z [4,1,2,5,6,7,3,0] (by simp only[aac,adf];decide);have z:=z.drop;have z:Z h0 h8 (KL x16 c9 ba bm out' r g' N.length at' ms (R++[nw])++(nw.own++(KO R++L))):=by
     unfold KL;rw[henc];exact z
    have z:Z h0 h8 (KL x16 c9 ba bm out' r g' N.length at' ms (R++[nw])++(KO (R++[nw])++L)):=by
     refine z.perm (List.Perm.append_left _ ?_);unfold KO;rw[akq,<-abt];refine aj2 _ ?_;show List.Perm (nw.own++R.flatMap KR.own) (R.flatMap KR.own++(nw.own++[]));rw[afw];exact ak1
    have:=ih (i+1) N2 out' g' (R++[nw]) h8 L (by omega) (by omega) hr (by simp;omega) z;rw[G.len] at this;refine this.mono λ_ h9 hx9=>?_;obtain⟨out2,g2,R2,e1,z⟩:=hx9;refine⟨out2,g2,R2,?_,z⟩;rw[e1,<-hv,ain,abt];rfl
  .rw[AT (by simp;omega),af]
   grind [List.drop_eq_nil_of_le,kN,kN]
theorem acn {s:Sl}{root:Int}{N:List ah}(z:Z h0 h L)(G:oj h0 s N){B:Nat}(hB:Bd N B){k n:Nat}(hk:k<=n)(hn:2*B+6<n){N':List ah}{r:Int}(hv:kept k N root=some (N',r)) :
  Wp (xW n (s,root)) h λx h'=>∃out g R,x=(out,r)/\R.map KR.v=N'/\Z h0 h' (.ps out 5 aW ((R.map KR.r).flatMap gP.enc) g::(KO R++L)):=by
 have hNB:=hB.1;have hBB:=hB.2.1;unfold kept at hv;cases hvis:yg k N root (List.replicate N.length false) with
 |none=>rw[hvis] at hv;cases hv
 |some ms=>
 rw[hvis] at hv;simp only at hv;cases hg:gt (rH ms 0) root with
 |none=>rw[hg] at hv;cases hv
 |some r1=>
 cases hN:kN (rH ms 0) ms N with
 |none=>rw[hg,hN] at hv;cases hv
 |some N1=>
 rw[hg,hN] at hv;simp only[aai,aiJ] at hv;obtain⟨rfl,rfl⟩:=hv;have hms:ms.length=N.length:=by have:=(FV k N).1 _ _ _ hvis;simpa using this
 have hkl:(rH ms 0).length=N.length:=by rw[CN,hms]
 unfold xW;refine z.new λx0 h1 z _=>z.new λx1 h2 z _=>?_;refine z.ld 1 (o:=0) (l:=.sl) (x:=s) ?_;rw[G.len];refine z.JE (by omega) (by unfold cT;omega) λbm h3 z _=>?_;rw[aab] at z⊢;rw[lj (enc:=Value.bool)] at z;refine z.fG 2 (ls:=[.sl,li]) (x:=(s,root)) ?_;refine z.ld 2 (o:=1) (l:=li) (x:=root) ?_;rw[ag];have hw:=BJ (cap:=N.length+1) z G hB hvis (n:=n) (root:=root) hk;rw[aeL] at hw;refine hw.mono λ_ h4 z=>?_;refine z.ld 2 (o:=0) (l:=.sl) (x:=s) ?_;rw[G.len];refine z.JE (by omega) (by unfold cT;omega) λba h5 z _=>?_;rw[aab] at z⊢;rw[lj (enc:=vi)] at z;refine z.new λc9 h6 z _=>z.st 0 λh7 z=>?_;rw[ag];refine (aiZ (m:=N.length) hms (by omega) (ai x0) (ai x1) n 0 0 h7 _ (by omega) (by omega) (by omega) rfl z).mono λ_ h8 z=>?_;refine z.ld 0 (o:=0) (l:=.sl) (x:=arr ba N.length) ?_;refine z.ld 4 (o:=1) (l:=li) (x:=root) ?_;refine z.HO (c:=rH ms 0) 1 hg hkl ?_;refine z.new λx16 h9 z _=>z.st 0 λh10 z=>?_;refine z.ld 5 (o:=0) (l:=.sl) (x:=s) ?_;have z:=z.add (Fr.refl z.wf) (o:=.ps ⟨none,0,0⟩ 5 aW [] 0) yq.nil (.inl rfl);have z:=Z.rU (pre:=[_,_,_,_,_]) z [2,3,4,1,0] (by simp only[aac,adf];decide);rw[ag];refine (acm G hB (x16:=x16) (c9:=c9) (ba:=ba) (bm:=bm) (r:=r1) hms hkl (ai x1) n 0 N1 ⟨none,0,0⟩ 0 [] h10 _ (by omega) (by omega) (by simpa using hN) (by simp) z).mono λ_ h11 hx=>?_;obtain⟨out,g,R,e,z⟩:=hx;refine z.fG 3 (ls:=[.sl,li]) (x:=(out,r1)) ?_;have z:=z.perm (L':=.av x1 [bF,vi 0] ao::(KL x16 c9 ba bm out r1 g N.length (rH ms 0) ms R++KO R++.av x0 [aM s,vi root] ao::L)) (by
  rw[<-abt];exact aip)
 refine z.st 0 λh12 z=>?_;refine z.fG 0 (ls:=[.sl,li]) (x:=(out,r1)) ?_;rw[af];refine⟨out,g,R,rfl,by simpa using e,?_⟩;refine z.drop.sub ?_;show List.Sublist _ (_::_::_::_::_::(KO R++_::L));exact List.Sublist.cons _ (List.Sublist.cons _ (List.Sublist.cons _ (List.Sublist.cons _ (List.Sublist.cons₂ _ ((ajH (KO R)).append (ajE _ L))))))
theorem agN {out:Sl}{g:Nat}{R:List KR}(z:Z h0 h (.ps out 5 aW ((R.map KR.r).flatMap gP.enc) g::(KO R++L))):oj h out (R.map KR.v):=by
 have hps:yq h out 5 aW ((R.map KR.r).flatMap gP.enc) g:=z.get 0 rfl;refine⟨R.map KR.r,g,by rw[akk];rfl,hps.Fi,λx hx=>?_⟩;obtain⟨y,hy,rfl⟩:=List.mem_map.1 hx;have hsub:∀o∈KR.own y,o.ok h:=λo ho=>(z.own o (IN _ (adh _ (List.mem_flatMap.2 ⟨y,hy,ho⟩)))).1;have l1:LB h y.kb (y.v.keys.map vi) ar:=hsub (.av y.kb (y.v.keys.map vi) ar) (by simp[KR.own]);have l2:LB h y.ib (y.v.items.map vi) ar:=hsub (.av y.ib (y.v.items.map vi) ar) (by simp[KR.own]);exact⟨⟨_,l1.Fi (by simp)⟩,⟨_,l2.Fi (by simp)⟩⟩
theorem agO {s:Sl}{root node:Int}{N:List ah}(z:Z h0 h L)(G:oj h0 s N){B:Nat}(hB:Bd N B)(ht:∀x∈N,x.text.size<=65536){k n:Nat}(hn:k+4*B+65600<n)(hc:me k N root=some 0)(h1:0<=node)(h2:node<N.length)
  {N':List ah} {r:Int} (hv:kept k N node=some (N',r)) :
  Wp (sA n (s,root) node) h λx h'=>∃out g R,x=((out,r),0)/\R.map KR.v=N'/\Z h0 h' (.ps out 5 aW ((R.map KR.r).flatMap gP.enc) g::(KO R++L)):=by
 unfold sA;refine z.new λx0 h1' z _=>z.new λx1 h2' z _=>?_;refine z.fG 1 (ls:=[.sl,li]) (x:=(s,root)) ?_;rw[ag];refine (zT z G hB ht hn hc).mono λy h3 hy=>?_;obtain⟨rfl,z⟩:=hy;rw[AT (by simp),AT (by simp;omega)];refine z.ld 1 (x:=s) ?_;rw[G.len,AT (by simp;omega)];refine z.ld 1 (x:=s) ?_;rw[ag];refine (acn z G hB (by omega) (by omega) hv).mono λy h4 hy=>?_;obtain⟨out,g,R,rfl,e,z⟩:=hy;have z:=z.perm (L':=.av x1 [bF,vi 0] ao::(.ps out 5 aW ((R.map KR.r).flatMap gP.enc) g::KO R++.av x0 [aM s,vi root] ao::L)) (by
  grind [KO,List.perm_middle])
 refine z.st 0 λh5 z=>?_;refine z.fG 0 (ls:=[.sl,li]) (x:=(out,r)) ?_;rw[af];refine⟨out,g,R,rfl,e,z.drop.sub ?_⟩
 grind
end
end Go.Sh
