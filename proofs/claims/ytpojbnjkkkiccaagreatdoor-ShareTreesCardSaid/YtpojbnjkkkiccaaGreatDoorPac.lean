
import Derived.Test.YtpojbnjkkkiccaaGreatDoorPab
set_option linter.all false
namespace Go.Sh
open Go Go.Ago Go.Proofs
section
variable {α β:Type}{h h' h0:ai}{L:List aZ}{Q:β->ai->Prop}{N M':Nat}
def DD (N:Nat)(P:α->Prop)(m:Nat->M α):Prop:=∃x,P x/\∀n h,N<=n->WF h->Wp (m n) h λy h'=>y=x/\Fr (λ_=>False) h h'
theorem PP.dd {P:α->Prop}{m}(hm:PP P m):DD N P m:=by
 obtain⟨x,hx,h1⟩:=hm;exact⟨x,hx,λn h _ hw=>⟨x,h,h1 n h,rfl,Fr.refl hw⟩⟩
def DD.pure {P:α->Prop}{x}(hx:P x):DD N P λ_=>AI x:=(PP.pure hx).dd
theorem DD.bind {P}{R}{m}{f:Nat->α->M β}(hm:DD N P m)(hf:∀x,P x->DD N R λn=>f n x):DD N R λn=>sh (m n) (f n):=by
 obtain⟨x,hx,h1⟩:=hm;obtain⟨y,hy,h2⟩:=hf x hx;refine⟨y,hy,λn h hn hw=>?_⟩;show Wp (sh (m n) (f n)) h _;rw[ah];refine (h1 n h hn hw).mono λz h3 hz=>?_;obtain⟨rfl,f3⟩:=hz;exact (h2 n h3 hn f3.wf).mono λw h4 hw4=>⟨hw4.1,jb hw f3 hw4.2⟩
def DD.ite {P:α->Prop}{c}[Decidable c]{a b}(ha:c->DD N P a)(hb:¬c->DD N P b):DD N P λn=>if c then a n else b n:=by
 by_cases hc:c
 .simp_all
 simp_all
def DD.mono {P P':α->Prop}{m}(hm:DD N P m)(hp:∀x,P x->P' x):DD N P' m:=let ⟨x,hx,h1⟩:=hm;⟨x,hp x hx,h1⟩
theorem DD.le {P:α->Prop}{m}(hm:DD N P m)(hl:N<=M'):DD M' P m:=let ⟨x,hx,h1⟩:=hm;⟨x,hx,λn h hn hw=>h1 n h (by omega) hw⟩
def DD.ck {b}(hb:b=true):DD N (Any:Unit->Prop) λ_=>pD b:=(PP.ck hb).dd
def HZ (y:Int):Bool:=decide (y.tmod 4=0)&&(!decide (y.tmod 100=0)||decide (y.tmod 400=0))
def NT:ε:=[0,31,28,31,30,31,30,31,31,30,31,30,31]
def nA (y m:Int):Int:=if m=2/\HZ y=true then 29 else NT.getD m.toNat 0
def u9 (y:Int):Int:=IntKind.i64.wrap (IntKind.i64.wrap (IntKind.i64.wrap (IntKind.i64.wrap (365*y)+IntKind.i64.wrap ((IntKind.i64.wrap (y+3)).tdiv 4))-IntKind.i64.wrap ((IntKind.i64.wrap (y+99)).tdiv 100))+IntKind.i64.wrap ((IntKind.i64.wrap (y+399)).tdiv 400))
theorem ae1 y:DD N (λb=>b=HZ y) λn=>Ae n y:=by
 unfold Ae HZ;refine (DD.ck (by decide)).bind λ_ _=>DD.ite (λh1=>(DD.ck (by decide)).bind λ_ _=>DD.ite (λh2=>DD.pure ?_) λh2=>(DD.ck (by decide)).bind λ_ _=>DD.pure ?_) λh1=>DD.pure ?_
 .grind
 .grind
 grind
theorem Hs {y m}(h1:1<=m)(h2:m<=12):DD N (λr=>r=nA y m) λn=>nU n y m:=by
 refine⟨nA y m,rfl,λn h hn hw=>?_⟩;obtain⟨lb,hlb,hl⟩:=ae1 (N:=N) y;unfold nU;refine (Z.start hw).new λx0 h1' z1 f1=>?_;refine z1.st 0 (cs':=NT.map vi) λh2' z2=>?_;have tail:∀{h3} (z3:Z h h3 [.ar x0 (NT.map vi) JX]),¬(m=2/\HZ y=true)->Wp (sh (pD (decide (0<=m/\m<((13:Nat):Int)))) λ_=>sh (dL li ((ak x0).plus (m.toNat*1))) λ(x4:Int)=>AI x4) h3 λy' h'=>y'=nA y m/\Fr (λ_=>False) h h':=by
  intro h3 z3 hne;rw[ah,Zf];refine⟨by grind,?_⟩;have hlt:m.toNat<NT.length:=by show m.toNat<13;omega
  have e1:(NT.map vi)[m.toNat]?=some (vi (NT.getD m.toNat 0)):=by
   grind
  have e2:((ak x0).plus (m.toNat*1))=⟨x0,m.toNat,none⟩:=by simp[Addr.plus]
  rw[e2];refine z3.ld 0 ?_ rfl e1 rfl;refine ag.2 ⟨?_,z3.fr⟩;unfold nA
  grind
 by_cases hm:m=2
 .rw[By (by grind),ah];refine (hl n h2' hn z2.wf).mono λb h3 hb=>?_;obtain⟨rfl,f3⟩:=hb;have z3:=z2.pure f3;cases hlp:HZ y with
  |true=>
   rw[hlb,By hlp,ag];exact⟨by unfold nA;grind,z3.fr⟩
  |false=>
   rw[hlb,AT (by grind)];exact tail z3 λx=>by grind
 .rw[AT (by grind)];exact tail z2 λx=>hm x.1
def Ku y:PP (λr=>r=u9 y) λn=>vE n y:=(PP.ck (by decide)).bind λ_ _=>(PP.ck (by decide)).bind λ_ _=>(PP.ck (by decide)).bind λ_ _=>PP.pure rfl
theorem ae2 (y m:Int)(hm:m<=12):∀(k:Nat) c d ,1<=d->m-d<=k->DD (k+1) (Any:Int->Prop) λn=>j6 n y m c d:=by
 intro k
 induction k with
 |zero=>
  intro c d hd hk;refine⟨c,trivial,λn h hn hw=>?_⟩;obtain⟨n,rfl⟩:∃m,n=m+1:=⟨n-1,by omega⟩;show Wp (j6 (n+1) y m c d) h _;rw[rX];unfold oL;rw[AT (by grind),ag];exact⟨rfl,Fr.refl hw⟩
 |succ k ih=>
  intro c d hd hk;by_cases hdm:d<m
  .obtain⟨l,_,hl⟩:=Hs (N:=0) (y:=y) (m:=d) hd (by omega);have ew:IntKind.i64.wrap (d+1)=d+1:=xQ (by omega) (by omega);obtain⟨x,_,hx⟩:=ih (IntKind.i64.wrap (c+l)) (d+1) (by omega) (by omega);refine⟨x,trivial,λn h hn hw=>?_⟩;obtain⟨n,rfl⟩:∃m,n=m+1:=⟨n-1,by omega⟩;show Wp (j6 (n+1) y m c d) h _;rw[rX];unfold oL;rw[By (by grind),ah];refine (hl n h (by omega) hw).mono λr h1 hr=>?_;obtain⟨rfl,f1⟩:=hr;rw[ew];exact (hx n h1 (by omega) f1.wf).mono λw h4 hw4=>⟨hw4.1,jb hw f1 hw4.2⟩
  .refine⟨c,trivial,λn h hn hw=>?_⟩;obtain⟨n,rfl⟩:∃m,n=m+1:=⟨n-1,by omega⟩;show Wp (j6 (n+1) y m c d) h _;rw[rX];unfold oL;rw[AT (by grind),ag];exact⟨rfl,Fr.refl hw⟩
def US y m d:DD 20 (Any:Int×Int->Prop) λn=>Al n y m d:=by
 refine DD.ite (λ_=>DD.pure trivial) λ_=>DD.ite (λ_=>DD.pure trivial) λ_=>DD.ite (λ_=>DD.pure trivial) λh1=>DD.ite (λ_=>DD.pure trivial) λh2=>DD.ite (λ_=>DD.pure trivial) λ_=>?_;simp only[aca] at h1 h2;refine (Hs (by omega) (by omega)).bind λx _=>DD.ite (λ_=>DD.pure trivial) λ_=>(Ku y).dd.bind λf _=>((ae2 y m (by omega) 12 _ 1 (by omega) (by omega)).le (by omega)).bind λr _=>DD.pure trivial
theorem xK {y}(h1:0<=y)(h2:y<=20000):u9 y=365*y+(y+3)/4-(y+99)/100+(y+399)/400:=by
 unfold u9;rw[xQ (x:=y+3) (by omega) (by omega),xQ (x:=y+99) (by omega) (by omega),xQ (x:=y+399) (by omega) (by omega),
  aid (by omega),aid (by omega),aid (by omega)]
 grind [xQ]
theorem ae3 {y}(h1:0<=y):HZ y=true↔(y%4=0/\(y%100≠0\/y%400=0)):=by
 grind [HZ,Int.tmod_eq_emod_of_nonneg]
def S8 (y:Int):Nat->Int
 |0=>0
 |k+1=>nA y (12-k)+S8 y k
theorem amU {y}(h1:0<=y)(h2:y<=10020):u9 (y+1)-u9 y=S8 y 12:=by
 rw[xK (by omega) (by omega),xK (by omega) (by omega)];have hl:=ae3 h1;have MN:∀m:Int,m≠2->nA y m=NT.getD m.toNat 0:=λm hm=>by unfold nA;grind
 have e:S8 y 12=337+nA y 2:=by
  show nA y 1+(nA y 2+(nA y 3+(nA y 4+(nA y 5+(nA y 6+(nA y 7+(nA y 8+(nA y 9+(nA y 10+(nA y 11+(nA y 12+0)))))))))))=_;have l1:nA y 1=31:=(MN 1 (by decide)).trans rfl;have l3:nA y 3=31:=(MN 3 (by decide)).trans rfl;have l4:nA y 4=30:=(MN 4 (by decide)).trans rfl;have l5:nA y 5=31:=(MN 5 (by decide)).trans rfl;have l6:nA y 6=30:=(MN 6 (by decide)).trans rfl;have l7:nA y 7=31:=(MN 7 (by decide)).trans rfl;have l8:nA y 8=31:=(MN 8 (by decide)).trans rfl;have l9:nA y 9=30:=(MN 9 (by decide)).trans rfl;have l10:nA y 10=31:=(MN 10 (by decide)).trans rfl;have l11:nA y 11=30:=(MN 11 (by decide)).trans rfl;have l12:nA y 12=31:=(MN 12 (by decide)).trans rfl;omega
 rw[e];by_cases hlp:HZ y=true
 .have:=hl.1 hlp;have e2:nA y 2=29:=by unfold nA;grind
  grind
 .have hn:¬(y%4=0/\(y%100≠0\/y%400=0)):=λx=>hlp (hl.2 x);have e2:nA y 2=28:=by unfold nA;rw[AT (λx=>hlp x.2)];rfl
  grind
theorem ae4 d (hd:d<=3652424):∀(k:Nat) y ,0<=y->y<=10009->u9 y<=d->10009-y<=k->DD (k+1) (λr:Int=>0<=r/\r<=10009/\u9 r<=d/\d<u9 (r+1)) λn=>mc n d y:=by
 intro k
 induction k with
 |zero=>
  intro y h1 h0 h2 h3;exfalso
  grind [xK]
 |succ k ih=>
  intro y h1 h0 h2 h3;have hy:y<10009:=by grind [xK]
  have ew:IntKind.i64.wrap (y+1)=y+1:=xQ (by omega) (by omega);obtain⟨f,hf,hf2⟩:=(Ku (y+1)).dd (N:=0);subst hf;by_cases hle:u9 (y+1)<=d
  .obtain⟨x,hx,hx2⟩:=ih (y+1) (by omega) (by omega) hle (by omega);refine⟨x,hx,λn h hn hw=>?_⟩;obtain⟨n,rfl⟩:∃m,n=m+1:=⟨n-1,by omega⟩;show Wp (mc (n+1) d y) h _;rw[xB];unfold rK;rw[ew,ah];refine (hf2 n h (by omega) hw).mono λr h1 hr=>?_;obtain⟨rfl,f1⟩:=hr;rw[By (by grind)];exact (hx2 n h1 (by omega) f1.wf).mono λw h4 hw4=>⟨hw4.1,jb hw f1 hw4.2⟩
  .refine⟨y,⟨h1,by omega,h2,by omega⟩,λn h hn hw=>?_⟩;obtain⟨n,rfl⟩:∃m,n=m+1:=⟨n-1,by omega⟩;show Wp (mc (n+1) d y) h _;rw[xB];unfold rK;rw[ew,ah];refine (hf2 n h (by omega) hw).mono λr h1 hr=>?_;obtain⟨rfl,f1⟩:=hr;rw[AT (by grind),ag]
   grind
theorem ae5 {y m}(h1:1<=m)(h2:m<=12):0<=nA y m/\nA y m<=31:=by
 unfold nA;split
 .omega
 .have:∀k:Nat,k<=12->0<=NT.getD k 0/\NT.getD k 0<=31:=by decide
  grind
abbrev Kv (x:Int):Prop:=-9223372036854775808<=x/\x<=9223372036854775807
theorem ae6 y:∀k r ,1<=k->k<=12->0<=r->r<=400->r<S8 y k->DD (k+1) (λx:Int×Int=>Kv x.2) λn=>lZ n r y (13-k):=by
 intro k
 induction k with
 |zero=>grind
 |succ k ih=>
  intro r h1 h2 h3 h4 h5;have hr:S8 y (k+1)=nA y (12-k)+S8 y k:=rfl;obtain⟨l,hl,hl2⟩:=Hs (N:=0) (y:=y) (m:=13-((k+1:Nat):Int)) (by omega) (by omega);have em:13-((k+1:Nat):Int)=12-k:=by omega
  rw[em] at hl hl2;have hlo:=ae5 (y:=y) (m:=12-k) (by omega) (by omega);rw[<-hl] at hlo hr;rw[em];by_cases hle:l<=r
  .by_cases hk:k=0
   .subst hk;have:S8 y 0=0:=rfl;omega
   have ew:IntKind.i64.wrap (r-l)=r-l:=xQ (by omega) (by omega);have ew2:IntKind.i64.wrap (12-(k:Int)+1)=13-k:=by grind [xQ]
   obtain⟨x,hxi,hx2⟩:=ih (r-l) (by omega) (by omega) (by omega) (by omega) (by omega);refine⟨x,hxi,λn h hn hw=>?_⟩;obtain⟨n,rfl⟩:∃m,n=m+1:=⟨n-1,by omega⟩;show Wp (lZ (n+1) r y (12-k)) h _;rw[xA];unfold rJ;rw[ah];refine (hl2 n h (by omega) hw).mono λv h1 hv=>?_;obtain⟨rfl,f1⟩:=hv;rw[By (by grind),ah];refine (hl2 n h1 (by omega) f1.wf).mono λv h2 hv=>?_;obtain⟨rfl,f2⟩:=hv;rw[ew,ew2];exact (hx2 n h2 (by omega) f2.wf).mono λw h4 hw4=>⟨hw4.1,jb hw f1 (jb f1.wf f2 hw4.2)⟩
  .refine⟨(r,12-k),by grind,λn h hn hw=>?_⟩;obtain⟨n,rfl⟩:∃m,n=m+1:=⟨n-1,by omega⟩;show Wp (lZ (n+1) r y (12-k)) h _;rw[xA];unfold rJ;rw[ah];refine (hl2 n h (by omega) hw).mono λv h1 hv=>?_;obtain⟨rfl,f1⟩:=hv;rw[AT (by grind),ag]
   grind
theorem ae7 d:DD 10020 (λx:Int×Int×Int×Int=>Kv x.1/\Kv x.2.1/\Kv x.2.2.1) λn=>ED n d:=by
 refine DD.ite (λ_=>DD.pure (by decide)) λh1=>DD.ite (λ_=>DD.pure (by decide)) λh2=>?_;simp only[aca] at h1 h2;have ew:IntKind.i64.wrap (d+719528)=d+719528:=xQ (by omega) (by omega);have ew2:IntKind.i64.wrap ((d+719528).tdiv 366)=(d+719528)/366:=by
  grind [Int.tdiv_eq_ediv_of_nonneg,xQ]
 unfold yO;rw[ew,ew2];refine (DD.ck (by decide)).bind λ_ _=>((ae4 (d+719528) (by omega) 10009 ((d+719528)/366) (by omega) (by omega) (by grind [xK]) (by omega)).le (by omega)).bind λy hy=>(Ku y).dd.bind λf hf=>?_;have hr:=amU hy.1 (by omega);have hfl:0<=u9 y:=by grind [xK]
 have h400:u9 (y+1)-u9 y<=400:=by grind [xK]
 subst hf;rw[xQ (by omega) (by omega)];exact ((ae6 y 12 (d+719528-u9 y) (by omega) (by omega) (by omega) (by omega) (by omega)).le (by omega)).bind λx hx=>DD.pure ⟨⟨by grind,by grind⟩,hx,S5 _⟩
end
section
variable {α β:Type}{h h' h0:ai}{L:List aZ}{Q:β->ai->Prop}{N M':Nat}
abbrev Mo:=Int×Int×Int×Int×Int×Int×Int×Int×Int×Int×Int
abbrev moL:List vO:=[li,li,li,li,li,li,li,li,li,li,.int .u8]
def mv (x:Mo):δ:=[vi x.1,vi x.2.1,vi x.2.2.1,vi x.2.2.2.1,vi x.2.2.2.2.1,vi x.2.2.2.2.2.1,vi x.2.2.2.2.2.2.1,vi x.2.2.2.2.2.2.2.1,vi x.2.2.2.2.2.2.2.2.1,vi x.2.2.2.2.2.2.2.2.2.1,v8 x.2.2.2.2.2.2.2.2.2.2]
def DM (N:Nat)(x:Mo)(P:α->Prop)(m:Nat->Nat->M α):Prop:=∃r,P r/\∀n h0 h b,N<=n->Z h0 h [.ar b (mv x) bN]->Wp (m n b) h λy h'=>y=r/\Z h0 h' [.ar b (mv x) bN]
variable {x:Mo}
theorem DM.pure {P:α->Prop}{r:α}(hr:P r):DM N x P λ_ _=>AI r:=⟨r,hr,λn h0 h b _ z=>ag.2 ⟨rfl,z⟩⟩
def DM.ite {P:α->Prop}{c:Prop}[Decidable c]{f g:Nat->Nat->M α}(ha:c->DM N x P f)(hb:¬c->DM N x P g):DM N x P λn a=>if c then f n a else g n a:=by
 by_cases hc:c
 .simp_all
 simp_all
theorem DM.dd {P:α->Prop}{R:β->Prop}{m:Nat->M α}{f:Nat->Nat->α->M β}(hm:DD N P m)(hf:∀y,P y->DM N x R λn a=>f n a y):DM N x R λn a=>sh (m n) (f n a):=by
 obtain⟨y,hy,h1⟩:=hm;obtain⟨r,hr,h2⟩:=hf y hy;refine⟨r,hr,λn h0 h b hn z=>?_⟩;show Wp (sh (m n) (f n b)) h _;rw[ah];refine (h1 n h hn z.wf).mono λw h3 hw=>?_;obtain⟨rfl,f3⟩:=hw;exact h2 n h0 h3 b hn (z.pure f3)
theorem DM.ddc {P:α->Prop}{R:β->Prop}{m:Nat->M α}{f:Nat->Nat->α->M β}{ads:Nat->List θ}(hm:DD N P m)(ha:∀b,∀a∈ads b,∀c,a=some c->c.block=b)(hf:∀y,P y->DM N x R λn a=>f n a y) :
  DM N x R λn a=>sh (Ago.tX (ads a) (m n)) (f n a):=by
 obtain⟨y,hy,h1⟩:=hm;obtain⟨r,hr,h2⟩:=hf y hy;refine⟨r,hr,λn h0 h b hn z=>?_⟩;show Wp (sh (Ago.tX (ads b) (m n)) (f n b)) h _;rw[ah];have l:LB h b _ _:=z.get 0 rfl;refine JQ ((h1 n h hn z.wf).mono λw h3 hw=>?_);obtain⟨rfl,f3⟩:=hw;refine⟨λa hma=>?_,h2 n h0 h3 b hn (z.pure f3)⟩;rw[ha b _ hma a rfl,l.get];exact f3.cells _ _ _ _ _ l.get λx=>x.elim
theorem DM.ld {R:β->Prop}{o:Nat}{l:vO}{g:Nat->Addr}{v:ξ}{w:l.den}{f:Nat->Nat->l.den->M β}(hg:∀b,g b=⟨b,o,none⟩)(hv:(mv x)[o]?=some v)(hw:D6 l v=some w)(hf:DM N x R λn a=>f n a w):DM N x R λn a=>sh (dL l (g a)) (f n a):=by
 obtain⟨r,hr,h2⟩:=hf;refine⟨r,hr,λn h0 h b hn z=>?_⟩;show Wp (sh (dL l (g b)) (f n b)) h _;rw[hg b];exact z.ld 0 (h2 n h0 h b hn z) rfl hv hw
theorem DM.gh {R:β->Prop}{f:Nat->Nat->Mo->M β}(hf:DM N x R λn a=>f n a x):DM N x R λn a=>sh (cT moL (ak a)) (f n a):=by
 obtain⟨r,hr,h2⟩:=hf;refine⟨r,hr,λn h0 h b hn z=>?_⟩;show Wp (sh (cT moL (ak b)) (f n b)) h _;exact z.gh 0 (ls:=moL) (x:=x) (h2 n h0 h b hn z)
def DM.ck {R:β->Prop}{c:Bool}{f:Nat->Nat->Unit->M β}(hc:c=true)(hf:DM N x R λn a=>f n a ()):DM N x R λn a=>sh (pD c) (f n a):=DM.dd (DD.ck hc) λ_ _=>hf
theorem DM.run {P:α->Prop}{m:Nat->Nat->M α}(hm:DM N x P m):DD N P λn=>sh (iI none bN (mv x)) λb=>m n b:=by
 obtain⟨r,hr,h1⟩:=hm;exact⟨r,hr,λn h hn hw=>(Z.start hw).new λb h1' z1 f1=>(h1 n h h1' b hn z1).mono λy h2 h3=>⟨h3.1,h3.2.fr⟩⟩
theorem DM.le {P:α->Prop}{m:Nat->Nat->M α}(hm:DM N x P m)(hl:N<=M'):DM M' x P m:=let ⟨r,hr,h1⟩:=hm;⟨r,hr,λn h0 h b hn z=>h1 n h0 h b (by omega) z⟩
def DD.cat {x y:ζ}(hs:x.size+y.size<=1000000):DD N (λz:ζ=>z.size=x.size+y.size/\z.data.toList=x.data.toList++y.data.toList) λ_=>kc x y:=(PP.cat (by unfold da;omega)).dd
def ae8:∀(l:List UInt8) (c:Nat),(Lib.repeatL l c).length=c*l.length:=λl c=>Lib.repeatL_length l c
theorem EY {a w:Int}(ha:Kv a)(hw:0<=w/\w<=9):DD N (λx:ζ=>x.size<=30/\0<x.size/\CS zC x) λn=>j5 n a w:=by
 unfold j5;refine (abd ha.1 ha.2).dd.bind λx0 h0=>?_;have hc:0<=(if 0<IntKind.i64.wrap (w-(x0.size:Int)) then IntKind.i64.wrap (w-(x0.size:Int)) else 0)/\(if 0<IntKind.i64.wrap (w-(x0.size:Int)) then IntKind.i64.wrap (w-(x0.size:Int)) else 0)<=9:=by
  rw[xQ (by omega) (by omega)];split<;>omega
 generalize (if 0<IntKind.i64.wrap (w-(x0.size:Int)) then IntKind.i64.wrap (w-(x0.size:Int)) else 0)=c at hc⊢;refine DD.bind (P:=λx:ζ=>x.size<=9/\CS zC x) ?_ λx1 h1=>(DD.cat (by omega)).bind λx2 h2=>DD.pure ⟨by omega,by omega,h1.2.app h0.2.2 h2.2⟩;unfold strings_Repeat;have h48:(ofBytes [48]).size=1:=rfl;refine (PP.ite (λ_=>PP.pure ⟨?_,aeW (λb hb=>?_) _⟩) λhn=>absurd ⟨hc.1,by omega,by omega⟩ hn).dd
 .show (Lib.repeatL [48] c.toNat).toArray.size<=9;rw[aou,ae8];simp;omega
 .obtain rfl:=List.mem_singleton.1 (show b∈[48] from hb);decide
def EZ (x:Mo):Prop:=Kv x.2.1/\Kv x.2.2.1/\Kv x.2.2.2.1/\Kv x.2.2.2.2.1/\Kv x.2.2.2.2.2.1/\Kv x.2.2.2.2.2.2.1/\Kv x.2.2.2.2.2.2.2.2.2.1
theorem akB (l:List UInt8)(c:UInt8):(Lib.trimRightB l c).length<=l.length:=by
 grind [Lib.trimRightB,List.dropWhile_sublist]
abbrev TXs (r:ζ):Prop:=r.size<=300/\TX r
def cs1 {b:UInt8}(h:LP b=true):CS LP (ofBytes [b]):=λd hd=>by
 obtain rfl:=List.mem_singleton.1 (show d∈[b] from hd);exact h
theorem UT (hx:EZ x){s:ζ}(hs:s.size<=200)(ht:TX s):DM N x TXs λn a=>gT n (ak a) s:=by
 unfold gT;have h46:(ofBytes [46]).size=1:=rfl;refine DM.ld (o:=9) (λ_=>rfl) rfl rfl (DM.ite (λ_=>DM.ld (o:=9) (λ_=>rfl) rfl rfl (DM.dd (EY hx.2.2.2.2.2.2 (by omega)) λx2 h2=>DM.dd (P:=λy:ζ=>y.size<=30/\CS zC y) ?_ λx3 h3=>DM.dd (DD.cat (by omega)) λx4 h4=>DM.dd (DD.cat (by omega)) λx5 h5=>DM.pure ⟨by omega,ht.app ((cs1 (by decide)).app h3.2.mom h4.2) h5.2⟩)) λ_=>DM.pure ⟨by omega,ht⟩);refine⟨⟨(Lib.trimRightB x2.data.toList 48).toArray⟩,⟨?_,λb hb=>h2.2.2 b (aa9 b hb)⟩,λn h _ hw=>?_⟩
 .show (Lib.trimRightB x2.data.toList 48).toArray.size<=30;have:=akB x2.data.toList 48;have h5:x2.data.toList.length=x2.size:=rfl;rw[aou];omega
 .show Wp (gQ n x2 (ofBytes [48])) h _;unfold gQ;show Wp (if (48:UInt8).toNat<128/\x2.size<=9223372036854775807 then AI (⟨(Lib.trimRightB x2.data.toList 48).toArray⟩:ζ) else AS) h _;rw[By ⟨by decide,by omega⟩];exact ag.2 ⟨rfl,Fr.refl hw⟩
theorem I1 (hx:EZ x){s:ζ}(hs:s.size<=100)(hc:CS LP s)(ht:x.1=1->TX s):DM N x TXs λn a=>ep n (ak a) s:=by
 unfold ep;have h58:(ofBytes [58]).size=1:=rfl;refine DM.ld (o:=0) (λ_=>rfl) rfl rfl (DM.ite (λ_=>DM.ck (by decide) (DM.ck (by decide) (DM.ck (by decide) (DM.ld (o:=4) (λ_=>rfl) rfl rfl (DM.ld (o:=5) (λ_=>rfl) rfl rfl (DM.ld (o:=6) (λ_=>rfl) rfl rfl ?_)))))) λg=>UT hx (by omega) (ht (by simpa using g)));refine DM.ddc (ads:=λa=>[some (((ak a).plus 1).plus 4),some (((ak a).plus 1).plus 5)]) (EY hx.2.2.2.1 (by omega)) (λb a hm c hc=>by grind [Addr.plus]) λx7 h7=>DM.dd (DD.cat (by omega)) λx8 h8=>?_;have t8:TX x8:=.mk' h7.2.1 h7.2.2 (.inr rfl) h8.2;refine DM.ddc (ads:=λa=>[some (((ak a).plus 1).plus 5)]) (EY hx.2.2.2.2.1 (by omega)) (λb a hm c hc=>by subst hc;simp[Addr.plus] at hm;subst hm;rfl) λx9 h9=>DM.dd (DD.cat (by omega)) λdZ h10=>DM.dd (DD.cat (by omega)) λx11 h11=>?_;have t11:TX x11:=(t8.app h9.2.2.mom h10.2).app (cs1 (by decide)) h11.2;exact DM.dd (EY hx.2.2.2.2.2.1 (by omega)) λx12 h12=>DM.dd (DD.cat (by omega)) λx13 h13=>DM.dd (DD.cat (by omega)) λfJ h14=>UT hx (by omega) (.pre hc (t11.app h12.2.2.mom h13.2) h14.2)
theorem UU (hx:EZ x):DD N TXs λn=>jF n x:=by
 unfold jF;refine DM.run ?_;have h45:(ofBytes [45]).size=1:=rfl;have h84:(ofBytes [84]).size=1:=rfl;have h00:(ofBytes []).size=0:=rfl;refine DM.ld (o:=0) (λ_=>rfl) rfl rfl (DM.ite (λ_=>DM.ck (by decide) (DM.ck (by decide) (DM.ck (by decide) (DM.ld (o:=1) (λ_=>rfl) rfl rfl (DM.ld (o:=2) (λ_=>rfl) rfl rfl (DM.ld (o:=3) (λ_=>rfl) rfl rfl ?_)))))) λg=>?_)
 .refine DM.ddc (ads:=λa=>[some (((ak a).plus 1).plus 1),some (((ak a).plus 1).plus 2)]) (EY hx.1 (by omega)) (λb a hm c hc=>by grind [Addr.plus]) λx8 h8=>DM.dd (DD.cat (by omega)) λx9 h9=>?_;have t9:TX x9:=.mk' h8.2.1 h8.2.2 (.inl rfl) h9.2;refine DM.ddc (ads:=λa=>[some (((ak a).plus 1).plus 2)]) (EY hx.2.1 (by omega)) (λb a hm c hc=>by subst hc;simp[Addr.plus] at hm;subst hm;rfl) λdZ h10=>DM.dd (DD.cat (by omega)) λx11 h11=>DM.dd (DD.cat (by omega)) λx12 h12=>?_;have t12:TX x12:=(t9.app h10.2.2.mom h11.2).app (cs1 (by decide)) h12.2;refine DM.dd (EY hx.2.2.1 (by omega)) λx13 h13=>DM.dd (DD.cat (by omega)) λfJ h14=>?_;have t14:TX fJ:=t12.app h13.2.2.mom h14.2;exact DM.ld (o:=0) (λ_=>rfl) rfl rfl (DM.ite (λ_=>DM.dd (DD.cat (by omega)) λsK h16=>have t:=t14.app (cs1 (by decide)) h16.2;I1 hx (by omega) t.1 λ_=>t) λ_=>I1 hx (by omega) t14.1 λ_=>t14)
 .have g:x.1=2:=by simpa using g
  have e0:CS LP (ofBytes []):=λb hb=>by cases hb
  exact DM.ld (o:=0) (λ_=>rfl) rfl rfl (DM.ite (λ_=>DM.dd (DD.cat (by omega)) λsK h16=>I1 hx (by omega) (e0.app (cs1 (by decide)) h16.2) λq=>by omega) λ_=>I1 hx (by omega) e0 λq=>by omega)
end
section
variable {α β:Type}{h h' h0:ai}{L:List aZ}{Q:β->ai->Prop}{N M':Nat}
structure Bk where
 b0:Nat
 b1:Nat
 b2:Nat
 b3:Nat
 b5:Nat
structure Sg where
 x:Mo
 pos:Int
 y:Mo
abbrev Qk (B:Bk):ξ:=Value.func (Fn.func qs) #[] #[Value.pointer (some (ak B.b3)),Value.pointer (some (ak B.b0))]
abbrev SL (s:ζ)(B:Bk)(σ:Sg):List aZ:=[.ar B.b5 [Qk B] xk,.ar B.b3 [vi σ.pos] al,.ar B.b2 (mv σ.x) bN,.ar B.b1 (mv σ.y) bN,.ar B.b0 [.string s] vD]
def DS (N:Nat)(s:ζ)(σ:Sg)(P:α->Sg->Prop)(m:Nat->Bk->M α):Prop:=∃r σ',P r σ'/\∀n B h0 h,N<=n->Z h0 h (SL s B σ)->Wp (m n B) h λy h'=>y=r/\Z h0 h' (SL s B σ')
variable {s:ζ}{σ:Sg}
theorem DS.pure {P:α->Sg->Prop}{r}(hr:P r σ):DS N s σ P λ_ _=>AI r:=⟨r,σ,hr,λn B h0 h _ z=>ag.2 ⟨rfl,z⟩⟩
theorem DS.bind {P}{R}{m}{f:Nat->Bk->α->M β}(hm:DS N s σ P m)(hf:∀x σ',P x σ'->DS N s σ' R λn B=>f n B x):DS N s σ R λn B=>sh (m n B) (f n B):=by
 obtain⟨x,σ1,hx,h1⟩:=hm;obtain⟨y,σ2,hy,h2⟩:=hf x σ1 hx;refine⟨y,σ2,hy,λn B h0 h hn z=>?_⟩;show Wp (sh (m n B) (f n B)) h _;rw[ah];refine (h1 n B h0 h hn z).mono λw h3 hw=>?_;obtain⟨rfl,z3⟩:=hw;exact h2 n B h0 h3 hn z3
def DS.ite {P:α->Sg->Prop}{c}[Decidable c]{a b}(ha:c->DS N s σ P a)(hb:¬c->DS N s σ P b):DS N s σ P λn B=>if c then a n B else b n B:=by
 by_cases hc:c
 .simp_all
 simp_all
theorem DS.le {P:α->Sg->Prop}{m}(hm:DS N s σ P m)(hl:N<=M'):DS M' s σ P m:=let ⟨x,σ1,hx,h1⟩:=hm;⟨x,σ1,hx,λn B h0 h hn z=>h1 n B h0 h (by omega) z⟩
theorem DS.succ {P:α->Sg->Prop}{l m}(he:∀n B,l (n+1) B=m n B)(hm:DS N s σ P m):DS (N+1) s σ P l:=by
 obtain⟨x,σ1,hx,h1⟩:=hm;refine⟨x,σ1,hx,λn B h0 h hn z=>?_⟩;obtain⟨n,rfl⟩:∃m,n=m+1:=⟨n-1,by omega⟩;rw[he];exact h1 n B h0 h (by omega) z
theorem DS.IG {R}{f:Nat->Bk->Int->M β}(hf:DS N s σ R λn B=>f n B σ.pos):DS N s σ R λn B=>sh (dL li (ak B.b3)) (f n B):=by
 obtain⟨r,σ1,hr,h2⟩:=hf;exact⟨r,σ1,hr,λn B h0 h hn z=>z.ld 1 (h2 n B h0 h hn z)⟩
theorem DS.stP {R}{v}{f:Nat->Bk->Unit->M β}(hf:DS N s { σ with pos:=v } R λn B=>f n B ()):DS N s σ R λn B=>sh (rN (ak B.b3) [vi v]) (f n B):=by
 obtain⟨r,σ1,hr,h2⟩:=hf;exact⟨r,σ1,hr,λn B h0 h hn z=>z.st 1 λh' z'=>h2 n B h0 h' hn z'⟩
theorem DS.Ld {R}{f:Nat->Bk->ζ->M β}(hf:DS N s σ R λn B=>f n B s):DS N s σ R λn B=>sh (dL .str (ak B.b0)) (f n B):=by
 obtain⟨r,σ1,hr,h2⟩:=hf;exact⟨r,σ1,hr,λn B h0 h hn z=>z.ld 4 (h2 n B h0 h hn z)⟩
theorem DS.ldF {R}{f:Nat->Bk->ξ->M β}(hf:DS N s σ R λn B=>f n B (Qk B)):DS N s σ R λn B=>sh (dL .raw (ak B.b5)) (f n B):=by
 obtain⟨r,σ1,hr,h2⟩:=hf;exact⟨r,σ1,hr,λn B h0 h hn z=>z.ld 0 (h2 n B h0 h hn z)⟩
theorem DS.ix {R}{i:Int}{f:Nat->Bk->UInt8->M β}(h1:0<=i)(h2:i<s.size)(hf:∀c,DS N s σ R λn B=>f n B c):DS N s σ R λn B=>sh (lj s i) (f n B):=by
 have hlt:i.toNat<s.size:=by omega
 obtain⟨r,σ1,hr,h3⟩:=hf s[i.toNat];refine⟨r,σ1,hr,λn B h0 h hn z=>?_⟩;show Wp (sh (lj s i) (f n B)) h _;rw[ah,je]
 grind
theorem DS.fn {ts}{R}{v:Bk->ξ}{c:Bk->aV ts}{f:Nat->Bk->aV ts->M β}(hx:∀B,yX ts (MX (v B))=some (c B))(hf:DS N s σ R λn B=>f n B (c B)):DS N s σ R λn B=>sh (mr ts (v B)) (f n B):=by
 grind [Wp,sh,mr,ah,iA]
def XL (x:Mo)(j:Nat)(v:Int):Mo:=
 match j with
 |0=>(v,x.2)
 |1=>(x.1,v,x.2.2)
 |2=>(x.1,x.2.1,v,x.2.2.2)
 |3=>(x.1,x.2.1,x.2.2.1,v,x.2.2.2.2)
 |4=>(x.1,x.2.1,x.2.2.1,x.2.2.2.1,v,x.2.2.2.2.2)
 |5=>(x.1,x.2.1,x.2.2.1,x.2.2.2.1,x.2.2.2.2.1,v,x.2.2.2.2.2.2)
 |6=>(x.1,x.2.1,x.2.2.1,x.2.2.2.1,x.2.2.2.2.1,x.2.2.2.2.2.1,v,x.2.2.2.2.2.2.2)
 |7=>(x.1,x.2.1,x.2.2.1,x.2.2.2.1,x.2.2.2.2.1,x.2.2.2.2.2.1,x.2.2.2.2.2.2.1,v,x.2.2.2.2.2.2.2.2)
 |8=>(x.1,x.2.1,x.2.2.1,x.2.2.2.1,x.2.2.2.2.1,x.2.2.2.2.2.1,x.2.2.2.2.2.2.1,x.2.2.2.2.2.2.2.1,v,x.2.2.2.2.2.2.2.2.2)
 |_=>(x.1,x.2.1,x.2.2.1,x.2.2.2.1,x.2.2.2.2.1,x.2.2.2.2.2.1,x.2.2.2.2.2.2.1,x.2.2.2.2.2.2.2.1,x.2.2.2.2.2.2.2.2.1,v,x.2.2.2.2.2.2.2.2.2.2)
def getM (x:Mo)(j:Nat):Int:=
 match j with
 |0=>x.1|1=>x.2.1|2=>x.2.2.1|3=>x.2.2.2.1|4=>x.2.2.2.2.1|5=>x.2.2.2.2.2.1|6=>x.2.2.2.2.2.2.1|7=>x.2.2.2.2.2.2.2.1|8=>x.2.2.2.2.2.2.2.2.1|_=>x.2.2.2.2.2.2.2.2.2.1
def akD {j}(h:j<=9):j=0\/j=1\/j=2\/j=3\/j=4\/j=5\/j=6\/j=7\/j=8\/j=9:=by omega
def abf {x}{j}{v}(hj:j<=9):aM (mv x) j [vi v]=mv (XL x j v):=by
 rcases akD hj with rfl|rfl|rfl|rfl|rfl|rfl|rfl|rfl|rfl|rfl<;>rfl
def UW {x}{j}(hj:j<=9):(mv x)[j]?=some (vi (getM x j)):=by
 rcases akD hj with rfl|rfl|rfl|rfl|rfl|rfl|rfl|rfl|rfl|rfl<;>rfl
def Gc {x}{j}{v}(hj:j<=9)(hx:EZ x)(hv:Kv v):EZ (XL x j v):=by
 obtain⟨h1,h2,h3,h4,h5,h6,h7⟩:=hx;rcases akD hj with rfl|rfl|rfl|rfl|rfl|rfl|rfl|rfl|rfl|rfl<;>(unfold XL EZ;simp only;exact⟨by assumption,by assumption,by assumption,by assumption,by assumption,by assumption,by assumption⟩)
theorem DS.ldX {R}{j}{g:Bk->Addr}{f:Nat->Bk->Int->M β}(hg:∀B,g B=⟨B.b2,j,none⟩)(hj:j<=9)(hf:DS N s σ R λn B=>f n B (getM σ.x j)):DS N s σ R λn B=>sh (dL li (g B)) (f n B):=by
 obtain⟨r,σ1,hr,h2⟩:=hf;refine⟨r,σ1,hr,λn B h0 h hn z=>?_⟩;show Wp (sh (dL li (g B)) (f n B)) h _;rw[hg];exact z.ld 2 (h2 n B h0 h hn z) rfl (UW hj) rfl
theorem DS.stX {R}{j}{v}{g:Bk->Addr}{f:Nat->Bk->Unit->M β}(hg:∀B,g B=⟨B.b2,j,none⟩)(hj:j<=9)(hf:DS N s { σ with x:=XL σ.x j v } R λn B=>f n B ()):DS N s σ R λn B=>sh (rN (g B) [vi v]) (f n B):=by
 obtain⟨r,σ1,hr,h2⟩:=hf;refine⟨r,σ1,hr,λn B h0 h hn z=>?_⟩;show Wp (sh (rN (g B) [vi v]) (f n B)) h _;rw[hg];exact z.st 2 (λh' z'=>h2 n B h0 h' hn z') rfl (abf hj) (by show j+1<=11;omega)
def akE (x:Mo)(v:Int):Mo:=(x.1,x.2.1,x.2.2.1,x.2.2.2.1,x.2.2.2.2.1,x.2.2.2.2.2.1,x.2.2.2.2.2.2.1,x.2.2.2.2.2.2.2.1,x.2.2.2.2.2.2.2.2.1,x.2.2.2.2.2.2.2.2.2.1,v)
theorem DS.ldZ {R}{f:Nat->Bk->Int->M β}(hf:DS N s σ R λn B=>f n B σ.x.2.2.2.2.2.2.2.2.2.2):DS N s σ R λn B=>sh (dL (.int .u8) ((ak B.b2).plus 10)) (f n B):=by
 obtain⟨r,σ1,hr,h2⟩:=hf;exact⟨r,σ1,hr,λn B h0 h hn z=>z.ld 2 (h2 n B h0 h hn z)⟩
theorem DS.stZ {R}{v}{f:Nat->Bk->Unit->M β}(hf:DS N s { σ with x:=akE σ.x v } R λn B=>f n B ()):DS N s σ R λn B=>sh (rN ((ak B.b2).plus 10) [v8 v]) (f n B):=by
 obtain⟨r,σ1,hr,h2⟩:=hf;exact⟨r,σ1,hr,λn B h0 h hn z=>z.st 2 (λh' z'=>h2 n B h0 h' hn z') rfl rfl (abi 11)⟩
theorem DS.gh {R}{f:Nat->Bk->Mo->M β}(hf:DS N s σ R λn B=>f n B σ.x):DS N s σ R λn B=>sh (cT moL (ak B.b2)) (f n B):=by
 obtain⟨r,σ1,hr,h2⟩:=hf;exact⟨r,σ1,hr,λn B h0 h hn z=>z.gh 2 (h2 n B h0 h hn z)⟩
theorem DS.amY {R}{f:Nat->Bk->Mo->M β}(hf:DS N s σ R λn B=>f n B σ.y):DS N s σ R λn B=>sh (cT moL (ak B.b1)) (f n B):=by
 obtain⟨r,σ1,hr,h2⟩:=hf;exact⟨r,σ1,hr,λn B h0 h hn z=>z.gh 3 (h2 n B h0 h hn z)⟩
theorem DS.stY {R}{x}{f:Nat->Bk->Unit->M β}(hf:DS N s { σ with y:=x } R λn B=>f n B ()):DS N s σ R λn B=>sh (rN (ak B.b1) (mv x)) (f n B):=by
 obtain⟨r,σ1,hr,h2⟩:=hf;exact⟨r,σ1,hr,λn B h0 h hn z=>z.st 3 (λh' z'=>h2 n B h0 h' hn z') rfl rfl (abi _)⟩
theorem DS.aoG {R}{x}{f:Nat->Bk->Unit->M β}(hf:DS N s { σ with y:=x } R λn B=>f n B ()):DS N s σ R λn B=>sh (Ago.tX [some (ak B.b3),some (ak B.b0)] (rN (ak B.b1) (mv x))) (f n B):=by
 obtain⟨r,σ1,hr,h2⟩:=hf;refine⟨r,σ1,hr,λn B h0 h hn z=>?_⟩;show Wp (sh (Ago.tX [some (ak B.b3),some (ak B.b0)] (rN (ak B.b1) (mv x))) (f n B)) h _;rw[ah];refine JQ ?_;have l0:LB h B.b0 _ _:=z.get 4 rfl;have l3:LB h B.b3 _ _:=z.get 1 rfl;have key:Wp (sh (rN (ak B.b1) (mv x)) AI) h λy h'=>Z h0 h' (SL s B { σ with y:=x }):=z.st 3 (λh' z'=>ag.2 z') rfl rfl (abi _);rw[ah] at key;refine key.mono λy h' hz=>?_;have z':=ag.1 hz;have m0:LB h' B.b0 _ _:=z'.get 4 rfl;have m3:LB h' B.b3 _ _:=z'.get 1 rfl;refine⟨λa hm=>?_,h2 n B h0 h' hn z'⟩;simp at hm;rcases hm with rfl|rfl
 .show h'.get B.b3=h.get B.b3;rw[l3.get,m3.get]
 .show h'.get B.b0=h.get B.b0;rw[l0.get,m0.get]
def OKr (r:Mo×Bool)(_:Sg):Prop:=EZ r.1
structure Fh (s:ζ) (σ:Sg):Prop where
 lo:0<=σ.pos
 hi:σ.pos<=s.size
 ok:EZ σ.x
def abg x:Kv (IntKind.i64.wrap x):=S5 x
def Fh.fwd (i:Fh s σ)(hs:s.size<=1000000)(h:σ.pos<s.size):Fh s { σ with pos:=IntKind.i64.wrap (σ.pos+1) }:=by
 have:=i.lo;refine⟨?_,?_,i.ok⟩<;>simp<;>rw[xQ (by omega) (by omega)]<;>omega
def aoH (s:ζ)(r:Int⊕(Int×Bool))(σ:Sg):Prop:=Fh s σ/\(match r with | .inl v=>Kv v | .inr p=>Kv p.1)
theorem akF (hs:s.size<=1000000):∀(k:Nat) (c v i:Int) σ ,Fh s σ->0<=i->c-i<=k->c<=100->Kv v->DS (k+1) s σ (aoH s) λn B=>jh n (ak B.b3) (ak B.b0) v c i:=by
 intro k
 induction k with
 |zero=>
  intro c v i σ iv hi hk hc hv;refine DS.succ (m:=λn B=>jC (jh n) n (ak B.b3) (ak B.b0) v c i) (λ_ _=>rfl) ?_;unfold jC;exact DS.ite (λh1=>by grind) λ_=>DS.pure ⟨iv,hv⟩
 |succ k ih=>
  intro c v i σ iv hi hk hc hv;refine DS.succ (m:=λn B=>jC (jh n) n (ak B.b3) (ak B.b0) v c i) (λ_ _=>rfl) ?_;unfold jC;have z64:Kv 0:=by grind
  refine DS.ite (λh1=>DS.IG (DS.Ld (DS.ite (λ_=>DS.pure ⟨iv,z64⟩) λh2=>?_))) λ_=>DS.pure ⟨iv,hv⟩;simp only[aca] at h1 h2;have h3:σ.pos<s.size:=by omega
  refine DS.Ld (DS.IG (DS.ix iv.lo h3 λc1=>DS.ite (λ_=>DS.pure ⟨iv,z64⟩) λ_=>DS.Ld (DS.IG (DS.ix iv.lo h3 λc2=>DS.ite (λ_=>DS.pure ⟨iv,z64⟩) λ_=>?_))));unfold nO;have e:IntKind.i64.wrap (i+1)=i+1:=xQ (by omega) (by omega);refine DS.Ld (DS.IG (DS.ix iv.lo h3 λc3=>DS.IG (DS.stP ?_)));rw[e];exact ih _ _ _ _ (iv.fwd hs h3) (by omega) (by omega) hc (abg _)
theorem akG (hs:s.size<=1000000){c}(h1:0<=c)(h2:c<=9){σ}(iv:Fh s σ):DS 10 s σ (λ(r:Int×Bool) σ'=>Fh s σ'/\Kv r.1) λn B=>kB n (Qk B) c:=by
 have he:∀n B,kB n (Qk B) c=sh (mr [aw,aw] (Qk B)) λ(x:Addr×Addr)=>pS n c x.1 x.2:=λn B=>by
  unfold kB;rw[By (show nG qs (Qk B)=true from rfl)]
 suffices hh:DS 10 s σ (λ(r:Int×Bool) σ'=>Fh s σ'/\Kv r.1) λn B=>sh (mr [aw,aw] (Qk B)) λ(x:Addr×Addr)=>pS n c x.1 x.2 by
  grind
 refine DS.fn (c:=λB=>(ak B.b3,ak B.b0)) (λB=>rfl) ?_;unfold pS;refine DS.bind ((akF hs 9 c 0 0 σ iv (by omega) (by omega) (by omega) (by grind)).le (by omega)) λr σ1 hr=>?_;cases r with
 |inl v=>exact DS.pure ⟨hr.1,hr.2⟩
 |inr p=>exact DS.pure ⟨hr.1,hr.2⟩
abbrev sl2 (B:Bk)(lo len cap:Nat):Sl:=⟨some ⟨B.b2,lo,none⟩,len,cap⟩
theorem DS.ixA {R}{i}{lo len cap:Nat}{f:Nat->Bk->Addr->M β}(h1:0<=i)(h2:i<(len:Int))(hf:DS N s σ R λn B=>f n B ⟨B.b2,lo+i.toNat,none⟩):DS N s σ R λn B=>sh (mz (sl2 B lo len cap) i 1) (f n B):=by
 obtain⟨r,σ1,hr,h3⟩:=hf;refine⟨r,σ1,hr,λn B h0 h hn z=>?_⟩;show Wp (sh (mz (sl2 B lo len cap) i 1) (f n B)) h _;rw[ah,zY];refine⟨_,rfl,h1,h2,?_⟩;have e:(Addr.plus ⟨B.b2,lo,none⟩ (i.toNat*1))=⟨B.b2,lo+i.toNat,none⟩:=by simp[Addr.plus]
 rw[e];exact h3 n B h0 h hn z
def amZ (s:ζ)(_:Unit⊕Bool)(σ:Sg):Prop:=Fh s σ
theorem akH (hs:s.size<=1000000){lo len cap:Nat}(hl:lo+len<=10) fst sep (hf:0<=fst/\fst<=9):∀(k:Nat) i σ ,Fh s σ->0<=i->(len:Int)-i<=k->DS (k+11) s σ (amZ s) λn B=>gS n (sl2 B lo len cap) fst sep (ak B.b3) (ak B.b0) (ak B.b5) len i:=by
 intro k
 induction k with
 |zero=>
  intro i σ iv hi hk;refine DS.succ (m:=λn B=>jD (gS n) n (sl2 B lo len cap) fst sep (ak B.b3) (ak B.b0) (ak B.b5) len i) (λ_ _=>rfl) ?_;unfold jD;exact DS.ite (λh1=>by grind) λ_=>DS.pure iv
 |succ k ih=>
  intro i σ iv hi hk;have e:IntKind.i64.wrap (i+1)=i+1\/¬(i<len):=by
   by_cases h:i<len
   .grind [xQ]
   grind
  have tail:∀{σ:Sg} (w:Int),Fh s σ->0<=w/\w<=9->i<(len:Int)->DS (k+11) s σ (amZ s) λn B=>eo (gS n) n (sl2 B lo len cap) fst sep (ak B.b3) (ak B.b0) (ak B.b5) i w len i:=by
   intro σ w iv hw hlt;unfold eo;refine DS.ldF (DS.bind ((akG hs hw.1 hw.2 iv).le (by omega)) λr σ1 hr=>DS.ite (λ_=>DS.pure hr.1) λ_=>DS.ixA hi hlt (DS.stX (j:=lo+i.toNat) (λ_=>rfl) (by omega) ?_));rw[e.resolve_right λh=>h hlt];exact ih (i+1) _ ⟨hr.1.lo,hr.1.hi,Gc (by omega) hr.1.ok hr.2⟩ (by omega) (by omega)
  refine DS.succ (m:=λn B=>jD (gS n) n (sl2 B lo len cap) fst sep (ak B.b3) (ak B.b0) (ak B.b5) len i) (λ_ _=>rfl) ?_;unfold jD;refine DS.ite (λh1=>?_) λ_=>DS.pure iv;simp at h1;refine DS.ite (λh2=>DS.IG (DS.Ld (DS.ite (λ_=>DS.pure iv) λh3=>?_))) λh2=>?_
  .simp only[aca] at h2 h3;have h4:σ.pos<s.size:=by omega
   refine DS.Ld (DS.IG (DS.ix iv.lo h4 λc=>DS.ite (λ_=>DS.pure iv) λ_=>DS.IG (DS.stP ?_)));have iv2:=iv.fwd hs h4;exact DS.ite (λ_=>tail fst iv2 hf h1) λ_=>tail 2 iv2 (by omega) h1
  .exact DS.ite (λ_=>tail fst iv hf h1) λ_=>tail 2 iv (by omega) h1
abbrev Bo (B:Bk):ξ:=Value.func (Fn.func dQ) #[] #[Value.pointer (some (ak B.b3)),Value.pointer (some (ak B.b0)),Value.pointer (some (ak B.b5))]
def akI (hs:s.size<=1000000){lo len cap}(hl:lo+len<=10) fst sep (hf:0<=fst/\fst<=9){σ}(iv:Fh s σ):DS 30 s σ (λ(_:Bool) σ'=>Fh s σ') λn B=>iQ n (sl2 B lo len cap) fst sep (ak B.b3) (ak B.b0) (ak B.b5):=by
 unfold iQ;refine DS.bind ((akH hs hl fst sep hf 10 0 σ iv (by omega) (by omega)).le (by omega)) λr σ1 hr=>?_;cases r with
 |inl v=>exact DS.pure hr
 |inr p=>exact DS.pure hr
theorem NU (hs:s.size<=1000000){lo len cap}(hl:lo+len<=10) fst sep (hf:0<=fst/\fst<=9){σ}(iv:Fh s σ){D:Nat->ξ->Sl->Int->Int->M Bool}
  (hd:∀n B a,D n (Bo B) a fst sep=sh (mr [aw,aw,aw] (Bo B)) λ(c:Addr×Addr×Addr)=>iQ n a fst sep c.1 c.2.1 c.2.2) :
  DS 30 s σ (λ(_:Bool) σ'=>Fh s σ') λn B=>D n (Bo B) (sl2 B lo len cap) fst sep:=by
 suffices hh:DS 30 s σ (λ(_:Bool) σ'=>Fh s σ') λn B=>sh (mr [aw,aw,aw] (Bo B)) λ(c:Addr×Addr×Addr)=>iQ n (sl2 B lo len cap) fst sep c.1 c.2.1 c.2.2 by
  grind
 exact DS.fn (λB=>rfl) (akI hs hl fst sep hf iv)
theorem DS.slA {R}{lo hi}{f:Nat->Bk->Sl->M β}(h1:lo<=hi)(h2:hi<=8)(hf:DS N s σ R λn B=>f n B (sl2 B (1+lo) (hi-lo) (8-lo+1))):DS N s σ R λn B=>sh (o7 ((ak B.b2).plus 1) 8 lo hi 1) (f n B):=by
 obtain⟨r,σ1,hr,h3⟩:=hf;refine⟨r,σ1,hr,λn B h0 h hn z=>?_⟩;show Wp (sh (o7 ((ak B.b2).plus 1) 8 lo hi 1) (f n B)) h _;obtain⟨y,h',e1,e2⟩:=h3 n B h0 h hn z;refine⟨y,h',?_,e2⟩;have e0:o7 ((ak B.b2).plus 1) 8 lo hi 1 h=some (sl2 B (1+lo) (hi-lo) (8-lo+1),h):=by
  unfold o7;rw[By ⟨by omega,by omega,by omega⟩];simp[Addr.plus]
 unfold sh
 grind
theorem ae9 (hs:s.size<=1000000)(v:Bk->ξ):∀(k:Nat) (i:Int) σ ,Fh s σ->0<=i->9-i<=k->DS (k+1) s σ (λ(r:Int) σ'=>Fh s σ'/\0<=r) λn B=>k9 n (ak B.b0) (ak B.b1) (ak B.b2) (ak B.b3) (v B) i:=by
 intro k
 induction k with
 |zero=>
  intro i σ iv hi hk;refine DS.succ (m:=λn B=>lJ (k9 n) n (ak B.b0) (ak B.b1) (ak B.b2) (ak B.b3) (v B) i) (λ_ _=>rfl) ?_;unfold lJ;exact DS.ite (λh1=>by grind) λ_=>DS.pure ⟨iv,hi⟩
 |succ k ih=>
  intro i σ iv hi hk;refine DS.succ (m:=λn B=>lJ (k9 n) n (ak B.b0) (ak B.b1) (ak B.b2) (ak B.b3) (v B) i) (λ_ _=>rfl) ?_;unfold lJ;refine DS.ite (λh1=>DS.IG (DS.Ld (DS.ite (λh2=>?_) λ_=>DS.pure ⟨iv,hi⟩))) λ_=>DS.pure ⟨iv,hi⟩;simp at h1 h2;refine DS.Ld (DS.IG (DS.ix iv.lo h2 λc1=>DS.ite (λ_=>DS.Ld (DS.IG (DS.ix iv.lo h2 λc2=>DS.ite (λ_=>?_) λ_=>DS.pure ⟨iv,hi⟩))) λ_=>DS.pure ⟨iv,hi⟩));unfold p7;have e:IntKind.i64.wrap (i+1)=i+1:=xQ (by omega) (by omega);refine DS.ldX (j:=9) (λ_=>rfl) (by omega) (DS.Ld (DS.IG (DS.ix iv.lo h2 λc3=>DS.stX (j:=9) (λ_=>rfl) (by omega) (DS.IG (DS.stP ?_)))));rw[e];exact ih _ _ (Fh.fwd ⟨iv.lo,iv.hi,Gc (by omega) iv.ok (abg _)⟩ hs h2) (by omega) (by omega)
theorem afa (v:Bk->ξ):∀(k:Nat) (i:Int) σ ,Fh s σ->0<=i->9-i<=k->DS (k+1) s σ (λ(_:Unit) σ'=>Fh s σ') λn B=>oJ n (ak B.b0) (ak B.b1) (ak B.b2) (ak B.b3) (v B) i:=by
 intro k
 induction k with
 |zero=>
  intro i σ iv hi hk;refine DS.succ (m:=λn B=>lH (oJ n) n (ak B.b0) (ak B.b1) (ak B.b2) (ak B.b3) (v B) i) (λ_ _=>rfl) ?_;unfold lH;exact DS.ite (λh1=>by grind) λ_=>DS.pure iv
 |succ k ih=>
  intro i σ iv hi hk;refine DS.succ (m:=λn B=>lH (oJ n) n (ak B.b0) (ak B.b1) (ak B.b2) (ak B.b3) (v B) i) (λ_ _=>rfl) ?_;unfold lH;refine DS.ite (λh1=>?_) λ_=>DS.pure iv;simp at h1;have e:IntKind.i64.wrap (i+1)=i+1:=xQ (by omega) (by omega);refine DS.ldX (j:=9) (λ_=>rfl) (by omega) (DS.stX (j:=9) (λ_=>rfl) (by omega) ?_);rw[e];exact ih _ _ ⟨iv.lo,iv.hi,Gc (by omega) iv.ok (abg _)⟩ (by omega) (by omega)
def NV {x}{v}(hx:EZ x):EZ (akE x v):=hx
def Ql {b}{σ}(hx:EZ σ.x):DS N s σ OKr λn B=>sh (cT moL (ak B.b2)) λ(x:Mo)=>sh (rN (ak B.b1) (mv x)) λ_=>sh (cT moL (ak B.b1)) λ(y:Mo)=>AI (y,b):=
 DS.gh (DS.stY (DS.amY (DS.pure hx)))
def Kw {σ}(hx:EZ σ.x):DS N s σ OKr λn B=>sh (cT moL (ak B.b2)) λ(x:Mo)=>sh (dL li (ak B.b3)) λ(p:Int)=>sh (dL .str (ak B.b0)) λ(t:ζ)=>sh (Ago.tX [some (ak B.b3),some (ak B.b0)] (rN (ak B.b1) (mv x))) λ_=>sh (cT moL (ak B.b1)) λ(y:Mo)=>AI (y,decide (p=(t.size:Int))):=
 DS.gh (DS.IG (DS.Ld (DS.aoG (DS.amY (DS.pure hx)))))
def akJ (hs:s.size<=1000000)(iv:Fh s σ)(hp:σ.pos<s.size):DS 30 s σ OKr λn B=>rH n (ak B.b0) (ak B.b1) (ak B.b2) (ak B.b3) (Bo B):=by
 unfold rH;have iv2:∀c,Fh s { x:=akE σ.x c,pos:=IntKind.i64.wrap (σ.pos+1),y:=σ.y }:=λc=>⟨(iv.fwd hs hp).lo,(iv.fwd hs hp).hi,NV iv.ok⟩;refine DS.Ld (DS.IG (DS.ix iv.lo hp λc=>DS.stZ (DS.IG (DS.stP (DS.ldZ (DS.ite (λ_=>Kw (NV iv.ok)) λ_=>DS.ldZ (DS.ite (λ_=>DS.ldZ (DS.ite (λ_=>Ql (NV iv.ok)) λ_=>?_)) λ_=>?_)))))))
 .exact DS.slA (lo:=6) (hi:=8) (by omega) (by omega) (DS.bind (NU hs (by omega) 2 58 (by omega) (iv2 _) λn B a=>By (show nG dQ (Bo B)=true from rfl)) λr σ1 iv3=>DS.ite (λ_=>Ql iv3.ok) λ_=>Kw iv3.ok)
 .exact DS.slA (lo:=6) (hi:=8) (by omega) (by omega) (DS.bind (NU hs (by omega) 2 58 (by omega) (iv2 _) λn B a=>By (show nG dQ (Bo B)=true from rfl)) λr σ1 iv3=>DS.ite (λ_=>Ql iv3.ok) λ_=>Kw iv3.ok)
theorem S9 (hs:s.size<=1000000)(iv:Fh s σ):DS 30 s σ OKr λn B=>lg n (ak B.b0) (ak B.b1) (ak B.b2) (ak B.b3) (Bo B):=by
 unfold lg;exact DS.IG (DS.Ld (DS.ite (λhp=>DS.ldX (j:=0) (λ_=>rfl) (by omega) (DS.ite (λ_=>akJ hs iv (by grind)) λ_=>Kw iv.ok)) λ_=>Kw iv.ok))
def akK (hs:s.size<=1000000)(iv:Fh s σ)(hp:σ.pos<s.size):DS 30 s σ OKr λn B=>rI n (ak B.b0) (ak B.b1) (ak B.b2) (ak B.b3) (Bo B):=by
 unfold rI;refine DS.IG (DS.stP (DS.bind ((ae9 hs Bo 9 0 _ (iv.fwd hs hp) (by omega) (by omega)).le (by omega)) λr σ1 hr=>DS.ite (λ_=>Ql hr.1.ok) λ_=>DS.bind ((afa Bo 9 r σ1 hr.1 hr.2 (by omega)).le (by omega)) λ_ σ2 iv2=>S9 hs iv2))
theorem NW (hs:s.size<=1000000)(iv:Fh s σ):DS 30 s σ OKr λn B=>fR n (ak B.b0) (ak B.b1) (ak B.b2) (ak B.b3) (Bo B):=by
 unfold fR;refine DS.slA (lo:=3) (hi:=6) (by omega) (by omega) (DS.bind (NU hs (by omega) 2 58 (by omega) iv (D:=uL) λn B a=>By (show nG dQ (Bo B)=true from rfl)) λr σ1 iv3=>DS.ite (λ_=>Ql iv3.ok) λ_=>DS.ldX (j:=0) (λ_=>rfl) (by omega) (DS.stX (j:=0) (λ_=>rfl) (by omega) ?_));have iv4:Fh s { σ1 with x:=XL σ1.x 0 (IntKind.i64.wrap (getM σ1.x 0+2)) }:=⟨iv3.lo,iv3.hi,Gc (by omega) iv3.ok (abg _)⟩;exact DS.IG (DS.Ld (DS.ite (λhp=>DS.Ld (DS.IG (DS.ix iv3.lo (by grind) λc=>DS.ite (λ_=>akK hs iv4 (by grind)) λ_=>S9 hs iv4))) λ_=>S9 hs iv4))
theorem akL (hs:s.size<=1000000)(iv:Fh s σ):DS 30 s σ OKr λn B=>oK n (ak B.b0) (ak B.b1) (ak B.b2) (ak B.b3) (Bo B):=by
 unfold oK;refine DS.slA (lo:=0) (hi:=3) (by omega) (by omega) (DS.bind (NU hs (by omega) 4 45 (by omega) iv (D:=uK) λn B a=>By (show nG dQ (Bo B)=true from rfl)) λr σ1 iv3=>DS.ite (λ_=>Ql iv3.ok) λ_=>DS.stX (j:=0) (λ_=>rfl) (by omega) ?_);have iv4:Fh s { σ1 with x:=XL σ1.x 0 1 }:=⟨iv3.lo,iv3.hi,Gc (by omega) iv3.ok (by grind)⟩;refine DS.IG (DS.Ld (DS.ite (λ_=>Ql iv4.ok) λhp=>?_));have h5:σ1.pos<s.size:=by have:=iv3.hi;grind
 have iv5:=iv4.fwd hs h5;exact DS.Ld (DS.IG (DS.ix iv3.lo h5 λc=>DS.ite (λ_=>DS.Ld (DS.IG (DS.ix iv3.lo h5 λc=>DS.ite (λ_=>Ql iv4.ok) λ_=>DS.IG (DS.stP (NW hs iv5))))) λ_=>DS.IG (DS.stP (NW hs iv5))))
abbrev mo0:Mo:=(0,0,0,0,0,0,0,0,0,0,0)
theorem XM (hs:s.size<=1000000):DS 30 s ⟨mo0,0,mo0⟩ OKr λn B=>sh (dL .str (ak B.b0)) λ(x7:ζ)=>
  if decide (2<(↑(ByteArray.size x7):Int)) then
   sh (dL .str (ak B.b0)) λ(x8:ζ)=>
   sh (lj x8 2) λx9=>
   if !decide ((↑x9.toNat:Int)=58) then
    oK n (ak B.b0) (ak B.b1) (ak B.b2) (ak B.b3) (Bo B)
   else
    fR n (ak B.b0) (ak B.b1) (ak B.b2) (ak B.b3) (Bo B)
  else
   fR n (ak B.b0) (ak B.b1) (ak B.b2) (ak B.b3) (Bo B):=by
 have iv:Fh s ⟨mo0,0,mo0⟩:=⟨by grind,by grind,by grind [EZ]⟩;exact DS.Ld (DS.ite (λhp=>DS.Ld (DS.ix (by omega) (by grind) λc=>DS.ite (λ_=>akL hs iv) λ_=>NW hs iv)) λ_=>NW hs iv)
theorem NY (hs:s.size<=1000000):DD 30 (λr:Mo×Bool=>EZ r.1) λn=>n8 n s:=by
 obtain⟨r,σ1,hr,h1⟩:=XM hs;refine⟨r,hr,λn h hn hw=>?_⟩;show Wp (n8 n s) h _;unfold n8;refine (Z.start hw).new λx0 h1' z1 _=>z1.new (λx1 h2' z2 _=>z2.new (λx2 h3' z3 _=>z3.new λx3 h4' z4 _=>z4.st 0 (cs':=[vi 0]) λh5' z5=>z5.new λx5 h6' z6 _=>z6.st 0 (cs':=[Qk ⟨x0,x1,x2,x3,x5⟩]) λh7' z7=>?_));refine (h1 n ⟨x0,x1,x2,x3,x5⟩ h h7' hn z7).mono λy h8 h9=>⟨h9.1,h9.2.fr⟩
end
section
variable {α β:Type}{h h' h0:ai}{L:List aZ}{Q:β->ai->Prop}{N M':Nat}{x:Mo}
theorem DM.succ {P:α->Prop}{l m:Nat->Nat->M α}(he:∀n a,l (n+1) a=m n a)(hm:DM N x P m):DM (N+1) x P l:=by
 obtain⟨r,hr,h1⟩:=hm;refine⟨r,hr,λn h0 h b hn z=>?_⟩;obtain⟨n,rfl⟩:∃m,n=m+1:=⟨n-1,by omega⟩;rw[he];exact h1 n h0 h b (by omega) z
theorem DM.bind {P:α->Prop}{R:β->Prop}{m:Nat->Nat->M α}{f:Nat->Nat->α->M β}(hm:DM N x P m)(hf:∀y,P y->DM N x R λn a=>f n a y):DM N x R λn a=>sh (m n a) (f n a):=by
 obtain⟨y,hy,h1⟩:=hm;obtain⟨r,hr,h2⟩:=hf y hy;refine⟨r,hr,λn h0 h b hn z=>?_⟩;show Wp (sh (m n b) (f n b)) h _;rw[ah];refine (h1 n h0 h b hn z).mono λw h3 hw=>?_;obtain⟨rfl,f3⟩:=hw;exact h2 n h0 h3 b hn f3
theorem DM.arr {R:β->Prop}{e:κ}{c0 cs:δ}{ls:List vO}{w:j9 ls}{f:Nat->Nat->j9 ls->M β}(h0:c0.all fk=true)(h1:cs.all fk=true)(h2:c0.length=cs.length)(h3:D7 ls cs=some w)(h4:ls.length=cs.length)
  (hf:DM N x R λn a=>f n a w):DM N x R λn a=>sh (iI none e c0) λb=>sh (rN (ak b) cs) λ_=>sh (cT ls (ak b)) (f n a):=by
 obtain⟨r,hr,h5⟩:=hf;refine⟨r,hr,λn g0 h a hn z=>?_⟩;refine z.new (λb h1' z1 _=>z1.st 0 (cs':=cs) (λh2' z2=>z2.gh 0 (x:=w) (h5 n g0 h2' a hn z2.drop) rfl h3 h4) rfl ?_ ?_ h1) h0
 .show aM c0 0 cs=cs;unfold aM;rw[adr,<-h2];simp
 .rw[h2];omega
theorem DD.arr {R:β->Prop}{e:κ}{c0 cs:δ}{ls:List vO}{w:j9 ls}{f:Nat->j9 ls->M β}(h0:c0.all fk=true)(h1:cs.all fk=true)(h2:c0.length=cs.length)(h3:D7 ls cs=some w)(h4:ls.length=cs.length)
  (hf:DD N R λn=>f n w):DD N R λn=>sh (iI none e c0) λb=>sh (rN (ak b) cs) λ_=>sh (cT ls (ak b)) (f n):=by
 obtain⟨r,hr,h5⟩:=hf;refine⟨r,hr,λn h hn hw=>?_⟩;refine (Z.start hw).new (λb h1' z1 _=>z1.st 0 (cs':=cs) (λh2' z2=>z2.gh 0 (x:=w) ?_ rfl h3 h4) rfl ?_ ?_ h1) h0
 .exact (h5 n h2' hn z2.wf).mono λy h' hy=>⟨hy.1,jb hw z2.fr hy.2⟩
 .show aM c0 0 cs=cs;unfold aM;rw[adr,<-h2];simp
 .rw[h2];omega
theorem afb (w:Int×Int×Int×Int×Int):∀(k:Nat) (i:Int),0<=i->5-i<=k->DM (k+1) x (Any:Unit⊕Bool->Prop) λn a=>fM n (ak a) w i:=by
 intro k
 induction k with
 |zero=>
  intro i hi hk;refine DM.succ (m:=λn a=>eW (fM n) n (ak a) w i) (λ_ _=>rfl) ?_;unfold eW;exact DM.ite (λh1=>by simp only[aca] at h1;omega) λ_=>DM.pure trivial
 |succ k ih=>
  intro i hi hk;refine DM.succ (m:=λn a=>eW (fM n) n (ak a) w i) (λ_ _=>rfl) ?_;unfold eW;refine DM.ite (λh1=>?_) λ_=>DM.pure trivial;simp only[aca] at h1;have e1:IntKind.i64.wrap (i+1)=i+1:=xQ (by omega) (by omega);have e3:IntKind.i64.wrap (i+3)=i+3:=xQ (by omega) (by omega);rw[e1,e3];have hix:∃v:Int,[vi w.1,vi w.2.1,vi w.2.2.1,vi w.2.2.2.1,vi w.2.2.2.2][i.toNat]?=some (vi v):=by
   have:i.toNat=0\/i.toNat=1\/i.toNat=2\/i.toNat=3\/i.toNat=4:=by omega
   rcases this with h|h|h|h|h<;>rw[h]<;>exact⟨_,rfl⟩
  obtain⟨v,hv⟩:=hix;refine DM.dd (P:=λy:Int=>y=v) ⟨v,rfl,λn h _ hw=>adt hi (by omega) hv rfl ⟨rfl,Fr.refl hw⟩⟩ λy _=>DM.ck (by simp;omega) (DM.ld (l:=li) (o:=1+(i+3).toNat) (λb=>?_) (UW (by omega)) rfl (DM.ite (λ_=>DM.pure trivial) λ_=>ih _ (by omega) (by omega)));simp[Addr.plus]
def UX:DM 20 x (Any:Bool->Prop) λn a=>fO n (ak a):=by
 unfold fO;refine DM.arr (ls:=[li,li,li,li,li]) (w:=(23,59,59,23,59)) rfl rfl rfl rfl rfl (DM.bind ((afb _ 5 0 (by omega) (by omega)).le (by omega)) λy _=>?_);cases y with
 |inl v=>exact DM.pure trivial
 |inr v=>exact DM.pure trivial
def Mq:DD 20 (Any:Bool->Prop) λn=>iF n x:=by
 unfold iF;refine DM.run (x:=x) ?_;refine DM.ld (o:=0) (λ_=>rfl) rfl rfl (DM.ite (λ_=>DM.ck (by decide) (DM.ld (o:=1) (λ_=>rfl) rfl rfl (DM.ck (by decide) (DM.ld (o:=2) (λ_=>rfl) rfl rfl (DM.ck (by decide) (DM.ld (o:=3) (λ_=>rfl) rfl rfl (DM.dd (US _ _ _) λy _=>DM.ite (λ_=>DM.pure trivial) λ_=>UX))))))) λ_=>UX)
def Ta:DD 20 (Any:Int->Prop) λn=>jU n x:=by
 unfold jU;refine DM.run (x:=x) ?_;exact DM.ck (by decide) (DM.ld (o:=1) (λ_=>rfl) rfl rfl (DM.ck (by decide) (DM.ld (o:=2) (λ_=>rfl) rfl rfl (DM.ck (by decide) (DM.ld (o:=3) (λ_=>rfl) rfl rfl (DM.dd (US _ _ _) λy _=>
  DM.ck (by decide) (DM.ld (o:=4) (λ_=>rfl) rfl rfl (DM.ck (by decide) (DM.ld (o:=5) (λ_=>rfl) rfl rfl (DM.ck (by decide) (DM.ld (o:=6) (λ_=>rfl) rfl rfl (DM.ck (by decide) (DM.ld (o:=7) (λ_=>rfl) rfl rfl (DM.ck (by decide) (DM.ld (o:=8) (λ_=>rfl) rfl rfl
   (DM.ld (l:=.int .u8) (o:=10) (λ_=>rfl) rfl rfl (DM.ite (λ_=>DM.pure trivial) λ_=>DM.pure trivial)))))))))))))))))
theorem am1 (a:Int):Kv (a.tmod 60):=by
 grind
def MZ (s:ζ):Prop:=∃y,TX y/\s.data.toList=y.data.toList++[90]
abbrev InP (r:ζ×Int):Prop:=r.2=0->MZ r.1
abbrev LoP (r:ζ×Int):Prop:=r.2=0->TX r.1
theorem abj {a0 a1 a2:Int}(h0:Kv a0):DD 10020 InP λn=>iR n a0 a1 a2:=by
 unfold iR;have h90:(ofBytes [90]).size=1:=rfl;refine (ae7 a1).bind λy hy=>DD.ite (λ_=>DD.pure λh=>absurd h (by decide)) λ_=>(DD.ck (by decide)).bind λ_ _=>(DD.ck (by decide)).bind λ_ _=>(DD.ck (by decide)).bind λ_ _=>(DD.ck (by decide)).bind λ_ _=>?_;refine DD.arr (ls:=moL) (w:=((3,y.1,y.2.1,y.2.2.1,IntKind.i64.wrap (a2.tdiv 3600),(IntKind.i64.wrap (a2.tdiv 60)).tmod 60,a2.tmod 60,0,0,a0,0):Mo)) rfl rfl rfl rfl rfl ?_;exact (UU (x:=(3,y.1,y.2.1,y.2.2.1,IntKind.i64.wrap (a2.tdiv 3600),(IntKind.i64.wrap (a2.tdiv 60)).tmod 60,a2.tmod 60,0,0,a0,0)) ⟨hy.1,hy.2.1,hy.2.2,abg _,am1 _,am1 _,h0⟩).bind λz hz=>(DD.cat (by omega)).bind λw hw=>DD.pure λ_=>⟨z,hz.2,hw.2⟩
theorem akM {a0 a1:Int}:DD 10020 InP λn=>pM n a0 a1:=by
 unfold pM;refine DD.ite (λ_=>DD.pure λh=>absurd h (by decide)) λg1=>DD.ite (λ_=>DD.pure λh=>absurd h (by decide)) λg2=>DD.ite (λ_=>DD.pure λh=>absurd h (by decide)) λ_=>DD.ite (λ_=>DD.pure λh=>absurd h (by decide)) λ_=>?_;simp only[aca] at g1 g2;have h0:Kv a1:=by constructor<;>omega
 unfold qd;exact (DD.ck (by decide)).bind λ_ _=>(DD.ck (by decide)).bind λ_ _=>DD.ite (λ_=>abj h0) λ_=>abj h0
theorem DM.akN {P:α->Prop}{m:Nat->Nat->M α}(hm:DM N x P m):DD N P λn=>sh (iI none bN (mv mo0)) λb=>sh (rN (ak b) (mv x)) λ_=>m n b:=by
 obtain⟨r,hr,h1⟩:=hm;exact⟨r,hr,λn h hn hw=>(Z.start hw).new λb h1' z1 f1=>z1.st 0 (cs':=mv x) (λh2' z2=>(h1 n h h2' b hn z2).mono λy h2 h3=>⟨h3.1,h3.2.fr⟩) rfl rfl (abi 11)⟩
theorem afc (hx:EZ x):DM 10020 x InP λn a=>n9 n (ak a):=by
 unfold n9;refine DM.gh (DM.dd (Mq.le (by omega)) λy _=>DM.ite (λ_=>DM.pure λh=>absurd h (by decide)) λ_=>DM.gh (DM.ld (l:=li) (o:=9) (λ_=>rfl) rfl rfl (DM.ddc (ads:=λa=>[some ((ak a).plus 9)]) (Ta.le (by omega)) (λb a hm c hc=>?_) λz _=>DM.dd akM λw hw=>DM.pure hw)));subst hc;simp[Addr.plus] at hm;subst hm;rfl
theorem Tb {s:ζ}(hs:s.size<=1000000):DD 10020 InP λn=>oO n s:=by
 unfold oO;refine ((NY hs).le (by omega)).bind λy hy=>DM.akN (x:=y.1) (DM.ite (λ_=>DM.pure λh=>absurd h (by decide)) λ_=>DM.ld (l:=.int .u8) (o:=10) (λ_=>rfl) rfl rfl (DM.ite (λ_=>DM.pure λh=>absurd h (by decide)) λ_=>afc hy))
theorem abk {s:ζ}(hs:s.size<=1000000):DD 10020 LoP λn=>vt n s:=by
 unfold vt;exact ((NY hs).le (by omega)).bind λy hy=>DM.akN (x:=y.1) (DM.ite (λ_=>DM.pure λh=>absurd h (by decide)) λ_=>DM.ld (l:=.int .u8) (o:=10) (λ_=>rfl) rfl rfl (DM.ite (λ_=>DM.pure λh=>absurd h (by decide)) λ_=>DM.gh (DM.dd (Mq.le (by omega)) λz _=>DM.ite (λ_=>DM.pure λh=>absurd h (by decide)) λ_=>DM.gh (DM.dd (UU hy) λw hw=>DM.pure λ_=>hw.2))))
theorem abl {s:ζ}(hs:s.size<=1000000):DD 10020 (λr:Int=>r≠0->TX s) λn=>rq n s:=by
 unfold rq;refine (abk hs).bind λy hy=>DD.ite (λ_=>DD.pure λh=>absurd rfl h) λg1=>DD.ite (λ_=>DD.pure λh=>absurd rfl h) λg2=>?_;have ht:TX s:=by
  have q1:y.2=0:=by simpa using g1
  have q2:qk y.1 s=true:=by simpa using g2
  exact kS q2▸hy q1
 exact ((NY hs).le (by omega)).bind λz hz=>DM.akN (x:=z.1) (DM.ld (l:=li) (o:=0) (λ_=>rfl) rfl rfl (DM.pure λ_=>ht))
end
end Go.Sh
