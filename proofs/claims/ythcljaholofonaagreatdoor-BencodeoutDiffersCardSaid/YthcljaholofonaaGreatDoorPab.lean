
import Derived.Test.YthcljaholofonaaGreatDoorBnPa
set_option linter.all false
namespace Go.Sh
open Go Go.Ago Go.Proofs
section
variable {α β:Type}{h h' h0:aj}{L:List bA}{Q:β->aj->Prop}{N M':Nat}
def DD (N:Nat)(P:α->Prop)(m:Nat->M α):Prop:=∃x,P x/\∀n h,N<=n->WF h->Wp (m n) h λy h'=>y=x/\Fr (λ_=>False) h h'
def PP.dd {P:α->Prop}{m}(hm:PP P m):DD N P m:=by
 obtain⟨x,hx,h1⟩:=hm;exact⟨x,hx,λn h _ hw=>⟨x,h,h1 n h,rfl,Fr.refl hw⟩⟩
def DD.pure {P:α->Prop}{x}(hx:P x):DD N P λ_=>AI x:=(PP.pure hx).dd
def DD.bind {P}{R}{m}{f:Nat->α->M β}(hm:DD N P m)(hf:∀x,P x->DD N R λn=>f n x):DD N R λn=>sh (m n) (f n):=by
 obtain⟨x,hx,h1⟩:=hm;obtain⟨y,hy,h2⟩:=hf x hx;refine⟨y,hy,λn h hn hw=>?_⟩;show Wp (sh (m n) (f n)) h _;rw[ah];refine (h1 n h hn hw).mono λz h3 hz=>?_;obtain⟨rfl,f3⟩:=hz;exact (h2 n h3 hn f3.wf).mono λw h4 hw4=>⟨hw4.1,kp hw f3 hw4.2⟩
def DD.ite {P:α->Prop}{c}[Decidable c]{a b}(ha:c->DD N P a)(hb:¬c->DD N P b):DD N P λn=>if c then a n else b n:=by
 by_cases hc:c
 .simp_all
 simp_all
def DD.le {P:α->Prop}{m}(hm:DD N P m)(hl:N<=M'):DD M' P m:=let ⟨x,hx,h1⟩:=hm;⟨x,hx,λn h hn hw=>h1 n h (by omega) hw⟩
def DD.ck {b}(hb:b=true):DD N (Any:Unit->Prop) λ_=>qT b:=(PP.ck hb).dd
def Im (y:Int):Bool:=decide (y.tmod 4=0)&&(!decide (y.tmod 100=0)||decide (y.tmod 400=0))
def Og:ε:=[0,31,28,31,30,31,30,31,31,30,31,30,31]
def pB (y m:Int):Int:=if m=2/\Im y=true then 29 else Og.getD m.toNat 0
def wg (y:Int):Int:=IntKind.i64.wrap (IntKind.i64.wrap (IntKind.i64.wrap (IntKind.i64.wrap (365*y)+IntKind.i64.wrap ((IntKind.i64.wrap (y+3)).tdiv 4))-IntKind.i64.wrap ((IntKind.i64.wrap (y+99)).tdiv 100))+IntKind.i64.wrap ((IntKind.i64.wrap (y+399)).tdiv 400))
def agb y:DD N (λb=>b=Im y) λn=>Bf n y:=by
 unfold Bf Im;refine (DD.ck (by decide)).bind λ_ _=>DD.ite (λh1=>(DD.ck (by decide)).bind λ_ _=>DD.ite (λh2=>DD.pure ?_) λh2=>(DD.ck (by decide)).bind λ_ _=>DD.pure ?_) λh1=>DD.pure ?_
 .grind
 .grind
 grind
def HK {y m}(h1:1<=m)(h2:m<=12):DD N (λr=>r=pB y m) λn=>pR n y m:=by
 refine⟨pB y m,rfl,λn h hn hw=>?_⟩;obtain⟨lb,hlb,hl⟩:=agb (N:=N) y;unfold pR;refine (Z.start hw).new λx0 h1' z1 f1=>?_;refine z1.st 0 (cs':=Og.map vi) λh2' z2=>?_;have tail:∀{h3} (z3:Z h h3 [.au x0 (Og.map vi) Kh]),¬(m=2/\Im y=true)->Wp (sh (qT (decide (0<=m/\m<((13:Nat):Int)))) λ_=>sh (dz li ((ak x0).plus (m.toNat*1))) λ(x4:Int)=>AI x4) h3 λy' h'=>y'=pB y m/\Fr (λ_=>False) h h':=by
  intro h3 z3 hne;rw[ah,J6];refine⟨by grind,?_⟩;have hlt:m.toNat<Og.length:=by show m.toNat<13;omega
  have e1:(Og.map vi)[m.toNat]?=some (vi (Og.getD m.toNat 0)):=by
   grind
  have e2:((ak x0).plus (m.toNat*1))=⟨x0,m.toNat,none⟩:=by simp[Addr.plus]
  rw[e2];refine z3.ld 0 ?_ rfl e1 rfl;refine ag.2 ⟨?_,z3.fr⟩;unfold pB
  grind
 by_cases hm:m=2
 .rw[By (by grind),ah];refine (hl n h2' hn z2.wf).mono λb h3 hb=>?_;obtain⟨rfl,f3⟩:=hb;have z3:=z2.pure f3;cases hlp:Im y with
  |true=>
   rw[hlb,By hlp,ag];exact⟨by unfold pB;grind,z3.fr⟩
  |false=>
   rw[hlb,AT (by grind)];exact tail z3 λx=>by grind
 .rw[AT (by grind)];exact tail z2 λx=>hm x.1
def KS y:PP (λr=>r=wg y) λn=>wL n y:=(PP.ck (by decide)).bind λ_ _=>(PP.ck (by decide)).bind λ_ _=>(PP.ck (by decide)).bind λ_ _=>PP.pure rfl
def agc (y m:Int)(hm:m<=12):∀(k:Nat) c d ,1<=d->m-d<=k->DD (k+1) (Any:Int->Prop) λn=>lV n y m c d:=by
 intro k
 induction k with
 |zero=>
  intro c d hd hk;refine⟨c,trivial,λn h hn hw=>?_⟩;obtain⟨n,rfl⟩:∃m,n=m+1:=⟨n-1,by omega⟩;show Wp (lV (n+1) y m c d) h _;rw[tI];unfold qq;rw[AT (by grind),ag];exact⟨rfl,Fr.refl hw⟩
 |succ k ih=>
  intro c d hd hk;by_cases hdm:d<m
  .obtain⟨l,_,hl⟩:=HK (N:=0) (y:=y) (m:=d) hd (by omega);have ew:IntKind.i64.wrap (d+1)=d+1:=vw (by omega) (by omega);obtain⟨x,_,hx⟩:=ih (IntKind.i64.wrap (c+l)) (d+1) (by omega) (by omega);refine⟨x,trivial,λn h hn hw=>?_⟩;obtain⟨n,rfl⟩:∃m,n=m+1:=⟨n-1,by omega⟩;show Wp (lV (n+1) y m c d) h _;rw[tI];unfold qq;rw[By (by grind),ah];refine (hl n h (by omega) hw).mono λr h1 hr=>?_;obtain⟨rfl,f1⟩:=hr;rw[ew];exact (hx n h1 (by omega) f1.wf).mono λw h4 hw4=>⟨hw4.1,kp hw f1 hw4.2⟩
  .refine⟨c,trivial,λn h hn hw=>?_⟩;obtain⟨n,rfl⟩:∃m,n=m+1:=⟨n-1,by omega⟩;show Wp (lV (n+1) y m c d) h _;rw[tI];unfold qq;rw[AT (by grind),ag];exact⟨rfl,Fr.refl hw⟩
def UW y m d:DD 20 (Any:Int×Int->Prop) λn=>Bv n y m d:=by
 refine DD.ite (λ_=>DD.pure trivial) λ_=>DD.ite (λ_=>DD.pure trivial) λ_=>DD.ite (λ_=>DD.pure trivial) λh1=>DD.ite (λ_=>DD.pure trivial) λh2=>DD.ite (λ_=>DD.pure trivial) λ_=>?_;simp only[ab8] at h1 h2;refine (HK (by omega) (by omega)).bind λx _=>DD.ite (λ_=>DD.pure trivial) λ_=>(KS y).dd.bind λf _=>((agc y m (by omega) 12 _ 1 (by omega) (by omega)).le (by omega)).bind λr _=>DD.pure trivial
theorem zb {y}(h1:0<=y)(h2:y<=20000):wg y=365*y+(y+3)/4-(y+99)/100+(y+399)/400:=by
 unfold wg;rw[vw (x:=y+3) (by omega) (by omega),vw (x:=y+99) (by omega) (by omega),vw (x:=y+399) (by omega) (by omega),
  ai9 (by omega),ai9 (by omega),ai9 (by omega)]
 grind [vw]
def agd {y}(h1:0<=y):Im y=true↔(y%4=0/\(y%100≠0\/y%400=0)):=by
 grind [Im,Int.tmod_eq_emod_of_nonneg]
def To (y:Int):Nat->Int
 |0=>0
 |k+1=>pB y (12-k)+To y k
def aow {y}(h1:0<=y)(h2:y<=10020):wg (y+1)-wg y=To y 12:=by
 rw[zb (by omega) (by omega),zb (by omega) (by omega)];have hl:=agd h1;have MW:∀m:Int,m≠2->pB y m=Og.getD m.toNat 0:=λm hm=>by unfold pB;grind
 have e:To y 12=337+pB y 2:=by
  show pB y 1+(pB y 2+(pB y 3+(pB y 4+(pB y 5+(pB y 6+(pB y 7+(pB y 8+(pB y 9+(pB y 10+(pB y 11+(pB y 12+0)))))))))))=_;have l1:pB y 1=31:=(MW 1 (by decide)).trans rfl;have l3:pB y 3=31:=(MW 3 (by decide)).trans rfl;have l4:pB y 4=30:=(MW 4 (by decide)).trans rfl;have l5:pB y 5=31:=(MW 5 (by decide)).trans rfl;have l6:pB y 6=30:=(MW 6 (by decide)).trans rfl;have l7:pB y 7=31:=(MW 7 (by decide)).trans rfl;have l8:pB y 8=31:=(MW 8 (by decide)).trans rfl;have l9:pB y 9=30:=(MW 9 (by decide)).trans rfl;have l10:pB y 10=31:=(MW 10 (by decide)).trans rfl;have l11:pB y 11=30:=(MW 11 (by decide)).trans rfl;have l12:pB y 12=31:=(MW 12 (by decide)).trans rfl;omega
 rw[e];by_cases hlp:Im y=true
 .have:=hl.1 hlp;have e2:pB y 2=29:=by unfold pB;grind
  grind
 .have hn:¬(y%4=0/\(y%100≠0\/y%400=0)):=λx=>hlp (hl.2 x);have e2:pB y 2=28:=by unfold pB;rw[AT (λx=>hlp x.2)];rfl
  grind
def age d (hd:d<=3652424):∀(k:Nat) y ,0<=y->y<=10009->wg y<=d->10009-y<=k->DD (k+1) (λr:Int=>0<=r/\r<=10009/\wg r<=d/\d<wg (r+1)) λn=>oi n d y:=by
 intro k
 induction k with
 |zero=>
  intro y h1 h0 h2 h3;exfalso
  grind [zb]
 |succ k ih=>
  intro y h1 h0 h2 h3;have hy:y<10009:=by grind [zb]
  have ew:IntKind.i64.wrap (y+1)=y+1:=vw (by omega) (by omega);obtain⟨f,hf,hf2⟩:=(KS (y+1)).dd (N:=0);subst hf;by_cases hle:wg (y+1)<=d
  .obtain⟨x,hx,hx2⟩:=ih (y+1) (by omega) (by omega) hle (by omega);refine⟨x,hx,λn h hn hw=>?_⟩;obtain⟨n,rfl⟩:∃m,n=m+1:=⟨n-1,by omega⟩;show Wp (oi (n+1) d y) h _;rw[yQ];unfold tu;rw[ew,ah];refine (hf2 n h (by omega) hw).mono λr h1 hr=>?_;obtain⟨rfl,f1⟩:=hr;rw[By (by grind)];exact (hx2 n h1 (by omega) f1.wf).mono λw h4 hw4=>⟨hw4.1,kp hw f1 hw4.2⟩
  .refine⟨y,⟨h1,by omega,h2,by omega⟩,λn h hn hw=>?_⟩;obtain⟨n,rfl⟩:∃m,n=m+1:=⟨n-1,by omega⟩;show Wp (oi (n+1) d y) h _;rw[yQ];unfold tu;rw[ew,ah];refine (hf2 n h (by omega) hw).mono λr h1 hr=>?_;obtain⟨rfl,f1⟩:=hr;rw[AT (by grind),ag]
   grind
def agf {y m}(h1:1<=m)(h2:m<=12):0<=pB y m/\pB y m<=31:=by
 unfold pB;split
 .omega
 .have:∀k:Nat,k<=12->0<=Og.getD k 0/\Og.getD k 0<=31:=by decide
  grind
abbrev KU (x:Int):Prop:=-9223372036854775808<=x/\x<=9223372036854775807
def agh y:∀k r ,1<=k->k<=12->0<=r->r<=400->r<To y k->DD (k+1) (λx:Int×Int=>KU x.2) λn=>oh n r y (13-k):=by
 intro k
 induction k with
 |zero=>grind
 |succ k ih=>
  intro r h1 h2 h3 h4 h5;have hr:To y (k+1)=pB y (12-k)+To y k:=rfl;obtain⟨l,hl,hl2⟩:=HK (N:=0) (y:=y) (m:=13-((k+1:Nat):Int)) (by omega) (by omega);have em:13-((k+1:Nat):Int)=12-k:=by omega
  rw[em] at hl hl2;have hlo:=agf (y:=y) (m:=12-k) (by omega) (by omega);rw[<-hl] at hlo hr;rw[em];by_cases hle:l<=r
  .by_cases hk:k=0
   .subst hk;have:To y 0=0:=rfl;omega
   have ew:IntKind.i64.wrap (r-l)=r-l:=vw (by omega) (by omega);have ew2:IntKind.i64.wrap (12-(k:Int)+1)=13-k:=by grind [vw]
   obtain⟨x,hxi,hx2⟩:=ih (r-l) (by omega) (by omega) (by omega) (by omega) (by omega);refine⟨x,hxi,λn h hn hw=>?_⟩;obtain⟨n,rfl⟩:∃m,n=m+1:=⟨n-1,by omega⟩;show Wp (oh (n+1) r y (12-k)) h _;rw[yP];unfold tq;rw[ah];refine (hl2 n h (by omega) hw).mono λv h1 hv=>?_;obtain⟨rfl,f1⟩:=hv;rw[By (by grind),ah];refine (hl2 n h1 (by omega) f1.wf).mono λv h2 hv=>?_;obtain⟨rfl,f2⟩:=hv;rw[ew,ew2];exact (hx2 n h2 (by omega) f2.wf).mono λw h4 hw4=>⟨hw4.1,kp hw f1 (kp f1.wf f2 hw4.2)⟩
  .refine⟨(r,12-k),by grind,λn h hn hw=>?_⟩;obtain⟨n,rfl⟩:∃m,n=m+1:=⟨n-1,by omega⟩;show Wp (oh (n+1) r y (12-k)) h _;rw[yP];unfold tq;rw[ah];refine (hl2 n h (by omega) hw).mono λv h1 hv=>?_;obtain⟨rfl,f1⟩:=hv;rw[AT (by grind),ag]
   grind
def agi d:DD 10020 (λx:Int×Int×Int×Int=>KU x.1/\KU x.2.1/\KU x.2.2.1) λn=>Fx n d:=by
 refine DD.ite (λ_=>DD.pure (by decide)) λh1=>DD.ite (λ_=>DD.pure (by decide)) λh2=>?_;simp only[ab8] at h1 h2;have ew:IntKind.i64.wrap (d+719528)=d+719528:=vw (by omega) (by omega);have ew2:IntKind.i64.wrap ((d+719528).tdiv 366)=(d+719528)/366:=by
  grind [Int.tdiv_eq_ediv_of_nonneg,vw]
 unfold Ae;rw[ew,ew2];refine (DD.ck (by decide)).bind λ_ _=>((age (d+719528) (by omega) 10009 ((d+719528)/366) (by omega) (by omega) (by grind [zb]) (by omega)).le (by omega)).bind λy hy=>(KS y).dd.bind λf hf=>?_;have hr:=aow hy.1 (by omega);have hfl:0<=wg y:=by grind [zb]
 have h400:wg (y+1)-wg y<=400:=by grind [zb]
 subst hf;rw[vw (by omega) (by omega)];exact ((agh y 12 (d+719528-wg y) (by omega) (by omega) (by omega) (by omega) (by omega)).le (by omega)).bind λx hx=>DD.pure ⟨⟨by grind,by grind⟩,hx,Tl _⟩
end
section
variable {α β:Type}{h h' h0:aj}{L:List bA}{Q:β->aj->Prop}{N M':Nat}
abbrev Mo:=Int×Int×Int×Int×Int×Int×Int×Int×Int×Int×Int
abbrev moL:List yf:=[li,li,li,li,li,li,li,li,li,li,.int .u8]
def mv (x:Mo):δ:=[vi x.1,vi x.2.1,vi x.2.2.1,vi x.2.2.2.1,vi x.2.2.2.2.1,vi x.2.2.2.2.2.1,vi x.2.2.2.2.2.2.1,vi x.2.2.2.2.2.2.2.1,vi x.2.2.2.2.2.2.2.2.1,vi x.2.2.2.2.2.2.2.2.2.1,v8 x.2.2.2.2.2.2.2.2.2.2]
def DM (N:Nat)(x:Mo)(P:α->Prop)(m:Nat->Nat->M α):Prop:=∃r,P r/\∀n h0 h b,N<=n->Z h0 h [.au b (mv x) bO]->Wp (m n b) h λy h'=>y=r/\Z h0 h' [.au b (mv x) bO]
variable {x:Mo}
def DM.pure {P:α->Prop}{r}(hr:P r):DM N x P λ_ _=>AI r:=⟨r,hr,λn h0 h b _ z=>ag.2 ⟨rfl,z⟩⟩
def DM.ite {P:α->Prop}{c}[Decidable c]{f g}(ha:c->DM N x P f)(hb:¬c->DM N x P g):DM N x P λn a=>if c then f n a else g n a:=by
 by_cases hc:c
 .simp_all
 simp_all
def DM.dd {P}{R}{m}{f:Nat->Nat->α->M β}(hm:DD N P m)(hf:∀y,P y->DM N x R λn a=>f n a y):DM N x R λn a=>sh (m n) (f n a):=by
 obtain⟨y,hy,h1⟩:=hm;obtain⟨r,hr,h2⟩:=hf y hy;refine⟨r,hr,λn h0 h b hn z=>?_⟩;show Wp (sh (m n) (f n b)) h _;rw[ah];refine (h1 n h hn z.wf).mono λw h3 hw=>?_;obtain⟨rfl,f3⟩:=hw;exact h2 n h0 h3 b hn (z.pure f3)
def DM.ddc {P}{R}{m}{f:Nat->Nat->α->M β}{ads:Nat->List θ}(hm:DD N P m)(ha:∀b,∀a∈ads b,∀c,a=some c->c.block=b)(hf:∀y,P y->DM N x R λn a=>f n a y) :
  DM N x R λn a=>sh (Ago.sM (ads a) (m n)) (f n a):=by
 obtain⟨y,hy,h1⟩:=hm;obtain⟨r,hr,h2⟩:=hf y hy;refine⟨r,hr,λn h0 h b hn z=>?_⟩;show Wp (sh (Ago.sM (ads b) (m n)) (f n b)) h _;rw[ah];have l:LB h b _ _:=z.get 0 rfl;refine J8 ((h1 n h hn z.wf).mono λw h3 hw=>?_);obtain⟨rfl,f3⟩:=hw;refine⟨λa hma=>?_,h2 n h0 h3 b hn (z.pure f3)⟩;rw[ha b _ hma a rfl,l.get];exact f3.cells _ _ _ _ _ l.get λx=>x.elim
def DM.ld {R}{o}{l}{g:Nat->Addr}{v}{w}{f:Nat->Nat->l.den->M β}(hg:∀b,g b=⟨b,o,none⟩)(hv:(mv x)[o]?=some v)(hw:D9 l v=some w)(hf:DM N x R λn a=>f n a w):DM N x R λn a=>sh (dz l (g a)) (f n a):=by
 obtain⟨r,hr,h2⟩:=hf;refine⟨r,hr,λn h0 h b hn z=>?_⟩;show Wp (sh (dz l (g b)) (f n b)) h _;rw[hg b];exact z.ld 0 (h2 n h0 h b hn z) rfl hv hw
def DM.eZ {R}{f:Nat->Nat->Mo->M β}(hf:DM N x R λn a=>f n a x):DM N x R λn a=>sh (cF moL (ak a)) (f n a):=by
 obtain⟨r,hr,h2⟩:=hf;refine⟨r,hr,λn h0 h b hn z=>?_⟩;show Wp (sh (cF moL (ak b)) (f n b)) h _;exact z.eZ 0 (h2 n h0 h b hn z)
def DM.ck {R}{c}{f:Nat->Nat->Unit->M β}(hc:c=true)(hf:DM N x R λn a=>f n a ()):DM N x R λn a=>sh (qT c) (f n a):=DM.dd (DD.ck hc) λ_ _=>hf
def DM.run {P:α->Prop}{m}(hm:DM N x P m):DD N P λn=>sh (gG none bO (mv x)) λb=>m n b:=by
 obtain⟨r,hr,h1⟩:=hm;exact⟨r,hr,λn h hn hw=>(Z.start hw).new λb h1' z1 f1=>(h1 n h h1' b hn z1).mono λy h2 h3=>⟨h3.1,h3.2.fr⟩⟩
def DM.le {P:α->Prop}{m}(hm:DM N x P m)(hl:N<=M'):DM M' x P m:=let ⟨r,hr,h1⟩:=hm;⟨r,hr,λn h0 h b hn z=>h1 n h0 h b (by omega) z⟩
def DD.cat {x y}(hs:x.size+y.size<=1000000):DD N (λz:ζ=>z.size=x.size+y.size) λ_=>mG x y:=(PP.cat (by grind [bJ])).dd
theorem agj:∀l c ,(Lib.repeatL l c).length=c*l.length:=λl c=>Lib.repeatL_length l c
theorem FG {a w}(ha:KU a)(hw:0<=w/\w<=9):DD N (λx:ζ=>x.size<=30) λn=>lU n a w:=by
 unfold lU;refine (aiu ha.1 ha.2).dd.bind λx0 h0=>?_;have hc:0<=(if 0<IntKind.i64.wrap (w-(x0.size:Int)) then IntKind.i64.wrap (w-(x0.size:Int)) else 0)/\(if 0<IntKind.i64.wrap (w-(x0.size:Int)) then IntKind.i64.wrap (w-(x0.size:Int)) else 0)<=9:=by
  grind [vw]
 generalize (if 0<IntKind.i64.wrap (w-(x0.size:Int)) then IntKind.i64.wrap (w-(x0.size:Int)) else 0)=c at hc⊢;refine DD.bind (P:=λx:ζ=>x.size<=9) ?_ λx1 h1=>(DD.cat (by omega)).bind λx2 h2=>DD.pure (by omega);unfold strings_Repeat;have h48:(ofBytes [48]).size=1:=rfl;refine (PP.ite (λ_=>PP.pure ?_) λhn=>absurd ⟨hc.1,by omega,by omega⟩ hn).dd;show (Lib.repeatL [48] c.toNat).toArray.size<=9
 grind [List.size_toArray,agj]
def FH (x:Mo):Prop:=KU x.2.1/\KU x.2.2.1/\KU x.2.2.2.1/\KU x.2.2.2.2.1/\KU x.2.2.2.2.2.1/\KU x.2.2.2.2.2.2.1/\KU x.2.2.2.2.2.2.2.2.2.1
def alY l c:(Lib.trimRightB l c).length<=l.length:=by
 grind [Lib.trimRightB,List.dropWhile_sublist]
def UX (hx:FH x){s}(hs:s.size<=200):DM N x (λr:ζ=>r.size<=300) λn a=>iW n (ak a) s:=by
 unfold iW;have h46:(ofBytes [46]).size=1:=rfl;refine DM.ld (o:=9) (λ_=>rfl) rfl rfl (DM.ite (λ_=>DM.ld (o:=9) (λ_=>rfl) rfl rfl (DM.dd (FG hx.2.2.2.2.2.2 (by omega)) λx2 h2=>DM.dd (P:=λy:ζ=>y.size<=30) ?_ λx3 h3=>DM.dd (DD.cat (by omega)) λx4 h4=>DM.dd (DD.cat (by omega)) λx5 h5=>DM.pure (by omega))) λ_=>DM.pure (by omega));refine⟨⟨(Lib.trimRightB x2.data.toList 48).toArray⟩,?_,λn h _ hw=>?_⟩
 .show (Lib.trimRightB x2.data.toList 48).toArray.size<=30;have:=alY x2.data.toList 48;have h5:x2.data.toList.length=x2.size:=rfl
  grind
 .show Wp (iJ n x2 (ofBytes [48])) h _;unfold iJ;show Wp (if (48:UInt8).toNat<128/\x2.size<=9223372036854775807 then AI (⟨(Lib.trimRightB x2.data.toList 48).toArray⟩:ζ) else AS) h _;rw[By ⟨by decide,by omega⟩];exact ag.2 ⟨rfl,Fr.refl hw⟩
def Jm (hx:FH x){s}(hs:s.size<=100):DM N x (λr:ζ=>r.size<=300) λn a=>eO n (ak a) s:=by
 unfold eO;have h58:(ofBytes [58]).size=1:=rfl;refine DM.ld (o:=0) (λ_=>rfl) rfl rfl (DM.ite (λ_=>DM.ck (by decide) (DM.ck (by decide) (DM.ck (by decide) (DM.ld (o:=4) (λ_=>rfl) rfl rfl (DM.ld (o:=5) (λ_=>rfl) rfl rfl (DM.ld (o:=6) (λ_=>rfl) rfl rfl ?_)))))) λ_=>UX hx (by omega));refine DM.ddc (FG hx.2.2.2.1 (by omega)) (λb a hm c hc=>by grind [Addr.plus]) λx7 h7=>DM.dd (DD.cat (by omega)) λx8 h8=>?_;refine DM.ddc (FG hx.2.2.2.2.1 (by omega)) (λb a hm c hc=>by subst hc;simp[Addr.plus] at hm;grind) λx9 h9=>DM.dd (DD.cat (by omega)) λcH h10=>DM.dd (DD.cat (by omega)) λx11 h11=>?_;exact DM.dd (FG hx.2.2.2.2.2.1 (by omega)) λx12 h12=>DM.dd (DD.cat (by omega)) λx13 h13=>DM.dd (DD.cat (by omega)) λx14 h14=>UX hx (by omega)
def UY (hx:FH x):DD N (λr:ζ=>r.size<=300) λn=>lh n x:=by
 unfold lh;refine DM.run ?_;have h45:(ofBytes [45]).size=1:=rfl;have h84:(ofBytes [84]).size=1:=rfl;have h00:(ofBytes []).size=0:=rfl;refine DM.ld (o:=0) (λ_=>rfl) rfl rfl (DM.ite (λ_=>DM.ck (by decide) (DM.ck (by decide) (DM.ck (by decide) (DM.ld (o:=1) (λ_=>rfl) rfl rfl (DM.ld (o:=2) (λ_=>rfl) rfl rfl (DM.ld (o:=3) (λ_=>rfl) rfl rfl ?_)))))) λ_=>?_)
 .refine DM.ddc (FG hx.1 (by omega)) (λb a hm c hc=>by grind [Addr.plus]) λx8 h8=>DM.dd (DD.cat (by omega)) λx9 h9=>?_;refine DM.ddc (FG hx.2.1 (by omega)) (λb a hm c hc=>by subst hc;simp[Addr.plus] at hm;grind) λcH h10=>DM.dd (DD.cat (by omega)) λx11 h11=>DM.dd (DD.cat (by omega)) λx12 h12=>?_;refine DM.dd (FG hx.2.2.1 (by omega)) λx13 h13=>DM.dd (DD.cat (by omega)) λx14 h14=>DM.ld (λ_=>rfl) rfl rfl (DM.ite (λ_=>DM.dd (DD.cat (by omega)) λx16 h16=>Jm hx (by omega)) λ_=>Jm hx (by omega))
 .exact DM.ld (λ_=>rfl) rfl rfl (DM.ite (λ_=>DM.dd (DD.cat (by omega)) λx16 h16=>Jm hx (by omega)) λ_=>Jm hx (by omega))
end
section
variable {α β:Type}{h h' h0:aj}{L:List bA}{Q:β->aj->Prop}{N M':Nat}
structure Bk where
 b0:Nat
 b1:Nat
 b2:Nat
 b3:Nat
 b5:Nat
structure Sg where
 x:Mo
 pos:Int
 y:Mo
abbrev QC (B:Bk):ξ:=Value.func (Fn.func rW) #[] #[Value.pointer (some (ak B.b3)),Value.pointer (some (ak B.b0))]
abbrev SL (s:ζ)(B:Bk)(σ:Sg):List bA:=[.au B.b5 [QC B] yw,.au B.b3 [vi σ.pos] an,.au B.b2 (mv σ.x) bO,.au B.b1 (mv σ.y) bO,.au B.b0 [.string s] uo]
def DS (N:Nat)(s:ζ)(σ:Sg)(P:α->Sg->Prop)(m:Nat->Bk->M α):Prop:=∃r σ',P r σ'/\∀n B h0 h,N<=n->Z h0 h (SL s B σ)->Wp (m n B) h λy h'=>y=r/\Z h0 h' (SL s B σ')
variable {s:ζ}{σ:Sg}
def DS.pure {P:α->Sg->Prop}{r}(hr:P r σ):DS N s σ P λ_ _=>AI r:=⟨r,σ,hr,λn B h0 h _ z=>ag.2 ⟨rfl,z⟩⟩
def DS.bind {P}{R}{m}{f:Nat->Bk->α->M β}(hm:DS N s σ P m)(hf:∀x σ',P x σ'->DS N s σ' R λn B=>f n B x):DS N s σ R λn B=>sh (m n B) (f n B):=by
 obtain⟨x,σ1,hx,h1⟩:=hm;obtain⟨y,σ2,hy,h2⟩:=hf x σ1 hx;refine⟨y,σ2,hy,λn B h0 h hn z=>?_⟩;show Wp (sh (m n B) (f n B)) h _;rw[ah];refine (h1 n B h0 h hn z).mono λw h3 hw=>?_;obtain⟨rfl,z3⟩:=hw;exact h2 n B h0 h3 hn z3
def DS.ite {P:α->Sg->Prop}{c}[Decidable c]{a b}(ha:c->DS N s σ P a)(hb:¬c->DS N s σ P b):DS N s σ P λn B=>if c then a n B else b n B:=by
 by_cases hc:c
 .simp_all
 simp_all
def DS.le {P:α->Sg->Prop}{m}(hm:DS N s σ P m)(hl:N<=M'):DS M' s σ P m:=let ⟨x,σ1,hx,h1⟩:=hm;⟨x,σ1,hx,λn B h0 h hn z=>h1 n B h0 h (by omega) z⟩
def DS.succ {P:α->Sg->Prop}{l m}(he:∀n B,l (n+1) B=m n B)(hm:DS N s σ P m):DS (N+1) s σ P l:=by
 obtain⟨x,σ1,hx,h1⟩:=hm;refine⟨x,σ1,hx,λn B h0 h hn z=>?_⟩;obtain⟨n,rfl⟩:∃m,n=m+1:=⟨n-1,by omega⟩;rw[he];exact h1 n B h0 h (by omega) z
def DS.I9 {R}{f:Nat->Bk->Int->M β}(hf:DS N s σ R λn B=>f n B σ.pos):DS N s σ R λn B=>sh (dz li (ak B.b3)) (f n B):=by
 obtain⟨r,σ1,hr,h2⟩:=hf;exact⟨r,σ1,hr,λn B h0 h hn z=>z.ld 1 (h2 n B h0 h hn z)⟩
def DS.stP {R}{v}{f:Nat->Bk->Unit->M β}(hf:DS N s { σ with pos:=v } R λn B=>f n B ()):DS N s σ R λn B=>sh (sL (ak B.b3) [vi v]) (f n B):=by
 obtain⟨r,σ1,hr,h2⟩:=hf;exact⟨r,σ1,hr,λn B h0 h hn z=>z.st 1 λh' z'=>h2 n B h0 h' hn z'⟩
def DS.LD {R}{f:Nat->Bk->ζ->M β}(hf:DS N s σ R λn B=>f n B s):DS N s σ R λn B=>sh (dz .str (ak B.b0)) (f n B):=by
 obtain⟨r,σ1,hr,h2⟩:=hf;exact⟨r,σ1,hr,λn B h0 h hn z=>z.ld 4 (h2 n B h0 h hn z)⟩
def DS.ldF {R}{f:Nat->Bk->ξ->M β}(hf:DS N s σ R λn B=>f n B (QC B)):DS N s σ R λn B=>sh (dz .raw (ak B.b5)) (f n B):=by
 obtain⟨r,σ1,hr,h2⟩:=hf;exact⟨r,σ1,hr,λn B h0 h hn z=>z.ld 0 (h2 n B h0 h hn z)⟩
def DS.ix {R}{i:Int}{f:Nat->Bk->UInt8->M β}(h1:0<=i)(h2:i<s.size)(hf:∀c,DS N s σ R λn B=>f n B c):DS N s σ R λn B=>sh (qc s i) (f n B):=by
 have hlt:i.toNat<s.size:=by omega
 obtain⟨r,σ1,hr,h3⟩:=hf s[i.toNat];refine⟨r,σ1,hr,λn B h0 h hn z=>?_⟩;show Wp (sh (qc s i) (f n B)) h _;rw[ah,fA]
 grind
def DS.fn {ts}{R}{v:Bk->ξ}{c:Bk->aY ts}{f:Nat->Bk->aY ts->M β}(hx:∀B,An ts (Ng (v B))=some (c B))(hf:DS N s σ R λn B=>f n B (c B)):DS N s σ R λn B=>sh (sB ts (v B)) (f n B):=by
 grind [Wp,sh,sB,ah,lD]
def Yl (x:Mo)(j:Nat)(v:Int):Mo:=
 match j with
 |0=>(v,x.2)
 |1=>(x.1,v,x.2.2)
 |2=>(x.1,x.2.1,v,x.2.2.2)
 |3=>(x.1,x.2.1,x.2.2.1,v,x.2.2.2.2)
 |4=>(x.1,x.2.1,x.2.2.1,x.2.2.2.1,v,x.2.2.2.2.2)
 |5=>(x.1,x.2.1,x.2.2.1,x.2.2.2.1,x.2.2.2.2.1,v,x.2.2.2.2.2.2)
 |6=>(x.1,x.2.1,x.2.2.1,x.2.2.2.1,x.2.2.2.2.1,x.2.2.2.2.2.1,v,x.2.2.2.2.2.2.2)
 |7=>(x.1,x.2.1,x.2.2.1,x.2.2.2.1,x.2.2.2.2.1,x.2.2.2.2.2.1,x.2.2.2.2.2.2.1,v,x.2.2.2.2.2.2.2.2)
 |8=>(x.1,x.2.1,x.2.2.1,x.2.2.2.1,x.2.2.2.2.1,x.2.2.2.2.2.1,x.2.2.2.2.2.2.1,x.2.2.2.2.2.2.2.1,v,x.2.2.2.2.2.2.2.2.2)
 |_=>(x.1,x.2.1,x.2.2.1,x.2.2.2.1,x.2.2.2.2.1,x.2.2.2.2.2.1,x.2.2.2.2.2.2.1,x.2.2.2.2.2.2.2.1,x.2.2.2.2.2.2.2.2.1,v,x.2.2.2.2.2.2.2.2.2.2)
def getM (x:Mo)(j:Nat):Int:=
 match j with
 |0=>x.1|1=>x.2.1|2=>x.2.2.1|3=>x.2.2.2.1|4=>x.2.2.2.2.1|5=>x.2.2.2.2.2.1|6=>x.2.2.2.2.2.2.1|7=>x.2.2.2.2.2.2.2.1|8=>x.2.2.2.2.2.2.2.2.1|_=>x.2.2.2.2.2.2.2.2.2.1
def al0 {j}(h:j<=9):j=0\/j=1\/j=2\/j=3\/j=4\/j=5\/j=6\/j=7\/j=8\/j=9:=by omega
def ace {x}{j}{v}(hj:j<=9):aR (mv x) j [vi v]=mv (Yl x j v):=by
 rcases al0 hj with rfl|rfl|rfl|rfl|rfl|rfl|rfl|rfl|rfl|rfl<;>rfl
def UZ {x}{j}(hj:j<=9):(mv x)[j]?=some (vi (getM x j)):=by
 rcases al0 hj with rfl|rfl|rfl|rfl|rfl|rfl|rfl|rfl|rfl|rfl<;>rfl
def GA {x}{j}{v}(hj:j<=9)(hx:FH x)(hv:KU v):FH (Yl x j v):=by
 obtain⟨h1,h2,h3,h4,h5,h6,h7⟩:=hx;rcases al0 hj with rfl|rfl|rfl|rfl|rfl|rfl|rfl|rfl|rfl|rfl<;>(unfold Yl FH;simp only;exact⟨by assumption,by assumption,by assumption,by assumption,by assumption,by assumption,by assumption⟩)
def DS.ldX {R}{j}{g:Bk->Addr}{f:Nat->Bk->Int->M β}(hg:∀B,g B=⟨B.b2,j,none⟩)(hj:j<=9)(hf:DS N s σ R λn B=>f n B (getM σ.x j)):DS N s σ R λn B=>sh (dz li (g B)) (f n B):=by
 obtain⟨r,σ1,hr,h2⟩:=hf;refine⟨r,σ1,hr,λn B h0 h hn z=>?_⟩;show Wp (sh (dz li (g B)) (f n B)) h _;rw[hg];exact z.ld 2 (h2 n B h0 h hn z) rfl (UZ hj) rfl
def DS.stX {R}{j}{v}{g:Bk->Addr}{f:Nat->Bk->Unit->M β}(hg:∀B,g B=⟨B.b2,j,none⟩)(hj:j<=9)(hf:DS N s { σ with x:=Yl σ.x j v } R λn B=>f n B ()):DS N s σ R λn B=>sh (sL (g B) [vi v]) (f n B):=by
 obtain⟨r,σ1,hr,h2⟩:=hf;refine⟨r,σ1,hr,λn B h0 h hn z=>?_⟩;show Wp (sh (sL (g B) [vi v]) (f n B)) h _;rw[hg];exact z.st 2 (λh' z'=>h2 n B h0 h' hn z') rfl (ace hj) (by show j+1<=11;omega)
def al1 (x:Mo)(v:Int):Mo:=(x.1,x.2.1,x.2.2.1,x.2.2.2.1,x.2.2.2.2.1,x.2.2.2.2.2.1,x.2.2.2.2.2.2.1,x.2.2.2.2.2.2.2.1,x.2.2.2.2.2.2.2.2.1,x.2.2.2.2.2.2.2.2.2.1,v)
def DS.ldZ {R}{f:Nat->Bk->Int->M β}(hf:DS N s σ R λn B=>f n B σ.x.2.2.2.2.2.2.2.2.2.2):DS N s σ R λn B=>sh (dz (.int .u8) ((ak B.b2).plus 10)) (f n B):=by
 obtain⟨r,σ1,hr,h2⟩:=hf;exact⟨r,σ1,hr,λn B h0 h hn z=>z.ld 2 (h2 n B h0 h hn z)⟩
def DS.stZ {R}{v}{f:Nat->Bk->Unit->M β}(hf:DS N s { σ with x:=al1 σ.x v } R λn B=>f n B ()):DS N s σ R λn B=>sh (sL ((ak B.b2).plus 10) [v8 v]) (f n B):=by
 obtain⟨r,σ1,hr,h2⟩:=hf;exact⟨r,σ1,hr,λn B h0 h hn z=>z.st 2 (λh' z'=>h2 n B h0 h' hn z') rfl rfl (acX 11)⟩
def DS.eZ {R}{f:Nat->Bk->Mo->M β}(hf:DS N s σ R λn B=>f n B σ.x):DS N s σ R λn B=>sh (cF moL (ak B.b2)) (f n B):=by
 obtain⟨r,σ1,hr,h2⟩:=hf;exact⟨r,σ1,hr,λn B h0 h hn z=>z.eZ 2 (h2 n B h0 h hn z)⟩
def DS.aoz {R}{f:Nat->Bk->Mo->M β}(hf:DS N s σ R λn B=>f n B σ.y):DS N s σ R λn B=>sh (cF moL (ak B.b1)) (f n B):=by
 obtain⟨r,σ1,hr,h2⟩:=hf;exact⟨r,σ1,hr,λn B h0 h hn z=>z.eZ 3 (h2 n B h0 h hn z)⟩
def DS.stY {R}{x}{f:Nat->Bk->Unit->M β}(hf:DS N s { σ with y:=x } R λn B=>f n B ()):DS N s σ R λn B=>sh (sL (ak B.b1) (mv x)) (f n B):=by
 obtain⟨r,σ1,hr,h2⟩:=hf;exact⟨r,σ1,hr,λn B h0 h hn z=>z.st 3 (λh' z'=>h2 n B h0 h' hn z') rfl rfl (acX _)⟩
def DS.ap8 {R}{x}{f:Nat->Bk->Unit->M β}(hf:DS N s { σ with y:=x } R λn B=>f n B ()):DS N s σ R λn B=>sh (Ago.sM [some (ak B.b3),some (ak B.b0)] (sL (ak B.b1) (mv x))) (f n B):=by
 obtain⟨r,σ1,hr,h2⟩:=hf;refine⟨r,σ1,hr,λn B h0 h hn z=>?_⟩;show Wp (sh (Ago.sM [some (ak B.b3),some (ak B.b0)] (sL (ak B.b1) (mv x))) (f n B)) h _;rw[ah];refine J8 ?_;have l0:LB h B.b0 _ _:=z.get 4 rfl;have l3:LB h B.b3 _ _:=z.get 1 rfl;have key:Wp (sh (sL (ak B.b1) (mv x)) AI) h λy h'=>Z h0 h' (SL s B { σ with y:=x }):=z.st 3 (λh' z'=>ag.2 z') rfl rfl (acX _);rw[ah] at key;refine key.mono λy h' hz=>?_;have z':=ag.1 hz;have m0:LB h' B.b0 _ _:=z'.get 4 rfl;have m3:LB h' B.b3 _ _:=z'.get 1 rfl;refine⟨λa hm=>?_,h2 n B h0 h' hn z'⟩;simp at hm;rcases hm with rfl|rfl
 .show h'.get B.b3=h.get B.b3;rw[l3.get,m3.get]
 .show h'.get B.b0=h.get B.b0;rw[l0.get,m0.get]
def OKr (r:Mo×Bool)(_:Sg):Prop:=FH r.1
structure FQ (s:ζ) (σ:Sg):Prop where
 lo:0<=σ.pos
 hi:σ.pos<=s.size
 ok:FH σ.x
def acf x:KU (IntKind.i64.wrap x):=Tl x
def FQ.fwd (i:FQ s σ)(hs:s.size<=1000000)(h:σ.pos<s.size):FQ s { σ with pos:=IntKind.i64.wrap (σ.pos+1) }:=by
 have:=i.lo;refine⟨?_,?_,i.ok⟩<;>simp<;>rw[vw (by omega) (by omega)]<;>omega
def ap9 (s:ζ)(r:Int⊕(Int×Bool))(σ:Sg):Prop:=FQ s σ/\(match r with | .inl v=>KU v | .inr p=>KU p.1)
def al2 (hs:s.size<=1000000):∀(k:Nat) (c v i:Int) σ ,FQ s σ->0<=i->c-i<=k->c<=100->KU v->DS (k+1) s σ (ap9 s) λn B=>kB n (ak B.b3) (ak B.b0) v c i:=by
 intro k
 induction k with
 |zero=>
  intro c v i σ iv hi hk hc hv;refine DS.succ (m:=λn B=>kZ (kB n) n (ak B.b3) (ak B.b0) v c i) (λ_ _=>rfl) ?_;unfold kZ;exact DS.ite (λh1=>by grind) λ_=>DS.pure ⟨iv,hv⟩
 |succ k ih=>
  intro c v i σ iv hi hk hc hv;refine DS.succ (m:=λn B=>kZ (kB n) n (ak B.b3) (ak B.b0) v c i) (λ_ _=>rfl) ?_;unfold kZ;have z64:KU 0:=by grind
  refine DS.ite (λh1=>DS.I9 (DS.LD (DS.ite (λ_=>DS.pure ⟨iv,z64⟩) λh2=>?_))) λ_=>DS.pure ⟨iv,hv⟩;simp only[ab8] at h1 h2;have h3:σ.pos<s.size:=by omega
  refine DS.LD (DS.I9 (DS.ix iv.lo h3 λc1=>DS.ite (λ_=>DS.pure ⟨iv,z64⟩) λ_=>DS.LD (DS.I9 (DS.ix iv.lo h3 λc2=>DS.ite (λ_=>DS.pure ⟨iv,z64⟩) λ_=>?_))));unfold pK;have e:IntKind.i64.wrap (i+1)=i+1:=vw (by omega) (by omega);refine DS.LD (DS.I9 (DS.ix iv.lo h3 λc3=>DS.I9 (DS.stP ?_)));rw[e];exact ih _ _ _ _ (iv.fwd hs h3) (by omega) (by omega) hc (acf _)
def al3 (hs:s.size<=1000000){c}(h1:0<=c)(h2:c<=9){σ}(iv:FQ s σ):DS 10 s σ (λ(r:Int×Bool) σ'=>FQ s σ'/\KU r.1) λn B=>ml n (QC B) c:=by
 have he:∀n B,ml n (QC B) c=sh (sB [aB,aB] (QC B)) λ(x:Addr×Addr)=>ri n c x.1 x.2:=λn B=>by
  unfold ml;rw[By (show tU rW (QC B)=true from rfl)]
 suffices hh:DS 10 s σ (λ(r:Int×Bool) σ'=>FQ s σ'/\KU r.1) λn B=>sh (sB [aB,aB] (QC B)) λ(x:Addr×Addr)=>ri n c x.1 x.2 by
  grind
 refine DS.fn (c:=λB=>(ak B.b3,ak B.b0)) (λB=>rfl) ?_;unfold ri;refine DS.bind ((al2 hs 9 c 0 0 σ iv (by omega) (by omega) (by omega) (by grind)).le (by omega)) λr σ1 hr=>?_;cases r with
 |inl v=>exact DS.pure ⟨hr.1,hr.2⟩
 |inr p=>exact DS.pure ⟨hr.1,hr.2⟩
abbrev sl2 (B:Bk)(lo len cap:Nat):Sl:=⟨some ⟨B.b2,lo,none⟩,len,cap⟩
def DS.ixA {R}{i}{lo len cap:Nat}{f:Nat->Bk->Addr->M β}(h1:0<=i)(h2:i<(len:Int))(hf:DS N s σ R λn B=>f n B ⟨B.b2,lo+i.toNat,none⟩):DS N s σ R λn B=>sh (ni (sl2 B lo len cap) i 1) (f n B):=by
 obtain⟨r,σ1,hr,h3⟩:=hf;refine⟨r,σ1,hr,λn B h0 h hn z=>?_⟩;show Wp (sh (ni (sl2 B lo len cap) i 1) (f n B)) h _;rw[ah,ta];refine⟨_,rfl,h1,h2,?_⟩;have e:(Addr.plus ⟨B.b2,lo,none⟩ (i.toNat*1))=⟨B.b2,lo+i.toNat,none⟩:=by simp[Addr.plus]
 rw[e];exact h3 n B h0 h hn z
def aoA (s:ζ)(_:Unit⊕Bool)(σ:Sg):Prop:=FQ s σ
def al4 (hs:s.size<=1000000){lo len cap:Nat}(hl:lo+len<=10) fst sep (hf:0<=fst/\fst<=9):∀(k:Nat) i σ ,FQ s σ->0<=i->(len:Int)-i<=k->DS (k+11) s σ (aoA s) λn B=>iT n (sl2 B lo len cap) fst sep (ak B.b3) (ak B.b0) (ak B.b5) len i:=by
 intro k
 induction k with
 |zero=>
  intro i σ iv hi hk;refine DS.succ (m:=λn B=>k8 (iT n) n (sl2 B lo len cap) fst sep (ak B.b3) (ak B.b0) (ak B.b5) len i) (λ_ _=>rfl) ?_;unfold k8;exact DS.ite (λh1=>by grind) λ_=>DS.pure iv
 |succ k ih=>
  intro i σ iv hi hk;have e:IntKind.i64.wrap (i+1)=i+1\/¬(i<len):=by
   by_cases h:i<len
   .grind [vw]
   grind
  have tail:∀{σ:Sg} (w:Int),FQ s σ->0<=w/\w<=9->i<(len:Int)->DS (k+11) s σ (aoA s) λn B=>eM (iT n) n (sl2 B lo len cap) fst sep (ak B.b3) (ak B.b0) (ak B.b5) i w len i:=by
   intro σ w iv hw hlt;unfold eM;refine DS.ldF (DS.bind ((al3 hs hw.1 hw.2 iv).le (by omega)) λr σ1 hr=>DS.ite (λ_=>DS.pure hr.1) λ_=>DS.ixA hi hlt (DS.stX (j:=lo+i.toNat) (λ_=>rfl) (by omega) ?_));rw[e.resolve_right λh=>h hlt];exact ih (i+1) _ ⟨hr.1.lo,hr.1.hi,GA (by omega) hr.1.ok hr.2⟩ (by omega) (by omega)
  refine DS.succ (m:=λn B=>k8 (iT n) n (sl2 B lo len cap) fst sep (ak B.b3) (ak B.b0) (ak B.b5) len i) (λ_ _=>rfl) ?_;unfold k8;refine DS.ite (λh1=>?_) λ_=>DS.pure iv;simp at h1;refine DS.ite (λh2=>DS.I9 (DS.LD (DS.ite (λ_=>DS.pure iv) λh3=>?_))) λh2=>?_
  .simp only[ab8] at h2 h3;have h4:σ.pos<s.size:=by omega
   refine DS.LD (DS.I9 (DS.ix iv.lo h4 λc=>DS.ite (λ_=>DS.pure iv) λ_=>DS.I9 (DS.stP ?_)));have iv2:=iv.fwd hs h4;exact DS.ite (λ_=>tail fst iv2 hf h1) λ_=>tail 2 iv2 (by omega) h1
  .exact DS.ite (λ_=>tail fst iv hf h1) λ_=>tail 2 iv (by omega) h1
abbrev CE (B:Bk):ξ:=Value.func (Fn.func dZ) #[] #[Value.pointer (some (ak B.b3)),Value.pointer (some (ak B.b0)),Value.pointer (some (ak B.b5))]
def al5 (hs:s.size<=1000000){lo len cap}(hl:lo+len<=10) fst sep (hf:0<=fst/\fst<=9){σ}(iv:FQ s σ):DS 30 s σ (λ(_:Bool) σ'=>FQ s σ') λn B=>jY n (sl2 B lo len cap) fst sep (ak B.b3) (ak B.b0) (ak B.b5):=by
 unfold jY;refine DS.bind ((al4 hs hl fst sep hf 10 0 σ iv (by omega) (by omega)).le (by omega)) λr σ1 hr=>?_;cases r with
 |inl v=>exact DS.pure hr
 |inr p=>exact DS.pure hr
def Oh (hs:s.size<=1000000){lo len cap}(hl:lo+len<=10) fst sep (hf:0<=fst/\fst<=9){σ}(iv:FQ s σ){D:Nat->ξ->Sl->Int->Int->M Bool}
  (hd:∀n B a,D n (CE B) a fst sep=sh (sB [aB,aB,aB] (CE B)) λ(c:Addr×Addr×Addr)=>jY n a fst sep c.1 c.2.1 c.2.2) :
  DS 30 s σ (λ(_:Bool) σ'=>FQ s σ') λn B=>D n (CE B) (sl2 B lo len cap) fst sep:=by
 suffices hh:DS 30 s σ (λ(_:Bool) σ'=>FQ s σ') λn B=>sh (sB [aB,aB,aB] (CE B)) λ(c:Addr×Addr×Addr)=>jY n (sl2 B lo len cap) fst sep c.1 c.2.1 c.2.2 by
  grind
 exact DS.fn (λB=>rfl) (al5 hs hl fst sep hf iv)
def DS.slA {R}{lo hi}{f:Nat->Bk->Sl->M β}(h1:lo<=hi)(h2:hi<=8)(hf:DS N s σ R λn B=>f n B (sl2 B (1+lo) (hi-lo) (8-lo+1))):DS N s σ R λn B=>sh (qG ((ak B.b2).plus 1) 8 lo hi 1) (f n B):=by
 obtain⟨r,σ1,hr,h3⟩:=hf;refine⟨r,σ1,hr,λn B h0 h hn z=>?_⟩;show Wp (sh (qG ((ak B.b2).plus 1) 8 lo hi 1) (f n B)) h _;obtain⟨y,h',e1,e2⟩:=h3 n B h0 h hn z;refine⟨y,h',?_,e2⟩;have e0:qG ((ak B.b2).plus 1) 8 lo hi 1 h=some (sl2 B (1+lo) (hi-lo) (8-lo+1),h):=by
  unfold qG;rw[By ⟨by omega,by omega,by omega⟩];simp[Addr.plus]
 unfold sh
 grind
def agk (hs:s.size<=1000000)(v:Bk->ξ):∀(k:Nat) (i:Int) σ ,FQ s σ->0<=i->9-i<=k->DS (k+1) s σ (λ(r:Int) σ'=>FQ s σ'/\0<=r) λn B=>na n (ak B.b0) (ak B.b1) (ak B.b2) (ak B.b3) (v B) i:=by
 intro k
 induction k with
 |zero=>
  intro i σ iv hi hk;refine DS.succ (m:=λn B=>nG (na n) n (ak B.b0) (ak B.b1) (ak B.b2) (ak B.b3) (v B) i) (λ_ _=>rfl) ?_;unfold nG;exact DS.ite (λh1=>by grind) λ_=>DS.pure ⟨iv,hi⟩
 |succ k ih=>
  intro i σ iv hi hk;refine DS.succ (m:=λn B=>nG (na n) n (ak B.b0) (ak B.b1) (ak B.b2) (ak B.b3) (v B) i) (λ_ _=>rfl) ?_;unfold nG;refine DS.ite (λh1=>DS.I9 (DS.LD (DS.ite (λh2=>?_) λ_=>DS.pure ⟨iv,hi⟩))) λ_=>DS.pure ⟨iv,hi⟩;simp at h1 h2;refine DS.LD (DS.I9 (DS.ix iv.lo h2 λc1=>DS.ite (λ_=>DS.LD (DS.I9 (DS.ix iv.lo h2 λc2=>DS.ite (λ_=>?_) λ_=>DS.pure ⟨iv,hi⟩))) λ_=>DS.pure ⟨iv,hi⟩));unfold rD;have e:IntKind.i64.wrap (i+1)=i+1:=vw (by omega) (by omega);refine DS.ldX (j:=9) (λ_=>rfl) (by omega) (DS.LD (DS.I9 (DS.ix iv.lo h2 λc3=>DS.stX (j:=9) (λ_=>rfl) (by omega) (DS.I9 (DS.stP ?_)))));rw[e];exact ih _ _ (FQ.fwd ⟨iv.lo,iv.hi,GA (by omega) iv.ok (acf _)⟩ hs h2) (by omega) (by omega)
def agl (v:Bk->ξ):∀(k:Nat) (i:Int) σ ,FQ s σ->0<=i->9-i<=k->DS (k+1) s σ (λ(_:Unit) σ'=>FQ s σ') λn B=>qo n (ak B.b0) (ak B.b1) (ak B.b2) (ak B.b3) (v B) i:=by
 intro k
 induction k with
 |zero=>
  intro i σ iv hi hk;refine DS.succ (m:=λn B=>nF (qo n) n (ak B.b0) (ak B.b1) (ak B.b2) (ak B.b3) (v B) i) (λ_ _=>rfl) ?_;unfold nF;exact DS.ite (λh1=>by grind) λ_=>DS.pure iv
 |succ k ih=>
  intro i σ iv hi hk;refine DS.succ (m:=λn B=>nF (qo n) n (ak B.b0) (ak B.b1) (ak B.b2) (ak B.b3) (v B) i) (λ_ _=>rfl) ?_;unfold nF;refine DS.ite (λh1=>?_) λ_=>DS.pure iv;simp at h1;have e:IntKind.i64.wrap (i+1)=i+1:=vw (by omega) (by omega);refine DS.ldX (j:=9) (λ_=>rfl) (by omega) (DS.stX (j:=9) (λ_=>rfl) (by omega) ?_);rw[e];exact ih _ _ ⟨iv.lo,iv.hi,GA (by omega) iv.ok (acf _)⟩ (by omega) (by omega)
def Oi {x}{v}(hx:FH x):FH (al1 x v):=hx
def QD {b}{σ}(hx:FH σ.x):DS N s σ OKr λn B=>sh (cF moL (ak B.b2)) λ(x:Mo)=>sh (sL (ak B.b1) (mv x)) λ_=>sh (cF moL (ak B.b1)) λ(y:Mo)=>AI (y,b):=
 DS.eZ (DS.stY (DS.aoz (DS.pure hx)))
def KV {σ}(hx:FH σ.x):DS N s σ OKr λn B=>sh (cF moL (ak B.b2)) λ(x:Mo)=>sh (dz li (ak B.b3)) λ(p:Int)=>sh (dz .str (ak B.b0)) λ(t:ζ)=>sh (Ago.sM [some (ak B.b3),some (ak B.b0)] (sL (ak B.b1) (mv x))) λ_=>sh (cF moL (ak B.b1)) λ(y:Mo)=>AI (y,decide (p=(t.size:Int))):=
 DS.eZ (DS.I9 (DS.LD (DS.ap8 (DS.aoz (DS.pure hx)))))
def al6 (hs:s.size<=1000000)(iv:FQ s σ)(hp:σ.pos<s.size):DS 30 s σ OKr λn B=>tj n (ak B.b0) (ak B.b1) (ak B.b2) (ak B.b3) (CE B):=by
 unfold tj;have iv2:∀c,FQ s { x:=al1 σ.x c,pos:=IntKind.i64.wrap (σ.pos+1),y:=σ.y }:=λc=>⟨(iv.fwd hs hp).lo,(iv.fwd hs hp).hi,Oi iv.ok⟩;refine DS.LD (DS.I9 (DS.ix iv.lo hp λc=>DS.stZ (DS.I9 (DS.stP (DS.ldZ (DS.ite (λ_=>KV (Oi iv.ok)) λ_=>DS.ldZ (DS.ite (λ_=>DS.ldZ (DS.ite (λ_=>QD (Oi iv.ok)) λ_=>?_)) λ_=>?_)))))))
 .exact DS.slA (lo:=6) (hi:=8) (by omega) (by omega) (DS.bind (Oh hs (by omega) 2 58 (by omega) (iv2 _) λn B a=>By (show tU dZ (CE B)=true from rfl)) λr σ1 iv3=>DS.ite (λ_=>QD iv3.ok) λ_=>KV iv3.ok)
 .exact DS.slA (lo:=6) (hi:=8) (by omega) (by omega) (DS.bind (Oh hs (by omega) 2 58 (by omega) (iv2 _) λn B a=>By (show tU dZ (CE B)=true from rfl)) λr σ1 iv3=>DS.ite (λ_=>QD iv3.ok) λ_=>KV iv3.ok)
def Tp (hs:s.size<=1000000)(iv:FQ s σ):DS 30 s σ OKr λn B=>nf n (ak B.b0) (ak B.b1) (ak B.b2) (ak B.b3) (CE B):=by
 unfold nf;exact DS.I9 (DS.LD (DS.ite (λhp=>DS.ldX (j:=0) (λ_=>rfl) (by omega) (DS.ite (λ_=>al6 hs iv (by grind)) λ_=>KV iv.ok)) λ_=>KV iv.ok))
def al7 (hs:s.size<=1000000)(iv:FQ s σ)(hp:σ.pos<s.size):DS 30 s σ OKr λn B=>tn n (ak B.b0) (ak B.b1) (ak B.b2) (ak B.b3) (CE B):=by
 unfold tn;refine DS.I9 (DS.stP (DS.bind ((agk hs CE 9 0 _ (iv.fwd hs hp) (by omega) (by omega)).le (by omega)) λr σ1 hr=>DS.ite (λ_=>QD hr.1.ok) λ_=>DS.bind ((agl CE 9 r σ1 hr.1 hr.2 (by omega)).le (by omega)) λ_ σ2 iv2=>Tp hs iv2))
def Oj (hs:s.size<=1000000)(iv:FQ s σ):DS 30 s σ OKr λn B=>gS n (ak B.b0) (ak B.b1) (ak B.b2) (ak B.b3) (CE B):=by
 unfold gS;refine DS.slA (lo:=3) (hi:=6) (by omega) (by omega) (DS.bind (Oh hs (by omega) 2 58 (by omega) iv (D:=vR) λn B a=>By (show tU dZ (CE B)=true from rfl)) λr σ1 iv3=>DS.ite (λ_=>QD iv3.ok) λ_=>DS.ldX (j:=0) (λ_=>rfl) (by omega) (DS.stX (j:=0) (λ_=>rfl) (by omega) ?_));have iv4:FQ s { σ1 with x:=Yl σ1.x 0 (IntKind.i64.wrap (getM σ1.x 0+2)) }:=⟨iv3.lo,iv3.hi,GA (by omega) iv3.ok (acf _)⟩;exact DS.I9 (DS.LD (DS.ite (λhp=>DS.LD (DS.I9 (DS.ix iv3.lo (by grind) λc=>DS.ite (λ_=>al7 hs iv4 (by grind)) λ_=>Tp hs iv4))) λ_=>Tp hs iv4))
def al8 (hs:s.size<=1000000)(iv:FQ s σ):DS 30 s σ OKr λn B=>qp n (ak B.b0) (ak B.b1) (ak B.b2) (ak B.b3) (CE B):=by
 unfold qp;refine DS.slA (lo:=0) (hi:=3) (by omega) (by omega) (DS.bind (Oh hs (by omega) 4 45 (by omega) iv (D:=vQ) λn B a=>By (show tU dZ (CE B)=true from rfl)) λr σ1 iv3=>DS.ite (λ_=>QD iv3.ok) λ_=>DS.stX (j:=0) (λ_=>rfl) (by omega) ?_);have iv4:FQ s { σ1 with x:=Yl σ1.x 0 1 }:=⟨iv3.lo,iv3.hi,GA (by omega) iv3.ok (by grind)⟩;refine DS.I9 (DS.LD (DS.ite (λ_=>QD iv4.ok) λhp=>?_));have h5:σ1.pos<s.size:=by have:=iv3.hi;grind
 have iv5:=iv4.fwd hs h5;exact DS.LD (DS.I9 (DS.ix iv3.lo h5 λc=>DS.ite (λ_=>DS.LD (DS.I9 (DS.ix iv3.lo h5 λc=>DS.ite (λ_=>QD iv4.ok) λ_=>DS.I9 (DS.stP (Oj hs iv5))))) λ_=>DS.I9 (DS.stP (Oj hs iv5))))
abbrev mo0:Mo:=(0,0,0,0,0,0,0,0,0,0,0)
def Ym (hs:s.size<=1000000):DS 30 s ⟨mo0,0,mo0⟩ OKr λn B=>sh (dz .str (ak B.b0)) λ(x7:ζ)=>
  if decide (2<(↑(ByteArray.size x7):Int)) then
   sh (dz .str (ak B.b0)) λ(x8:ζ)=>
   sh (qc x8 2) λx9=>
   if !decide ((↑x9.toNat:Int)=58) then
    qp n (ak B.b0) (ak B.b1) (ak B.b2) (ak B.b3) (CE B)
   else
    gS n (ak B.b0) (ak B.b1) (ak B.b2) (ak B.b3) (CE B)
  else
   gS n (ak B.b0) (ak B.b1) (ak B.b2) (ak B.b3) (CE B):=by
 have iv:FQ s ⟨mo0,0,mo0⟩:=⟨by grind,by grind,by grind [FH]⟩;exact DS.LD (DS.ite (λhp=>DS.LD (DS.ix (by omega) (by grind) λc=>DS.ite (λ_=>al8 hs iv) λ_=>Oj hs iv)) λ_=>Oj hs iv)
def Ok (hs:s.size<=1000000):DD 30 (λr:Mo×Bool=>FH r.1) λn=>pW n s:=by
 obtain⟨r,σ1,hr,h1⟩:=Ym hs;refine⟨r,hr,λn h hn hw=>?_⟩;show Wp (pW n s) h _;unfold pW;refine (Z.start hw).new λx0 h1' z1 _=>z1.new (λx1 h2' z2 _=>z2.new (λx2 h3' z3 _=>z3.new λx3 h4' z4 _=>z4.st 0 (cs':=[vi 0]) λh5' z5=>z5.new λx5 h6' z6 _=>z6.st 0 (cs':=[QC ⟨x0,x1,x2,x3,x5⟩]) λh7' z7=>?_));refine (h1 n ⟨x0,x1,x2,x3,x5⟩ h h7' hn z7).mono λy h8 h9=>⟨h9.1,h9.2.fr⟩
end
section
variable {α β:Type}{h h' h0:aj}{L:List bA}{Q:β->aj->Prop}{N M':Nat}{x:Mo}
def DM.succ {P:α->Prop}{l m}(he:∀n a,l (n+1) a=m n a)(hm:DM N x P m):DM (N+1) x P l:=by
 obtain⟨r,hr,h1⟩:=hm;refine⟨r,hr,λn h0 h b hn z=>?_⟩;obtain⟨n,rfl⟩:∃m,n=m+1:=⟨n-1,by omega⟩;rw[he];exact h1 n h0 h b (by omega) z
def DM.bind {P}{R}{m}{f:Nat->Nat->α->M β}(hm:DM N x P m)(hf:∀y,P y->DM N x R λn a=>f n a y):DM N x R λn a=>sh (m n a) (f n a):=by
 obtain⟨y,hy,h1⟩:=hm;obtain⟨r,hr,h2⟩:=hf y hy;refine⟨r,hr,λn h0 h b hn z=>?_⟩;show Wp (sh (m n b) (f n b)) h _;rw[ah];refine (h1 n h0 h b hn z).mono λw h3 hw=>?_;obtain⟨rfl,f3⟩:=hw;exact h2 n h0 h3 b hn f3
def DM.arr {R}{e}{c0 cs}{ls}{w}{f:Nat->Nat->pC ls->M β}(h0:c0.all fv=true)(h1:cs.all fv=true)(h2:c0.length=cs.length)(h3:Ea ls cs=some w)(h4:ls.length=cs.length)
  (hf:DM N x R λn a=>f n a w):DM N x R λn a=>sh (gG none e c0) λb=>sh (sL (ak b) cs) λ_=>sh (cF ls (ak b)) (f n a):=by
 obtain⟨r,hr,h5⟩:=hf;refine⟨r,hr,λn g0 h a hn z=>?_⟩;refine z.new (λb h1' z1 _=>z1.st 0 (cs':=cs) (λh2' z2=>z2.eZ 0 (x:=w) (h5 n g0 h2' a hn z2.drop) rfl h3 h4) rfl ?_ ?_ h1) h0
 .grind [aR]
 grind
def DD.arr {R}{e}{c0 cs}{ls}{w}{f:Nat->pC ls->M β}(h0:c0.all fv=true)(h1:cs.all fv=true)(h2:c0.length=cs.length)(h3:Ea ls cs=some w)(h4:ls.length=cs.length)
  (hf:DD N R λn=>f n w):DD N R λn=>sh (gG none e c0) λb=>sh (sL (ak b) cs) λ_=>sh (cF ls (ak b)) (f n):=by
 obtain⟨r,hr,h5⟩:=hf;refine⟨r,hr,λn h hn hw=>?_⟩;refine (Z.start hw).new (λb h1' z1 _=>z1.st 0 (cs':=cs) (λh2' z2=>z2.eZ 0 (x:=w) ?_ rfl h3 h4) rfl ?_ ?_ h1) h0
 .exact (h5 n h2' hn z2.wf).mono λy h' hy=>⟨hy.1,kp hw z2.fr hy.2⟩
 .grind [aR]
 grind
def agm w:∀(k:Nat) (i:Int),0<=i->5-i<=k->DM (k+1) x (Any:Unit⊕Bool->Prop) λn a=>gJ n (ak a) w i:=by
 intro k
 induction k with
 |zero=>
  intro i hi hk;refine DM.succ (m:=λn a=>fL (gJ n) n (ak a) w i) (λ_ _=>rfl) ?_;unfold fL;exact DM.ite (λh1=>by grind) λ_=>DM.pure trivial
 |succ k ih=>
  intro i hi hk;refine DM.succ (m:=λn a=>fL (gJ n) n (ak a) w i) (λ_ _=>rfl) ?_;unfold fL;refine DM.ite (λh1=>?_) λ_=>DM.pure trivial;simp at h1;have e1:IntKind.i64.wrap (i+1)=i+1:=vw (by omega) (by omega);have e3:IntKind.i64.wrap (i+3)=i+3:=vw (by omega) (by omega);rw[e1,e3];have hix:∃v:Int,[vi w.1,vi w.2.1,vi w.2.2.1,vi w.2.2.2.1,vi w.2.2.2.2][i.toNat]?=some (vi v):=by
   have:i.toNat=0\/i.toNat=1\/i.toNat=2\/i.toNat=3\/i.toNat=4:=by omega
   rcases this with h|h|h|h|h<;>rw[h]<;>exact⟨_,rfl⟩
  obtain⟨v,hv⟩:=hix;refine DM.dd (P:=λy:Int=>y=v) ⟨v,rfl,λn h _ hw=>aew hi (by omega) hv rfl ⟨rfl,Fr.refl hw⟩⟩ λy _=>DM.ck (by grind) (DM.ld (l:=li) (o:=1+(i+3).toNat) (λb=>?_) (UZ (by omega)) rfl (DM.ite (λ_=>DM.pure trivial) λ_=>ih _ (by omega) (by omega)));simp[Addr.plus]
def U0:DM 20 x (Any:Bool->Prop) λn a=>gM n (ak a):=by
 unfold gM;refine DM.arr (ls:=[li,li,li,li,li]) (w:=(23,59,59,23,59)) rfl rfl rfl rfl rfl (DM.bind ((agm _ 5 0 (by omega) (by omega)).le (by omega)) λy _=>?_);cases y with
 |inl v=>exact DM.pure trivial
 |inr v=>exact DM.pure trivial
def MS:DD 20 (Any:Bool->Prop) λn=>jE n x:=by
 unfold jE;refine DM.run ?_;refine DM.ld (λ_=>rfl) rfl rfl (DM.ite (λ_=>DM.ck (by decide) (DM.ld (o:=1) (λ_=>rfl) rfl rfl (DM.ck (by decide) (DM.ld (o:=2) (λ_=>rfl) rfl rfl (DM.ck (by decide) (DM.ld (o:=3) (λ_=>rfl) rfl rfl (DM.dd (UW _ _ _) λy _=>DM.ite (λ_=>DM.pure trivial) λ_=>U0))))))) λ_=>U0)
def Tq:DD 20 (Any:Int->Prop) λn=>lP n x:=by
 unfold lP;refine DM.run ?_;exact DM.ck (by decide) (DM.ld (o:=1) (λ_=>rfl) rfl rfl (DM.ck (by decide) (DM.ld (o:=2) (λ_=>rfl) rfl rfl (DM.ck (by decide) (DM.ld (o:=3) (λ_=>rfl) rfl rfl (DM.dd (UW _ _ _) λy _=>
  DM.ck (by decide) (DM.ld (o:=4) (λ_=>rfl) rfl rfl (DM.ck (by decide) (DM.ld (o:=5) (λ_=>rfl) rfl rfl (DM.ck (by decide) (DM.ld (o:=6) (λ_=>rfl) rfl rfl (DM.ck (by decide) (DM.ld (o:=7) (λ_=>rfl) rfl rfl (DM.ck (by decide) (DM.ld (o:=8) (λ_=>rfl) rfl rfl
   (DM.ld (o:=10) (λ_=>rfl) rfl rfl (DM.ite (λ_=>DM.pure trivial) λ_=>DM.pure trivial)))))))))))))))))
theorem aoC (a:Int):KU (a.tmod 60):=by
 grind
def ach {a0 a1 a2}(h0:KU a0):DD 10020 (Any:ζ×Int->Prop) λn=>j6 n a0 a1 a2:=by
 unfold j6;have h90:(ofBytes [90]).size=1:=rfl;refine (agi a1).bind λy hy=>DD.ite (λ_=>DD.pure trivial) λ_=>(DD.ck (by decide)).bind λ_ _=>(DD.ck (by decide)).bind λ_ _=>(DD.ck (by decide)).bind λ_ _=>(DD.ck (by decide)).bind λ_ _=>?_;refine DD.arr (w:=((3,y.1,y.2.1,y.2.2.1,IntKind.i64.wrap (a2.tdiv 3600),(IntKind.i64.wrap (a2.tdiv 60)).tmod 60,a2.tmod 60,0,0,a0,0):Mo)) rfl rfl rfl rfl rfl ?_;exact (UY ⟨hy.1,hy.2.1,hy.2.2,acf _,aoC _,aoC _,h0⟩).bind λz hz=>(DD.cat (by omega)).bind λ_ _=>DD.pure trivial
def al9 {a0 a1}:DD 10020 (Any:ζ×Int->Prop) λn=>qZ n a0 a1:=by
 unfold qZ;refine DD.ite (λ_=>DD.pure trivial) λg1=>DD.ite (λ_=>DD.pure trivial) λg2=>DD.ite (λ_=>DD.pure trivial) λ_=>DD.ite (λ_=>DD.pure trivial) λ_=>?_;simp only[ab8] at g1 g2;have h0:KU a1:=by grind
 unfold rK;exact (DD.ck (by decide)).bind λ_ _=>(DD.ck (by decide)).bind λ_ _=>DD.ite (λ_=>ach h0) λ_=>ach h0
def DM.ama {P:α->Prop}{m}(hm:DM N x P m):DD N P λn=>sh (gG none bO (mv mo0)) λb=>sh (sL (ak b) (mv x)) λ_=>m n b:=by
 obtain⟨r,hr,h1⟩:=hm;exact⟨r,hr,λn h hn hw=>(Z.start hw).new λb h1' z1 f1=>z1.st 0 (λh2' z2=>(h1 n h h2' b hn z2).mono λy h2 h3=>⟨h3.1,h3.2.fr⟩) rfl rfl (acX 11)⟩
def agn (hx:FH x):DM 10020 x (Any:ζ×Int->Prop) λn a=>pZ n (ak a):=by
 unfold pZ;refine DM.eZ (DM.dd (MS.le (by omega)) λy _=>DM.ite (λ_=>DM.pure trivial) λ_=>DM.eZ (DM.ld (l:=li) (o:=9) (λ_=>rfl) rfl rfl (DM.ddc (ads:=λa=>[some ((ak a).plus 9)]) (Tq.le (by omega)) (λb a hm c hc=>?_) λz _=>DM.dd al9 λw _=>DM.pure trivial)));subst hc;simp[Addr.plus] at hm;grind
def Tr {s}(hs:s.size<=1000000):DD 10020 (Any:ζ×Int->Prop) λn=>qu n s:=by
 unfold qu;refine ((Ok hs).le (by omega)).bind λy hy=>DM.ama (DM.ite (λ_=>DM.pure trivial) λ_=>DM.ld (o:=10) (λ_=>rfl) rfl rfl (DM.ite (λ_=>DM.pure trivial) λ_=>agn hy))
def aci {s}(hs:s.size<=1000000):DD 10020 (Any:ζ×Int->Prop) λn=>wB n s:=by
 unfold wB;exact ((Ok hs).le (by omega)).bind λy hy=>DM.ama (DM.ite (λ_=>DM.pure trivial) λ_=>DM.ld (o:=10) (λ_=>rfl) rfl rfl (DM.ite (λ_=>DM.pure trivial) λ_=>DM.eZ (DM.dd (MS.le (by omega)) λz _=>DM.ite (λ_=>DM.pure trivial) λ_=>DM.eZ (DM.dd (UY hy) λw _=>DM.pure trivial))))
def acj {s}(hs:s.size<=1000000):DD 10020 (Any:Int->Prop) λn=>sW n s:=by
 unfold sW;exact (aci hs).bind λy _=>DD.ite (λ_=>DD.pure trivial) λ_=>DD.ite (λ_=>DD.pure trivial) λ_=>((Ok hs).le (by omega)).bind λz hz=>DM.ama (DM.ld (λ_=>rfl) rfl rfl (DM.pure trivial))
end
end Go.Sh
