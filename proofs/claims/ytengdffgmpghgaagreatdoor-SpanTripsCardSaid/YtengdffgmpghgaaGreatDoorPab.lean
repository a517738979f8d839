
import Derived.Test.YtengdffgmpghgaaGreatDoorPaa
import Derived.Test.YtengdffgmpghgaaGreatDoorGc
set_option linter.all false
namespace Go.Sh
open Go Go.Ago Go.Proofs
section
variable {α β:Type}{h h' h0:ab}{L:List bA}{Q:β->ab->Prop}{N M':Nat}
def DD (N:Nat)(P:α->Prop)(m:Nat->M α):Prop:=∃x,P x/\∀n h,N<=n->WF h->Wp (m n) h λy h'=>y=x/\Fr (λ_=>False) h h'
theorem PP.dd {P:α->Prop}{m:Nat->M α}(hm:PP P m):DD N P m:=by
 obtain⟨x,hx,h1⟩:=hm;exact⟨x,hx,λn h _ hw=>⟨x,h,h1 n h,rfl,Fr.refl hw⟩⟩
theorem DD.pure {P:α->Prop}{x:α}(hx:P x):DD N P λ_=>AI x:=(PP.pure hx).dd
theorem DD.bind {P:α->Prop}{R:β->Prop}{m:Nat->M α}{f:Nat->α->M β}(hm:DD N P m)(hf:∀x,P x->DD N R λn=>f n x):DD N R λn=>sh (m n) (f n):=by
 obtain⟨x,hx,h1⟩:=hm;obtain⟨y,hy,h2⟩:=hf x hx;refine⟨y,hy,λn h hn hw=>?_⟩;show Wp (sh (m n) (f n)) h _;rw[ag];refine (h1 n h hn hw).mono λz h3 hz=>?_;obtain⟨rfl,f3⟩:=hz;exact (h2 n h3 hn f3.wf).mono λw h4 hw4=>⟨hw4.1,iA hw f3 hw4.2⟩
theorem DD.ite {P:α->Prop}{c:Prop}[Decidable c]{a b:Nat->M α}(ha:c->DD N P a)(hb:¬c->DD N P b):DD N P λn=>if c then a n else b n:=by
 by_cases hc:c
 .simp_all
 simp_all
theorem DD.mono {P P':α->Prop}{m:Nat->M α}(hm:DD N P m)(hp:∀x,P x->P' x):DD N P' m:=let ⟨x,hx,h1⟩:=hm;⟨x,hp x hx,h1⟩
theorem DD.le {P:α->Prop}{m:Nat->M α}(hm:DD N P m)(hl:N<=M'):DD M' P m:=let ⟨x,hx,h1⟩:=hm;⟨x,hx,λn h hn hw=>h1 n h (by omega) hw⟩
theorem DD.ck {b:Bool}(hb:b=true):DD N (Any:Unit->Prop) λ_=>ou b:=(PP.ck hb).dd
def EC (y:Int):Bool:=decide (y.tmod 4=0)&&(!decide (y.tmod 100=0)||decide (y.tmod 400=0))
def Iq:ε:=[0,31,28,31,30,31,30,31,31,30,31,30,31]
def mm (y m:Int):Int:=if m=2/\EC y=true then 29 else Iq.getD m.toNat 0
def rk (y:Int):Int:=IntKind.i64.wrap (IntKind.i64.wrap (IntKind.i64.wrap (IntKind.i64.wrap (365*y)+IntKind.i64.wrap ((IntKind.i64.wrap (y+3)).tdiv 4))-IntKind.i64.wrap ((IntKind.i64.wrap (y+99)).tdiv 100))+IntKind.i64.wrap ((IntKind.i64.wrap (y+399)).tdiv 400))
theorem ab1 (y:Int):DD N (λb=>b=EC y) λn=>xN n y:=by
 unfold xN EC;refine (DD.ck (by decide)).bind λ_ _=>DD.ite (λh1=>(DD.ck (by decide)).bind λ_ _=>DD.ite (λh2=>DD.pure ?_) λh2=>(DD.ck (by decide)).bind λ_ _=>DD.pure ?_) λh1=>DD.pure ?_
 .grind
 .grind
 .simp only[OF] at h1;simp[h1]
theorem DY {y m:Int}(h1:1<=m)(h2:m<=12):DD N (λr=>r=mm y m) λn=>mC n y m:=by
 refine⟨mm y m,rfl,λn h hn hw=>?_⟩;obtain⟨lb,hlb,hl⟩:=ab1 (N:=N) y;unfold mC;refine (Z.start hw).new λx0 h1' z1 f1=>?_;refine z1.st 0 (cs':=Iq.map vi) λh2' z2=>?_;have tail:∀{h3} (z3:Z h h3 [.av x0 (Iq.map vi) GR]),¬(m=2/\EC y=true)->Wp (sh (ou (decide (0<=m/\m<((13:Nat):Int)))) λ_=>sh (ak li ((ai x0).plus (m.toNat*1))) λ(x4:Int)=>AI x4) h3 λy' h'=>y'=mm y m/\Fr (λ_=>False) h h':=by
  intro h3 z3 hne;rw[ag,Py];refine⟨by simp only[OF];omega,?_⟩;have hlt:m.toNat<Iq.length:=by show m.toNat<13;omega
  have e1:(Iq.map vi)[m.toNat]?=some (vi (Iq.getD m.toNat 0)):=by
   grind
  have e2:((ai x0).plus (m.toNat*1))=⟨x0,m.toNat,none⟩:=by simp[Addr.plus]
  rw[e2];refine z3.ld 0 (l:=li) (x:=Iq.getD m.toNat 0) ?_ rfl e1 rfl;refine af.2 ⟨?_,z3.fr⟩;unfold mm;rw[AT hne]
 by_cases hm:m=2
 .rw[By (by simpa using hm),ag];refine (hl n h2' hn z2.wf).mono λb h3 hb=>?_;obtain⟨rfl,f3⟩:=hb;have z3:=z2.pure f3;cases hlp:EC y with
  |true=>
   rw[hlb,By hlp,af];exact⟨by unfold mm;rw[By ⟨hm,hlp⟩],z3.fr⟩
  |false=>
   rw[hlb,AT (by rw[hlp];decide)];exact tail z3 λx=>by rw[hlp] at x;exact absurd x.2 (by decide)
 .rw[AT (by simpa using hm)];exact tail z2 λx=>hm x.1
theorem Hj (y:Int):PP (λr=>r=rk y) λn=>td n y:=(PP.ck (by decide)).bind λ_ _=>(PP.ck (by decide)).bind λ_ _=>(PP.ck (by decide)).bind λ_ _=>PP.pure rfl
theorem ab2 (y m:Int)(hm:m<=12):∀(k:Nat) (c d:Int),1<=d->m-d<=k->DD (k+1) (Any:Int->Prop) λn=>gZ n y m c d:=by
 intro k
 induction k with
 |zero=>
  intro c d hd hk;refine⟨c,trivial,λn h hn hw=>?_⟩;obtain⟨n,rfl⟩:∃m,n=m+1:=⟨n-1,by omega⟩;show Wp (gZ (n+1) y m c d) h _;rw[pO];unfold mU;rw[AT (by simp only[OF];omega),af];exact⟨rfl,Fr.refl hw⟩
 |succ k ih=>
  intro c d hd hk;by_cases hdm:d<m
  .obtain⟨l,_,hl⟩:=DY (N:=0) (y:=y) (m:=d) hd (by omega);have ew:IntKind.i64.wrap (d+1)=d+1:=tA (by omega) (by omega);obtain⟨x,_,hx⟩:=ih (IntKind.i64.wrap (c+l)) (d+1) (by omega) (by omega);refine⟨x,trivial,λn h hn hw=>?_⟩;obtain⟨n,rfl⟩:∃m,n=m+1:=⟨n-1,by omega⟩;show Wp (gZ (n+1) y m c d) h _;rw[pO];unfold mU;rw[By (by simpa using hdm),ag];refine (hl n h (by omega) hw).mono λr h1 hr=>?_;obtain⟨rfl,f1⟩:=hr;rw[ew];exact (hx n h1 (by omega) f1.wf).mono λw h4 hw4=>⟨hw4.1,iA hw f1 hw4.2⟩
  .refine⟨c,trivial,λn h hn hw=>?_⟩;obtain⟨n,rfl⟩:∃m,n=m+1:=⟨n-1,by omega⟩;show Wp (gZ (n+1) y m c d) h _;rw[pO];unfold mU;rw[AT (by simp only[OF];omega),af];exact⟨rfl,Fr.refl hw⟩
theorem Sx (y m d:Int):DD 20 (Any:Int×Int->Prop) λn=>xO n y m d:=by
 refine DD.ite (λ_=>DD.pure trivial) λ_=>DD.ite (λ_=>DD.pure trivial) λ_=>DD.ite (λ_=>DD.pure trivial) λh1=>DD.ite (λ_=>DD.pure trivial) λh2=>DD.ite (λ_=>DD.pure trivial) λ_=>?_;simp only[OF] at h1 h2;refine (DY (by omega) (by omega)).bind λx _=>DD.ite (λ_=>DD.pure trivial) λ_=>(Hj y).dd.bind λf _=>((ab2 y m (by omega) 12 _ 1 (by omega) (by omega)).le (by omega)).bind λr _=>DD.pure trivial
theorem vr {y:Int}(h1:0<=y)(h2:y<=20000):rk y=365*y+(y+3)/4-(y+99)/100+(y+399)/400:=by
 unfold rk;rw[tA (x:=y+3) (by omega) (by omega),tA (x:=y+99) (by omega) (by omega),tA (x:=y+399) (by omega) (by omega),
  afg (by omega),afg (by omega),afg (by omega)]
 grind [tA]
theorem ab3 {y:Int}(h1:0<=y):EC y=true↔(y%4=0/\(y%100≠0\/y%400=0)):=by
 grind [EC,Int.tmod_eq_emod_of_nonneg]
def QQ (y:Int):Nat->Int
 |0=>0
 |k+1=>mm y (12-k)+QQ y k
theorem aiN {y:Int}(h1:0<=y)(h2:y<=10020):rk (y+1)-rk y=QQ y 12:=by
 rw[vr (by omega) (by omega),vr (by omega) (by omega)];have hl:=ab3 h1;have L8:∀m:Int,m≠2->mm y m=Iq.getD m.toNat 0:=λm hm=>by unfold mm;rw[AT (λx=>hm x.1)]
 have e:QQ y 12=337+mm y 2:=by
  show mm y 1+(mm y 2+(mm y 3+(mm y 4+(mm y 5+(mm y 6+(mm y 7+(mm y 8+(mm y 9+(mm y 10+(mm y 11+(mm y 12+0)))))))))))=_;have l1:mm y 1=31:=(L8 1 (by decide)).trans rfl;have l3:mm y 3=31:=(L8 3 (by decide)).trans rfl;have l4:mm y 4=30:=(L8 4 (by decide)).trans rfl;have l5:mm y 5=31:=(L8 5 (by decide)).trans rfl;have l6:mm y 6=30:=(L8 6 (by decide)).trans rfl;have l7:mm y 7=31:=(L8 7 (by decide)).trans rfl;have l8:mm y 8=31:=(L8 8 (by decide)).trans rfl;have l9:mm y 9=30:=(L8 9 (by decide)).trans rfl;have l10:mm y 10=31:=(L8 10 (by decide)).trans rfl;have l11:mm y 11=30:=(L8 11 (by decide)).trans rfl;have l12:mm y 12=31:=(L8 12 (by decide)).trans rfl;omega
 rw[e];by_cases hlp:EC y=true
 .have:=hl.1 hlp;have e2:mm y 2=29:=by unfold mm;rw[By ⟨rfl,hlp⟩]
  rw[e2];omega
 .have hn:¬(y%4=0/\(y%100≠0\/y%400=0)):=λx=>hlp (hl.2 x);have e2:mm y 2=28:=by unfold mm;rw[AT (λx=>hlp x.2)];rfl
  rw[e2];omega
theorem ab4 (d:Int)(hd:d<=3652424):∀(k:Nat) (y:Int),0<=y->y<=10009->rk y<=d->10009-y<=k->DD (k+1) (λr:Int=>0<=r/\r<=10009/\rk r<=d/\d<rk (r+1)) λn=>jn n d y:=by
 intro k
 induction k with
 |zero=>
  intro y h1 h0 h2 h3;exfalso;rw[vr h1 (by omega)] at h2;omega
 |succ k ih=>
  intro y h1 h0 h2 h3;have hy:y<10009:=by rw[vr h1 (by omega)] at h2;omega
  have ew:IntKind.i64.wrap (y+1)=y+1:=tA (by omega) (by omega);obtain⟨f,hf,hf2⟩:=(Hj (y+1)).dd (N:=0);subst hf;by_cases hle:rk (y+1)<=d
  .obtain⟨x,hx,hx2⟩:=ih (y+1) (by omega) (by omega) hle (by omega);refine⟨x,hx,λn h hn hw=>?_⟩;obtain⟨n,rfl⟩:∃m,n=m+1:=⟨n-1,by omega⟩;show Wp (jn (n+1) d y) h _;rw[u4];unfold pD;rw[ew,ag];refine (hf2 n h (by omega) hw).mono λr h1 hr=>?_;obtain⟨rfl,f1⟩:=hr;rw[By (by simpa using hle)];exact (hx2 n h1 (by omega) f1.wf).mono λw h4 hw4=>⟨hw4.1,iA hw f1 hw4.2⟩
  .refine⟨y,⟨h1,by omega,h2,by omega⟩,λn h hn hw=>?_⟩;obtain⟨n,rfl⟩:∃m,n=m+1:=⟨n-1,by omega⟩;show Wp (jn (n+1) d y) h _;rw[u4];unfold pD;rw[ew,ag];refine (hf2 n h (by omega) hw).mono λr h1 hr=>?_;obtain⟨rfl,f1⟩:=hr;rw[AT (by simpa using hle),af];exact⟨rfl,f1⟩
theorem ab5 {y m:Int}(h1:1<=m)(h2:m<=12):0<=mm y m/\mm y m<=31:=by
 unfold mm;split
 .omega
 .have:∀k:Nat,k<=12->0<=Iq.getD k 0/\Iq.getD k 0<=31:=by decide
  exact this m.toNat (by omega)
abbrev Hk (x:Int):Prop:=-9223372036854775808<=x/\x<=9223372036854775807
theorem ab6 (y:Int):∀(k:Nat) (r:Int),1<=k->k<=12->0<=r->r<=400->r<QQ y k->DD (k+1) (λx:Int×Int=>Hk x.2) λn=>jm n r y (13-k):=by
 intro k
 induction k with
 |zero=>intro r h;omega
 |succ k ih=>
  intro r h1 h2 h3 h4 h5;have hr:QQ y (k+1)=mm y (12-k)+QQ y k:=rfl;obtain⟨l,hl,hl2⟩:=DY (N:=0) (y:=y) (m:=13-((k+1:Nat):Int)) (by omega) (by omega);have em:13-((k+1:Nat):Int)=12-k:=by omega
  rw[em] at hl hl2;have hlo:=ab5 (y:=y) (m:=12-k) (by omega) (by omega);rw[<-hl] at hlo hr;rw[em];by_cases hle:l<=r
  .by_cases hk:k=0
   .subst hk;have:QQ y 0=0:=rfl;omega
   have ew:IntKind.i64.wrap (r-l)=r-l:=tA (by omega) (by omega);have ew2:IntKind.i64.wrap (12-(k:Int)+1)=13-k:=by rw[tA (by omega) (by omega)];omega
   obtain⟨x,hxi,hx2⟩:=ih (r-l) (by omega) (by omega) (by omega) (by omega) (by omega);refine⟨x,hxi,λn h hn hw=>?_⟩;obtain⟨n,rfl⟩:∃m,n=m+1:=⟨n-1,by omega⟩;show Wp (jm (n+1) r y (12-k)) h _;rw[u0];unfold pC;rw[ag];refine (hl2 n h (by omega) hw).mono λv h1 hv=>?_;obtain⟨rfl,f1⟩:=hv;rw[By (by simpa using hle),ag];refine (hl2 n h1 (by omega) f1.wf).mono λv h2 hv=>?_;obtain⟨rfl,f2⟩:=hv;rw[ew,ew2];exact (hx2 n h2 (by omega) f2.wf).mono λw h4 hw4=>⟨hw4.1,iA hw f1 (iA f1.wf f2 hw4.2)⟩
  .refine⟨(r,12-k),by constructor<;>simp only<;>omega,λn h hn hw=>?_⟩;obtain⟨n,rfl⟩:∃m,n=m+1:=⟨n-1,by omega⟩;show Wp (jm (n+1) r y (12-k)) h _;rw[u0];unfold pC;rw[ag];refine (hl2 n h (by omega) hw).mono λv h1 hv=>?_;obtain⟨rfl,f1⟩:=hv;rw[AT (by simpa using hle),af];exact⟨rfl,f1⟩
theorem ab7 (d:Int):DD 10020 (λx:Int×Int×Int×Int=>Hk x.1/\Hk x.2.1/\Hk x.2.2.1) λn=>Bt n d:=by
 refine DD.ite (λ_=>DD.pure (by decide)) λh1=>DD.ite (λ_=>DD.pure (by decide)) λh2=>?_;simp only[OF] at h1 h2;have ew:IntKind.i64.wrap (d+719528)=d+719528:=tA (by omega) (by omega);have ew2:IntKind.i64.wrap ((d+719528).tdiv 366)=(d+719528)/366:=by
  grind [Int.tdiv_eq_ediv_of_nonneg,tA]
 unfold wx;rw[ew,ew2];refine (DD.ck (by decide)).bind λ_ _=>((ab4 (d+719528) (by omega) 10009 ((d+719528)/366) (by omega) (by omega) (by rw[vr (by omega) (by omega)];omega) (by omega)).le (by omega)).bind λy hy=>(Hj y).dd.bind λf hf=>?_;have hr:=aiN hy.1 (by omega);have hfl:0<=rk y:=by rw[vr hy.1 (by omega)];omega
 have h400:rk (y+1)-rk y<=400:=by grind [vr]
 subst hf;rw[tA (x:=d+719528-rk y) (by omega) (by omega)];exact ((ab6 y 12 (d+719528-rk y) (by omega) (by omega) (by omega) (by omega) (by omega)).le (by omega)).bind λx hx=>DD.pure ⟨⟨by simp only;omega,by simp only;omega⟩,hx,QN _⟩
end
section
variable {α β:Type}{h h' h0:ab}{L:List bA}{Q:β->ab->Prop}{N M':Nat}
abbrev Mo:=Int×Int×Int×Int×Int×Int×Int×Int×Int×Int×Int
abbrev V4:List eD:=[li,li,li,li,li,li,li,li,li,li,.int .u8]
def mv (x:Mo):δ:=[vi x.1,vi x.2.1,vi x.2.2.1,vi x.2.2.2.1,vi x.2.2.2.2.1,vi x.2.2.2.2.2.1,vi x.2.2.2.2.2.2.1,vi x.2.2.2.2.2.2.2.1,vi x.2.2.2.2.2.2.2.2.1,vi x.2.2.2.2.2.2.2.2.2.1,v8 x.2.2.2.2.2.2.2.2.2.2]
def DM (N:Nat)(x:Mo)(P:α->Prop)(m:Nat->Nat->M α):Prop:=∃r,P r/\∀n h0 h b,N<=n->Z h0 h [.av b (mv x) bN]->Wp (m n b) h λy h'=>y=r/\Z h0 h' [.av b (mv x) bN]
variable {x:Mo}
theorem DM.pure {P:α->Prop}{r:α}(hr:P r):DM N x P λ_ _=>AI r:=⟨r,hr,λn h0 h b _ z=>af.2 ⟨rfl,z⟩⟩
theorem DM.ite {P:α->Prop}{c:Prop}[Decidable c]{f g:Nat->Nat->M α}(ha:c->DM N x P f)(hb:¬c->DM N x P g):DM N x P λn a=>if c then f n a else g n a:=by
 by_cases hc:c
 .simp_all
 simp_all
theorem DM.dd {P:α->Prop}{R:β->Prop}{m:Nat->M α}{f:Nat->Nat->α->M β}(hm:DD N P m)(hf:∀y,P y->DM N x R λn a=>f n a y):DM N x R λn a=>sh (m n) (f n a):=by
 obtain⟨y,hy,h1⟩:=hm;obtain⟨r,hr,h2⟩:=hf y hy;refine⟨r,hr,λn h0 h b hn z=>?_⟩;show Wp (sh (m n) (f n b)) h _;rw[ag];refine (h1 n h hn z.wf).mono λw h3 hw=>?_;obtain⟨rfl,f3⟩:=hw;exact h2 n h0 h3 b hn (z.pure f3)
theorem DM.ddc {P:α->Prop}{R:β->Prop}{m:Nat->M α}{f:Nat->Nat->α->M β}{ads:Nat->List θ}(hm:DD N P m)(ha:∀b,∀a∈ads b,∀c,a=some c->c.block=b)(hf:∀y,P y->DM N x R λn a=>f n a y) :
  DM N x R λn a=>sh (Ago.oo (ads a) (m n)) (f n a):=by
 obtain⟨y,hy,h1⟩:=hm;obtain⟨r,hr,h2⟩:=hf y hy;refine⟨r,hr,λn h0 h b hn z=>?_⟩;show Wp (sh (Ago.oo (ads b) (m n)) (f n b)) h _;rw[ag];have l:LB h b _ _:=z.get 0 rfl;refine zg ((h1 n h hn z.wf).mono λw h3 hw=>?_);obtain⟨rfl,f3⟩:=hw;refine⟨λa hma=>?_,h2 n h0 h3 b hn (z.pure f3)⟩;rw[ha b _ hma a rfl,l.get];exact f3.cells _ _ _ _ _ l.get λx=>x.elim
theorem DM.ld {R:β->Prop}{o:Nat}{l:eD}{g:Nat->Addr}{v:ξ}{w:l.den}{f:Nat->Nat->l.den->M β}(hg:∀b,g b=⟨b,o,none⟩)(hv:(mv x)[o]?=some v)(hw:AX l v=some w)(hf:DM N x R λn a=>f n a w):DM N x R λn a=>sh (ak l (g a)) (f n a):=by
 obtain⟨r,hr,h2⟩:=hf;refine⟨r,hr,λn h0 h b hn z=>?_⟩;show Wp (sh (ak l (g b)) (f n b)) h _;rw[hg b];exact z.ld 0 (h2 n h0 h b hn z) rfl hv hw
theorem DM.fG {R:β->Prop}{f:Nat->Nat->Mo->M β}(hf:DM N x R λn a=>f n a x):DM N x R λn a=>sh (aE V4 (ai a)) (f n a):=by
 obtain⟨r,hr,h2⟩:=hf;refine⟨r,hr,λn h0 h b hn z=>?_⟩;show Wp (sh (aE V4 (ai b)) (f n b)) h _;exact z.fG 0 (ls:=V4) (x:=x) (h2 n h0 h b hn z)
theorem DM.ck {R:β->Prop}{c:Bool}{f:Nat->Nat->Unit->M β}(hc:c=true)(hf:DM N x R λn a=>f n a ()):DM N x R λn a=>sh (ou c) (f n a):=DM.dd (DD.ck hc) λ_ _=>hf
theorem DM.run {P:α->Prop}{m:Nat->Nat->M α}(hm:DM N x P m):DD N P λn=>sh (aJ none bN (mv x)) λb=>m n b:=by
 obtain⟨r,hr,h1⟩:=hm;exact⟨r,hr,λn h hn hw=>(Z.start hw).new λb h1' z1 f1=>(h1 n h h1' b hn z1).mono λy h2 h3=>⟨h3.1,h3.2.fr⟩⟩
theorem DM.le {P:α->Prop}{m:Nat->Nat->M α}(hm:DM N x P m)(hl:N<=M'):DM M' x P m:=let ⟨r,hr,h1⟩:=hm;⟨r,hr,λn h0 h b hn z=>h1 n h0 h b (by omega) z⟩
theorem DD.cat {x y:ζ}(hs:x.size+y.size<=1000000):DD N (λz:ζ=>z.size=x.size+y.size/\z.data.toList=x.data.toList++y.data.toList) λ_=>kY x y:=(PP.cat (by unfold cT;omega)).dd
theorem ab8:∀(l:List UInt8) (c:Nat),(Lib.repeatL l c).length=c*l.length:=λl c=>Lib.repeatL_length l c
theorem BK {a w:Int}(ha:Hk a)(hw:0<=w/\w<=9):DD N (λx:ζ=>x.size<=30/\0<x.size/\CS pX x) λn=>jo n a w:=by
 unfold jo;refine (aeK ha.1 ha.2).dd.bind λx0 h0=>?_;have hc:0<=(if 0<IntKind.i64.wrap (w-(x0.size:Int)) then IntKind.i64.wrap (w-(x0.size:Int)) else 0)/\(if 0<IntKind.i64.wrap (w-(x0.size:Int)) then IntKind.i64.wrap (w-(x0.size:Int)) else 0)<=9:=by
  rw[tA (by omega) (by omega)];split<;>omega
 generalize (if 0<IntKind.i64.wrap (w-(x0.size:Int)) then IntKind.i64.wrap (w-(x0.size:Int)) else 0)=c at hc⊢;refine DD.bind (P:=λx:ζ=>x.size<=9/\CS pX x) ?_ λx1 h1=>(DD.cat (by omega)).bind λx2 h2=>DD.pure ⟨by omega,by omega,h1.2.app h0.2.2 h2.2⟩;unfold strings_Repeat;have h48:(ofBytes [48]).size=1:=rfl;refine (PP.ite (λ_=>PP.pure ⟨?_,abU (λb hb=>?_) _⟩) λhn=>absurd ⟨hc.1,by omega,by omega⟩ hn).dd
 .show (Lib.repeatL [48] c.toNat).toArray.size<=9;rw[ajG,ab8];simp;omega
 .obtain rfl:=List.mem_singleton.1 (show b∈[48] from hb);decide
def BM (x:Mo):Prop:=Hk x.2.1/\Hk x.2.2.1/\Hk x.2.2.2.1/\Hk x.2.2.2.2.1/\Hk x.2.2.2.2.2.1/\Hk x.2.2.2.2.2.2.1/\Hk x.2.2.2.2.2.2.2.2.2.1
theorem agv (l:List UInt8)(c:UInt8):(Lib.trimRightB l c).length<=l.length:=by
 grind [Lib.trimRightB,List.dropWhile_sublist]
abbrev TXs (r:ζ):Prop:=r.size<=300/\TX r
theorem cs1 {b:UInt8}(h:DW b=true):CS DW (ofBytes [b]):=λd hd=>by
 obtain rfl:=List.mem_singleton.1 (show d∈[b] from hd);exact h
theorem Sy (hx:BM x){s:ζ}(hs:s.size<=200)(ht:TX s):DM N x TXs λn a=>gC n (ai a) s:=by
 unfold gC;have h46:(ofBytes [46]).size=1:=rfl;refine DM.ld (o:=9) (λ_=>rfl) rfl rfl (DM.ite (λ_=>DM.ld (o:=9) (λ_=>rfl) rfl rfl (DM.dd (BK hx.2.2.2.2.2.2 (by omega)) λx2 h2=>DM.dd (P:=λy:ζ=>y.size<=30/\CS pX y) ?_ λx3 h3=>DM.dd (DD.cat (by omega)) λx4 h4=>DM.dd (DD.cat (by omega)) λx5 h5=>DM.pure ⟨by omega,ht.app ((cs1 (by decide)).app h3.2.mom h4.2) h5.2⟩)) λ_=>DM.pure ⟨by omega,ht⟩);refine⟨⟨(Lib.trimRightB x2.data.toList 48).toArray⟩,⟨?_,λb hb=>h2.2.2 b (YC b hb)⟩,λn h _ hw=>?_⟩
 .show (Lib.trimRightB x2.data.toList 48).toArray.size<=30;have:=agv x2.data.toList 48;have h5:x2.data.toList.length=x2.size:=rfl;rw[ajG];omega
 .show Wp (gu n x2 (ofBytes [48])) h _;unfold gu;show Wp (if (48:UInt8).toNat<128/\x2.size<=9223372036854775807 then AI (⟨(Lib.trimRightB x2.data.toList 48).toArray⟩:ζ) else AS) h _;rw[By ⟨by decide,by omega⟩];exact af.2 ⟨rfl,Fr.refl hw⟩
theorem FY (hx:BM x){s:ζ}(hs:s.size<=100)(hc:CS DW s)(ht:x.1=1->TX s):DM N x TXs λn a=>dP n (ai a) s:=by
 unfold dP;have h58:(ofBytes [58]).size=1:=rfl;refine DM.ld (o:=0) (λ_=>rfl) rfl rfl (DM.ite (λ_=>DM.ck (by decide) (DM.ck (by decide) (DM.ck (by decide) (DM.ld (o:=4) (λ_=>rfl) rfl rfl (DM.ld (o:=5) (λ_=>rfl) rfl rfl (DM.ld (o:=6) (λ_=>rfl) rfl rfl ?_)))))) λg=>Sy hx (by omega) (ht (by simpa using g)));refine DM.ddc (ads:=λa=>[some (((ai a).plus 1).plus 4),some (((ai a).plus 1).plus 5)]) (BK hx.2.2.2.1 (by omega)) (λb a hm c hc=>by grind [Addr.plus]) λx7 h7=>DM.dd (DD.cat (by omega)) λx8 h8=>?_;have t8:TX x8:=.mk' h7.2.1 h7.2.2 (.inr rfl) h8.2;refine DM.ddc (ads:=λa=>[some (((ai a).plus 1).plus 5)]) (BK hx.2.2.2.2.1 (by omega)) (λb a hm c hc=>by subst hc;simp[Addr.plus] at hm;subst hm;rfl) λx9 h9=>DM.dd (DD.cat (by omega)) λx10 h10=>DM.dd (DD.cat (by omega)) λx11 h11=>?_;have t11:TX x11:=(t8.app h9.2.2.mom h10.2).app (cs1 (by decide)) h11.2;exact DM.dd (BK hx.2.2.2.2.2.1 (by omega)) λx12 h12=>DM.dd (DD.cat (by omega)) λx13 h13=>DM.dd (DD.cat (by omega)) λx14 h14=>Sy hx (by omega) (.pre hc (t11.app h12.2.2.mom h13.2) h14.2)
theorem Sz (hx:BM x):DD N TXs λn=>iZ n x:=by
 unfold iZ;refine DM.run ?_;have h45:(ofBytes [45]).size=1:=rfl;have h84:(ofBytes [84]).size=1:=rfl;have h00:(ofBytes []).size=0:=rfl;refine DM.ld (o:=0) (λ_=>rfl) rfl rfl (DM.ite (λ_=>DM.ck (by decide) (DM.ck (by decide) (DM.ck (by decide) (DM.ld (o:=1) (λ_=>rfl) rfl rfl (DM.ld (o:=2) (λ_=>rfl) rfl rfl (DM.ld (o:=3) (λ_=>rfl) rfl rfl ?_)))))) λg=>?_)
 .refine DM.ddc (ads:=λa=>[some (((ai a).plus 1).plus 1),some (((ai a).plus 1).plus 2)]) (BK hx.1 (by omega)) (λb a hm c hc=>by grind [Addr.plus]) λx8 h8=>DM.dd (DD.cat (by omega)) λx9 h9=>?_;have t9:TX x9:=.mk' h8.2.1 h8.2.2 (.inl rfl) h9.2;refine DM.ddc (ads:=λa=>[some (((ai a).plus 1).plus 2)]) (BK hx.2.1 (by omega)) (λb a hm c hc=>by subst hc;simp[Addr.plus] at hm;subst hm;rfl) λx10 h10=>DM.dd (DD.cat (by omega)) λx11 h11=>DM.dd (DD.cat (by omega)) λx12 h12=>?_;have t12:TX x12:=(t9.app h10.2.2.mom h11.2).app (cs1 (by decide)) h12.2;refine DM.dd (BK hx.2.2.1 (by omega)) λx13 h13=>DM.dd (DD.cat (by omega)) λx14 h14=>?_;have t14:TX x14:=t12.app h13.2.2.mom h14.2;exact DM.ld (o:=0) (λ_=>rfl) rfl rfl (DM.ite (λ_=>DM.dd (DD.cat (by omega)) λx16 h16=>have t:=t14.app (cs1 (by decide)) h16.2;FY hx (by omega) t.1 λ_=>t) λ_=>FY hx (by omega) t14.1 λ_=>t14)
 .have g:x.1=2:=by simpa using g
  have e0:CS DW (ofBytes []):=λb hb=>by cases hb
  exact DM.ld (o:=0) (λ_=>rfl) rfl rfl (DM.ite (λ_=>DM.dd (DD.cat (by omega)) λx16 h16=>FY hx (by omega) (e0.app (cs1 (by decide)) h16.2) λq=>by omega) λ_=>FY hx (by omega) e0 λq=>by omega)
end
section
variable {α β:Type}{h h' h0:ab}{L:List bA}{Q:β->ab->Prop}{N M':Nat}
structure Bk where
 b0:Nat
 b1:Nat
 b2:Nat
 b3:Nat
 b5:Nat
structure Sg where
 x:Mo
 pos:Int
 y:Mo
abbrev N9 (B:Bk):ξ:=Value.func (Fn.func oA) #[] #[Value.pointer (some (ai B.b3)),Value.pointer (some (ai B.b0))]
abbrev SL (s:ζ)(B:Bk)(σ:Sg):List bA:=[.av B.b5 [N9 B] uW,.av B.b3 [vi σ.pos] ar,.av B.b2 (mv σ.x) bN,.av B.b1 (mv σ.y) bN,.av B.b0 [.string s] NH]
def DS (N:Nat)(s:ζ)(σ:Sg)(P:α->Sg->Prop)(m:Nat->Bk->M α):Prop:=∃r σ',P r σ'/\∀n B h0 h,N<=n->Z h0 h (SL s B σ)->Wp (m n B) h λy h'=>y=r/\Z h0 h' (SL s B σ')
variable {s:ζ}{σ:Sg}
theorem DS.pure {P:α->Sg->Prop}{r:α}(hr:P r σ):DS N s σ P λ_ _=>AI r:=⟨r,σ,hr,λn B h0 h _ z=>af.2 ⟨rfl,z⟩⟩
theorem DS.bind {P:α->Sg->Prop}{R:β->Sg->Prop}{m:Nat->Bk->M α}{f:Nat->Bk->α->M β}(hm:DS N s σ P m)(hf:∀x σ',P x σ'->DS N s σ' R λn B=>f n B x):DS N s σ R λn B=>sh (m n B) (f n B):=by
 obtain⟨x,σ1,hx,h1⟩:=hm;obtain⟨y,σ2,hy,h2⟩:=hf x σ1 hx;refine⟨y,σ2,hy,λn B h0 h hn z=>?_⟩;show Wp (sh (m n B) (f n B)) h _;rw[ag];refine (h1 n B h0 h hn z).mono λw h3 hw=>?_;obtain⟨rfl,z3⟩:=hw;exact h2 n B h0 h3 hn z3
theorem DS.ite {P:α->Sg->Prop}{c:Prop}[Decidable c]{a b:Nat->Bk->M α}(ha:c->DS N s σ P a)(hb:¬c->DS N s σ P b):DS N s σ P λn B=>if c then a n B else b n B:=by
 by_cases hc:c
 .simp_all
 simp_all
theorem DS.mono {P P':α->Sg->Prop}{m:Nat->Bk->M α}(hm:DS N s σ P m)(hp:∀x σ',P x σ'->P' x σ'):DS N s σ P' m:=let ⟨x,σ1,hx,h1⟩:=hm;⟨x,σ1,hp _ _ hx,h1⟩
theorem DS.le {P:α->Sg->Prop}{m:Nat->Bk->M α}(hm:DS N s σ P m)(hl:N<=M'):DS M' s σ P m:=let ⟨x,σ1,hx,h1⟩:=hm;⟨x,σ1,hx,λn B h0 h hn z=>h1 n B h0 h (by omega) z⟩
theorem DS.succ {P:α->Sg->Prop}{l m:Nat->Bk->M α}(he:∀n B,l (n+1) B=m n B)(hm:DS N s σ P m):DS (N+1) s σ P l:=by
 obtain⟨x,σ1,hx,h1⟩:=hm;refine⟨x,σ1,hx,λn B h0 h hn z=>?_⟩;obtain⟨n,rfl⟩:∃m,n=m+1:=⟨n-1,by omega⟩;rw[he];exact h1 n B h0 h (by omega) z
theorem DS.Es {R:β->Sg->Prop}{f:Nat->Bk->Int->M β}(hf:DS N s σ R λn B=>f n B σ.pos):DS N s σ R λn B=>sh (ak li (ai B.b3)) (f n B):=by
 obtain⟨r,σ1,hr,h2⟩:=hf;exact⟨r,σ1,hr,λn B h0 h hn z=>z.ld 1 (h2 n B h0 h hn z)⟩
theorem DS.stP {R:β->Sg->Prop}{v:Int}{f:Nat->Bk->Unit->M β}(hf:DS N s { σ with pos:=v } R λn B=>f n B ()):DS N s σ R λn B=>sh (bD (ai B.b3) [vi v]) (f n B):=by
 obtain⟨r,σ1,hr,h2⟩:=hf;exact⟨r,σ1,hr,λn B h0 h hn z=>z.st 1 (cs':=[vi v]) λh' z'=>h2 n B h0 h' hn z'⟩
theorem DS.HN {R:β->Sg->Prop}{f:Nat->Bk->ζ->M β}(hf:DS N s σ R λn B=>f n B s):DS N s σ R λn B=>sh (ak .str (ai B.b0)) (f n B):=by
 obtain⟨r,σ1,hr,h2⟩:=hf;exact⟨r,σ1,hr,λn B h0 h hn z=>z.ld 4 (h2 n B h0 h hn z)⟩
theorem DS.ldF {R:β->Sg->Prop}{f:Nat->Bk->ξ->M β}(hf:DS N s σ R λn B=>f n B (N9 B)):DS N s σ R λn B=>sh (ak .raw (ai B.b5)) (f n B):=by
 obtain⟨r,σ1,hr,h2⟩:=hf;exact⟨r,σ1,hr,λn B h0 h hn z=>z.ld 0 (h2 n B h0 h hn z)⟩
theorem DS.ix {R:β->Sg->Prop}{i:Int}{f:Nat->Bk->UInt8->M β}(h1:0<=i)(h2:i<s.size)(hf:∀c,DS N s σ R λn B=>f n B c):DS N s σ R λn B=>sh (jy s i) (f n B):=by
 have hlt:i.toNat<s.size:=by omega
 obtain⟨r,σ1,hr,h3⟩:=hf s[i.toNat];refine⟨r,σ1,hr,λn B h0 h hn z=>?_⟩;show Wp (sh (jy s i) (f n B)) h _;rw[ag,fA]
 grind
theorem DS.fn {ts:List Ty}{R:β->Sg->Prop}{v:Bk->ξ}{c:Bk->aH ts}{f:Nat->Bk->aH ts->M β}(hx:∀B,wa ts (Jd (v B))=some (c B))(hf:DS N s σ R λn B=>f n B (c B)):DS N s σ R λn B=>sh (nU ts (v B)) (f n B):=by
 grind [Wp,sh,nU,ag,kr]
def QR (x:Mo)(j:Nat)(v:Int):Mo:=
 match j with
 |0=>(v,x.2)
 |1=>(x.1,v,x.2.2)
 |2=>(x.1,x.2.1,v,x.2.2.2)
 |3=>(x.1,x.2.1,x.2.2.1,v,x.2.2.2.2)
 |4=>(x.1,x.2.1,x.2.2.1,x.2.2.2.1,v,x.2.2.2.2.2)
 |5=>(x.1,x.2.1,x.2.2.1,x.2.2.2.1,x.2.2.2.2.1,v,x.2.2.2.2.2.2)
 |6=>(x.1,x.2.1,x.2.2.1,x.2.2.2.1,x.2.2.2.2.1,x.2.2.2.2.2.1,v,x.2.2.2.2.2.2.2)
 |7=>(x.1,x.2.1,x.2.2.1,x.2.2.2.1,x.2.2.2.2.1,x.2.2.2.2.2.1,x.2.2.2.2.2.2.1,v,x.2.2.2.2.2.2.2.2)
 |8=>(x.1,x.2.1,x.2.2.1,x.2.2.2.1,x.2.2.2.2.1,x.2.2.2.2.2.1,x.2.2.2.2.2.2.1,x.2.2.2.2.2.2.2.1,v,x.2.2.2.2.2.2.2.2.2)
 |_=>(x.1,x.2.1,x.2.2.1,x.2.2.2.1,x.2.2.2.2.1,x.2.2.2.2.2.1,x.2.2.2.2.2.2.1,x.2.2.2.2.2.2.2.1,x.2.2.2.2.2.2.2.2.1,v,x.2.2.2.2.2.2.2.2.2.2)
def getM (x:Mo)(j:Nat):Int:=
 match j with
 |0=>x.1|1=>x.2.1|2=>x.2.2.1|3=>x.2.2.2.1|4=>x.2.2.2.2.1|5=>x.2.2.2.2.2.1|6=>x.2.2.2.2.2.2.1|7=>x.2.2.2.2.2.2.2.1|8=>x.2.2.2.2.2.2.2.2.1|_=>x.2.2.2.2.2.2.2.2.2.1
theorem agx {j:Nat}(h:j<=9):j=0\/j=1\/j=2\/j=3\/j=4\/j=5\/j=6\/j=7\/j=8\/j=9:=by omega
theorem YP {x:Mo}{j:Nat}{v:Int}(hj:j<=9):bh (mv x) j [vi v]=mv (QR x j v):=by
 rcases agx hj with rfl|rfl|rfl|rfl|rfl|rfl|rfl|rfl|rfl|rfl<;>rfl
theorem SA {x:Mo}{j:Nat}(hj:j<=9):(mv x)[j]?=some (vi (getM x j)):=by
 rcases agx hj with rfl|rfl|rfl|rfl|rfl|rfl|rfl|rfl|rfl|rfl<;>rfl
theorem CM {x:Mo}{j:Nat}{v:Int}(hj:j<=9)(hx:BM x)(hv:Hk v):BM (QR x j v):=by
 obtain⟨h1,h2,h3,h4,h5,h6,h7⟩:=hx;rcases agx hj with rfl|rfl|rfl|rfl|rfl|rfl|rfl|rfl|rfl|rfl<;>(unfold QR BM;simp only;exact⟨by assumption,by assumption,by assumption,by assumption,by assumption,by assumption,by assumption⟩)
theorem DS.ldX {R:β->Sg->Prop}{j:Nat}{g:Bk->Addr}{f:Nat->Bk->Int->M β}(hg:∀B,g B=⟨B.b2,j,none⟩)(hj:j<=9)(hf:DS N s σ R λn B=>f n B (getM σ.x j)):DS N s σ R λn B=>sh (ak li (g B)) (f n B):=by
 obtain⟨r,σ1,hr,h2⟩:=hf;refine⟨r,σ1,hr,λn B h0 h hn z=>?_⟩;show Wp (sh (ak li (g B)) (f n B)) h _;rw[hg];exact z.ld 2 (h2 n B h0 h hn z) rfl (SA hj) rfl
theorem DS.stX {R:β->Sg->Prop}{j:Nat}{v:Int}{g:Bk->Addr}{f:Nat->Bk->Unit->M β}(hg:∀B,g B=⟨B.b2,j,none⟩)(hj:j<=9)(hf:DS N s { σ with x:=QR σ.x j v } R λn B=>f n B ()):DS N s σ R λn B=>sh (bD (g B) [vi v]) (f n B):=by
 obtain⟨r,σ1,hr,h2⟩:=hf;refine⟨r,σ1,hr,λn B h0 h hn z=>?_⟩;show Wp (sh (bD (g B) [vi v]) (f n B)) h _;rw[hg];exact z.st 2 (λh' z'=>h2 n B h0 h' hn z') rfl (YP hj) (by show j+1<=11;omega)
def ab9 (x:Mo)(v:Int):Mo:=(x.1,x.2.1,x.2.2.1,x.2.2.2.1,x.2.2.2.2.1,x.2.2.2.2.2.1,x.2.2.2.2.2.2.1,x.2.2.2.2.2.2.2.1,x.2.2.2.2.2.2.2.2.1,x.2.2.2.2.2.2.2.2.2.1,v)
theorem DS.ldZ {R:β->Sg->Prop}{f:Nat->Bk->Int->M β}(hf:DS N s σ R λn B=>f n B σ.x.2.2.2.2.2.2.2.2.2.2):DS N s σ R λn B=>sh (ak (.int .u8) ((ai B.b2).plus 10)) (f n B):=by
 obtain⟨r,σ1,hr,h2⟩:=hf;exact⟨r,σ1,hr,λn B h0 h hn z=>z.ld 2 (o:=10) (h2 n B h0 h hn z)⟩
theorem DS.stZ {R:β->Sg->Prop}{v:Int}{f:Nat->Bk->Unit->M β}(hf:DS N s { σ with x:=ab9 σ.x v } R λn B=>f n B ()):DS N s σ R λn B=>sh (bD ((ai B.b2).plus 10) [v8 v]) (f n B):=by
 obtain⟨r,σ1,hr,h2⟩:=hf;exact⟨r,σ1,hr,λn B h0 h hn z=>z.st 2 (o:=10) (cs':=mv (ab9 σ.x v)) (λh' z'=>h2 n B h0 h' hn z') rfl rfl (aae 11)⟩
theorem DS.fG {R:β->Sg->Prop}{f:Nat->Bk->Mo->M β}(hf:DS N s σ R λn B=>f n B σ.x):DS N s σ R λn B=>sh (aE V4 (ai B.b2)) (f n B):=by
 obtain⟨r,σ1,hr,h2⟩:=hf;exact⟨r,σ1,hr,λn B h0 h hn z=>z.fG 2 (ls:=V4) (x:=σ.x) (h2 n B h0 h hn z)⟩
theorem DS.aiR {R:β->Sg->Prop}{f:Nat->Bk->Mo->M β}(hf:DS N s σ R λn B=>f n B σ.y):DS N s σ R λn B=>sh (aE V4 (ai B.b1)) (f n B):=by
 obtain⟨r,σ1,hr,h2⟩:=hf;exact⟨r,σ1,hr,λn B h0 h hn z=>z.fG 3 (ls:=V4) (x:=σ.y) (h2 n B h0 h hn z)⟩
theorem DS.stY {R:β->Sg->Prop}{x:Mo}{f:Nat->Bk->Unit->M β}(hf:DS N s { σ with y:=x } R λn B=>f n B ()):DS N s σ R λn B=>sh (bD (ai B.b1) (mv x)) (f n B):=by
 obtain⟨r,σ1,hr,h2⟩:=hf;exact⟨r,σ1,hr,λn B h0 h hn z=>z.st 3 (cs':=mv x) (λh' z'=>h2 n B h0 h' hn z') rfl rfl (aae _)⟩
theorem DS.alH {R:β->Sg->Prop}{x:Mo}{f:Nat->Bk->Unit->M β}(hf:DS N s { σ with y:=x } R λn B=>f n B ()):DS N s σ R λn B=>sh (Ago.oo [some (ai B.b3),some (ai B.b0)] (bD (ai B.b1) (mv x))) (f n B):=by
 obtain⟨r,σ1,hr,h2⟩:=hf;refine⟨r,σ1,hr,λn B h0 h hn z=>?_⟩;show Wp (sh (Ago.oo [some (ai B.b3),some (ai B.b0)] (bD (ai B.b1) (mv x))) (f n B)) h _;rw[ag];refine zg ?_;have l0:LB h B.b0 _ _:=z.get 4 rfl;have l3:LB h B.b3 _ _:=z.get 1 rfl;have key:Wp (sh (bD (ai B.b1) (mv x)) AI) h λy h'=>Z h0 h' (SL s B { σ with y:=x }):=z.st 3 (cs':=mv x) (λh' z'=>af.2 z') rfl rfl (aae _);rw[ag] at key;refine key.mono λy h' hz=>?_;have z':=af.1 hz;have m0:LB h' B.b0 _ _:=z'.get 4 rfl;have m3:LB h' B.b3 _ _:=z'.get 1 rfl;refine⟨λa hm=>?_,h2 n B h0 h' hn z'⟩;simp only[aio,aai,aiQ,akr] at hm;rcases hm with rfl|rfl
 .show h'.get B.b3=h.get B.b3;rw[l3.get,m3.get]
 .show h'.get B.b0=h.get B.b0;rw[l0.get,m0.get]
def OKr (r:Mo×Bool)(_:Sg):Prop:=BM r.1
structure BZ (s:ζ) (σ:Sg):Prop where
 lo:0<=σ.pos
 hi:σ.pos<=s.size
 ok:BM σ.x
theorem YQ (x:Int):Hk (IntKind.i64.wrap x):=QN x
theorem BZ.fwd (i:BZ s σ)(hs:s.size<=1000000)(h:σ.pos<s.size):BZ s { σ with pos:=IntKind.i64.wrap (σ.pos+1) }:=by
 have:=i.lo;refine⟨?_,?_,i.ok⟩<;>simp only<;>rw[tA (by omega) (by omega)]<;>omega
def alI (s:ζ)(r:Int⊕(Int×Bool))(σ:Sg):Prop:=BZ s σ/\(match r with | .inl v=>Hk v | .inr p=>Hk p.1)
theorem agy (hs:s.size<=1000000):∀(k:Nat) (c v i:Int) (σ:Sg),BZ s σ->0<=i->c-i<=k->c<=100->Hk v->DS (k+1) s σ (alI s) λn B=>gw n (ai B.b3) (ai B.b0) v c i:=by
 intro k
 induction k with
 |zero=>
  intro c v i σ iv hi hk hc hv;refine DS.succ (m:=λn B=>iX (gw n) n (ai B.b3) (ai B.b0) v c i) (λ_ _=>rfl) ?_;unfold iX;exact DS.ite (λh1=>by simp only[OF] at h1;omega) λ_=>DS.pure ⟨iv,hv⟩
 |succ k ih=>
  intro c v i σ iv hi hk hc hv;refine DS.succ (m:=λn B=>iX (gw n) n (ai B.b3) (ai B.b0) v c i) (λ_ _=>rfl) ?_;unfold iX;have z64:Hk 0:=by constructor<;>omega
  refine DS.ite (λh1=>DS.Es (DS.HN (DS.ite (λ_=>DS.pure ⟨iv,z64⟩) λh2=>?_))) λ_=>DS.pure ⟨iv,hv⟩;simp only[OF] at h1 h2;have h3:σ.pos<s.size:=by omega
  refine DS.HN (DS.Es (DS.ix iv.lo h3 λc1=>DS.ite (λ_=>DS.pure ⟨iv,z64⟩) λ_=>DS.HN (DS.Es (DS.ix iv.lo h3 λc2=>DS.ite (λ_=>DS.pure ⟨iv,z64⟩) λ_=>?_))));unfold mA;have e:IntKind.i64.wrap (i+1)=i+1:=tA (by omega) (by omega);refine DS.HN (DS.Es (DS.ix iv.lo h3 λc3=>DS.Es (DS.stP ?_)));rw[e];exact ih _ _ _ _ (iv.fwd hs h3) (by omega) (by omega) hc (YQ _)
theorem agz (hs:s.size<=1000000){c:Int}(h1:0<=c)(h2:c<=9){σ:Sg}(iv:BZ s σ):DS 10 s σ (λ(r:Int×Bool) σ'=>BZ s σ'/\Hk r.1) λn B=>jF n (N9 B) c:=by
 have he:∀n B,jF n (N9 B) c=sh (nU [aG,aG] (N9 B)) λ(x:Addr×Addr)=>lD n c x.1 x.2:=λn B=>by
  unfold jF;rw[By (show pG oA (N9 B)=true from rfl)]
 suffices hh:DS 10 s σ (λ(r:Int×Bool) σ'=>BZ s σ'/\Hk r.1) λn B=>sh (nU [aG,aG] (N9 B)) λ(x:Addr×Addr)=>lD n c x.1 x.2 by
  grind
 refine DS.fn (c:=λB=>(ai B.b3,ai B.b0)) (λB=>rfl) ?_;unfold lD;refine DS.bind ((agy hs 9 c 0 0 σ iv (by omega) (by omega) (by omega) (by constructor<;>omega)).le (by omega)) λr σ1 hr=>?_;cases r with
 |inl v=>exact DS.pure ⟨hr.1,hr.2⟩
 |inr p=>exact DS.pure ⟨hr.1,hr.2⟩
abbrev YR (B:Bk)(lo len cap:Nat):Sl:=⟨some ⟨B.b2,lo,none⟩,len,cap⟩
theorem DS.ixA {R:β->Sg->Prop}{i:Int}{lo len cap:Nat}{f:Nat->Bk->Addr->M β}(h1:0<=i)(h2:i<(len:Int))(hf:DS N s σ R λn B=>f n B ⟨B.b2,lo+i.toNat,none⟩):DS N s σ R λn B=>sh (an (YR B lo len cap) i 1) (f n B):=by
 obtain⟨r,σ1,hr,h3⟩:=hf;refine⟨r,σ1,hr,λn B h0 h hn z=>?_⟩;show Wp (sh (an (YR B lo len cap) i 1) (f n B)) h _;rw[ag,Ad];refine⟨_,rfl,h1,h2,?_⟩;have e:(Addr.plus ⟨B.b2,lo,none⟩ (i.toNat*1))=⟨B.b2,lo+i.toNat,none⟩:=by simp[Addr.plus]
 rw[e];exact h3 n B h0 h hn z
def aiS (s:ζ)(_:Unit⊕Bool)(σ:Sg):Prop:=BZ s σ
theorem agA (hs:s.size<=1000000){lo len cap:Nat}(hl:lo+len<=10)(fst sep:Int)(hf:0<=fst/\fst<=9):∀(k:Nat) (i:Int) (σ:Sg),BZ s σ->0<=i->(len:Int)-i<=k->DS (k+11) s σ (aiS s) λn B=>fD n (YR B lo len cap) fst sep (ai B.b3) (ai B.b0) (ai B.b5) len i:=by
 intro k
 induction k with
 |zero=>
  intro i σ iv hi hk;refine DS.succ (N:=10) (m:=λn B=>iY (fD n) n (YR B lo len cap) fst sep (ai B.b3) (ai B.b0) (ai B.b5) len i) (λ_ _=>rfl) ?_;unfold iY;exact DS.ite (λh1=>by simp only[OF] at h1;omega) λ_=>DS.pure iv
 |succ k ih=>
  intro i σ iv hi hk;have e:IntKind.i64.wrap (i+1)=i+1\/¬(i<len):=by
   by_cases h:i<len
   .exact .inl (tA (by omega) (by omega))
   .exact .inr h
  have tail:∀{σ:Sg} (w:Int),BZ s σ->0<=w/\w<=9->i<(len:Int)->DS (k+11) s σ (aiS s) λn B=>dO (fD n) n (YR B lo len cap) fst sep (ai B.b3) (ai B.b0) (ai B.b5) i w len i:=by
   intro σ w iv hw hlt;unfold dO;refine DS.ldF (DS.bind ((agz hs hw.1 hw.2 iv).le (by omega)) λr σ1 hr=>DS.ite (λ_=>DS.pure hr.1) λ_=>DS.ixA hi hlt (DS.stX (j:=lo+i.toNat) (λ_=>rfl) (by omega) ?_));rw[e.resolve_right λh=>h hlt];exact ih (i+1) _ ⟨hr.1.lo,hr.1.hi,CM (by omega) hr.1.ok hr.2⟩ (by omega) (by omega)
  refine DS.succ (N:=k+11) (m:=λn B=>iY (fD n) n (YR B lo len cap) fst sep (ai B.b3) (ai B.b0) (ai B.b5) len i) (λ_ _=>rfl) ?_;unfold iY;refine DS.ite (λh1=>?_) λ_=>DS.pure iv;simp only[OF] at h1;refine DS.ite (λh2=>DS.Es (DS.HN (DS.ite (λ_=>DS.pure iv) λh3=>?_))) λh2=>?_
  .simp only[OF] at h2 h3;have h4:σ.pos<s.size:=by omega
   refine DS.HN (DS.Es (DS.ix iv.lo h4 λc=>DS.ite (λ_=>DS.pure iv) λ_=>DS.Es (DS.stP ?_)));have iv2:=iv.fwd hs h4;exact DS.ite (λ_=>tail fst iv2 hf h1) λ_=>tail 2 iv2 (by omega) h1
  .exact DS.ite (λ_=>tail fst iv hf h1) λ_=>tail 2 iv (by omega) h1
abbrev yX (B:Bk):ξ:=Value.func (Fn.func dD) #[] #[Value.pointer (some (ai B.b3)),Value.pointer (some (ai B.b0)),Value.pointer (some (ai B.b5))]
theorem agB (hs:s.size<=1000000){lo len cap:Nat}(hl:lo+len<=10)(fst sep:Int)(hf:0<=fst/\fst<=9){σ:Sg}(iv:BZ s σ):DS 30 s σ (λ(_:Bool) σ'=>BZ s σ') λn B=>eK n (YR B lo len cap) fst sep (ai B.b3) (ai B.b0) (ai B.b5):=by
 unfold eK;refine DS.bind ((agA hs hl fst sep hf 10 0 σ iv (by omega) (by omega)).le (by omega)) λr σ1 hr=>?_;cases r with
 |inl v=>exact DS.pure hr
 |inr p=>exact DS.pure hr
theorem LJ (hs:s.size<=1000000){lo len cap:Nat}(hl:lo+len<=10)(fst sep:Int)(hf:0<=fst/\fst<=9){σ:Sg}(iv:BZ s σ){D:Nat->ξ->Sl->Int->Int->M Bool}
  (hd:∀n B a,D n (yX B) a fst sep=sh (nU [aG,aG,aG] (yX B)) λ(c:Addr×Addr×Addr)=>eK n a fst sep c.1 c.2.1 c.2.2) :
  DS 30 s σ (λ(_:Bool) σ'=>BZ s σ') λn B=>D n (yX B) (YR B lo len cap) fst sep:=by
 suffices hh:DS 30 s σ (λ(_:Bool) σ'=>BZ s σ') λn B=>sh (nU [aG,aG,aG] (yX B)) λ(c:Addr×Addr×Addr)=>eK n (YR B lo len cap) fst sep c.1 c.2.1 c.2.2 by
  grind
 exact DS.fn (c:=λB=>(ai B.b3,ai B.b0,ai B.b5)) (λB=>rfl) (agB hs hl fst sep hf iv)
theorem DS.slA {R:β->Sg->Prop}{lo hi:Nat}{f:Nat->Bk->Sl->M β}(h1:lo<=hi)(h2:hi<=8)(hf:DS N s σ R λn B=>f n B (YR B (1+lo) (hi-lo) (8-lo+1))):DS N s σ R λn B=>sh (nr ((ai B.b2).plus 1) 8 lo hi 1) (f n B):=by
 obtain⟨r,σ1,hr,h3⟩:=hf;refine⟨r,σ1,hr,λn B h0 h hn z=>?_⟩;show Wp (sh (nr ((ai B.b2).plus 1) 8 lo hi 1) (f n B)) h _;obtain⟨y,h',e1,e2⟩:=h3 n B h0 h hn z;refine⟨y,h',?_,e2⟩;have e0:nr ((ai B.b2).plus 1) 8 lo hi 1 h=some (YR B (1+lo) (hi-lo) (8-lo+1),h):=by
  unfold nr;rw[By ⟨by omega,by omega,by omega⟩];simp[Addr.plus]
 unfold sh;rw[e0];exact e1
theorem aca (hs:s.size<=1000000)(v:Bk->ξ):∀(k:Nat) (i:Int) (σ:Sg),BZ s σ->0<=i->9-i<=k->DS (k+1) s σ (λ(r:Int) σ'=>BZ s σ'/\0<=r) λn B=>iO n (ai B.b0) (ai B.b1) (ai B.b2) (ai B.b3) (v B) i:=by
 intro k
 induction k with
 |zero=>
  intro i σ iv hi hk;refine DS.succ (m:=λn B=>kE (iO n) n (ai B.b0) (ai B.b1) (ai B.b2) (ai B.b3) (v B) i) (λ_ _=>rfl) ?_;unfold kE;exact DS.ite (λh1=>by simp only[OF] at h1;omega) λ_=>DS.pure ⟨iv,hi⟩
 |succ k ih=>
  intro i σ iv hi hk;refine DS.succ (m:=λn B=>kE (iO n) n (ai B.b0) (ai B.b1) (ai B.b2) (ai B.b3) (v B) i) (λ_ _=>rfl) ?_;unfold kE;refine DS.ite (λh1=>DS.Es (DS.HN (DS.ite (λh2=>?_) λ_=>DS.pure ⟨iv,hi⟩))) λ_=>DS.pure ⟨iv,hi⟩;simp only[OF] at h1 h2;refine DS.HN (DS.Es (DS.ix iv.lo h2 λc1=>DS.ite (λ_=>DS.HN (DS.Es (DS.ix iv.lo h2 λc2=>DS.ite (λ_=>?_) λ_=>DS.pure ⟨iv,hi⟩))) λ_=>DS.pure ⟨iv,hi⟩));unfold n7;have e:IntKind.i64.wrap (i+1)=i+1:=tA (by omega) (by omega);refine DS.ldX (j:=9) (λ_=>rfl) (by omega) (DS.HN (DS.Es (DS.ix iv.lo h2 λc3=>DS.stX (j:=9) (λ_=>rfl) (by omega) (DS.Es (DS.stP ?_)))));rw[e];exact ih _ _ (BZ.fwd (σ:={ σ with x:=QR σ.x 9 _ }) ⟨iv.lo,iv.hi,CM (by omega) iv.ok (YQ _)⟩ hs h2) (by omega) (by omega)
theorem acb (v:Bk->ξ):∀(k:Nat) (i:Int) (σ:Sg),BZ s σ->0<=i->9-i<=k->DS (k+1) s σ (λ(_:Unit) σ'=>BZ s σ') λn B=>j6 n (ai B.b0) (ai B.b1) (ai B.b2) (ai B.b3) (v B) i:=by
 intro k
 induction k with
 |zero=>
  intro i σ iv hi hk;refine DS.succ (m:=λn B=>kD (j6 n) n (ai B.b0) (ai B.b1) (ai B.b2) (ai B.b3) (v B) i) (λ_ _=>rfl) ?_;unfold kD;exact DS.ite (λh1=>by simp only[OF] at h1;omega) λ_=>DS.pure iv
 |succ k ih=>
  intro i σ iv hi hk;refine DS.succ (m:=λn B=>kD (j6 n) n (ai B.b0) (ai B.b1) (ai B.b2) (ai B.b3) (v B) i) (λ_ _=>rfl) ?_;unfold kD;refine DS.ite (λh1=>?_) λ_=>DS.pure iv;simp only[OF] at h1;have e:IntKind.i64.wrap (i+1)=i+1:=tA (by omega) (by omega);refine DS.ldX (j:=9) (λ_=>rfl) (by omega) (DS.stX (j:=9) (λ_=>rfl) (by omega) ?_);rw[e];exact ih _ _ ⟨iv.lo,iv.hi,CM (by omega) iv.ok (YQ _)⟩ (by omega) (by omega)
theorem LK {x:Mo}{v:Int}(hx:BM x):BM (ab9 x v):=hx
theorem Oa {b:Bool}{σ:Sg}(hx:BM σ.x):DS N s σ OKr λn B=>sh (aE V4 (ai B.b2)) λ(x:Mo)=>sh (bD (ai B.b1) (mv x)) λ_=>sh (aE V4 (ai B.b1)) λ(y:Mo)=>AI (y,b):=
 DS.fG (DS.stY (DS.aiR (DS.pure hx)))
theorem Hl {σ:Sg}(hx:BM σ.x):DS N s σ OKr λn B=>sh (aE V4 (ai B.b2)) λ(x:Mo)=>sh (ak li (ai B.b3)) λ(p:Int)=>sh (ak .str (ai B.b0)) λ(t:ζ)=>sh (Ago.oo [some (ai B.b3),some (ai B.b0)] (bD (ai B.b1) (mv x))) λ_=>sh (aE V4 (ai B.b1)) λ(y:Mo)=>AI (y,decide (p=(t.size:Int))):=
 DS.fG (DS.Es (DS.HN (DS.alH (DS.aiR (DS.pure hx)))))
theorem agC (hs:s.size<=1000000)(iv:BZ s σ)(hp:σ.pos<s.size):DS 30 s σ OKr λn B=>pA n (ai B.b0) (ai B.b1) (ai B.b2) (ai B.b3) (yX B):=by
 unfold pA;have iv2:∀c,BZ s { x:=ab9 σ.x c,pos:=IntKind.i64.wrap (σ.pos+1),y:=σ.y }:=λc=>⟨(iv.fwd hs hp).lo,(iv.fwd hs hp).hi,LK iv.ok⟩;refine DS.HN (DS.Es (DS.ix iv.lo hp λc=>DS.stZ (DS.Es (DS.stP (DS.ldZ (DS.ite (λ_=>Hl (LK iv.ok)) λ_=>DS.ldZ (DS.ite (λ_=>DS.ldZ (DS.ite (λ_=>Oa (LK iv.ok)) λ_=>?_)) λ_=>?_)))))))
 .exact DS.slA (lo:=6) (hi:=8) (by omega) (by omega) (DS.bind (LJ hs (by omega) 2 58 (by omega) (iv2 _) (D:=kC) λn B a=>By (show pG dD (yX B)=true from rfl)) λr σ1 iv3=>DS.ite (λ_=>Oa iv3.ok) λ_=>Hl iv3.ok)
 .exact DS.slA (lo:=6) (hi:=8) (by omega) (by omega) (DS.bind (LJ hs (by omega) 2 58 (by omega) (iv2 _) (D:=kC) λn B a=>By (show pG dD (yX B)=true from rfl)) λr σ1 iv3=>DS.ite (λ_=>Oa iv3.ok) λ_=>Hl iv3.ok)
theorem QS (hs:s.size<=1000000)(iv:BZ s σ):DS 30 s σ OKr λn B=>j7 n (ai B.b0) (ai B.b1) (ai B.b2) (ai B.b3) (yX B):=by
 unfold j7;exact DS.Es (DS.HN (DS.ite (λhp=>DS.ldX (j:=0) (λ_=>rfl) (by omega) (DS.ite (λ_=>agC hs iv (by simpa using hp)) λ_=>Hl iv.ok)) λ_=>Hl iv.ok))
theorem agD (hs:s.size<=1000000)(iv:BZ s σ)(hp:σ.pos<s.size):DS 30 s σ OKr λn B=>pB n (ai B.b0) (ai B.b1) (ai B.b2) (ai B.b3) (yX B):=by
 unfold pB;refine DS.Es (DS.stP (DS.bind ((aca hs yX 9 0 _ (iv.fwd hs hp) (by omega) (by omega)).le (by omega)) λr σ1 hr=>DS.ite (λ_=>Oa hr.1.ok) λ_=>DS.bind ((acb yX 9 r σ1 hr.1 hr.2 (by omega)).le (by omega)) λ_ σ2 iv2=>QS hs iv2))
theorem LL (hs:s.size<=1000000)(iv:BZ s σ):DS 30 s σ OKr λn B=>fQ n (ai B.b0) (ai B.b1) (ai B.b2) (ai B.b3) (yX B):=by
 unfold fQ;refine DS.slA (lo:=3) (hi:=6) (by omega) (by omega) (DS.bind (LJ hs (by omega) 2 58 (by omega) iv (D:=rY) λn B a=>By (show pG dD (yX B)=true from rfl)) λr σ1 iv3=>DS.ite (λ_=>Oa iv3.ok) λ_=>DS.ldX (j:=0) (λ_=>rfl) (by omega) (DS.stX (j:=0) (λ_=>rfl) (by omega) ?_));have iv4:BZ s { σ1 with x:=QR σ1.x 0 (IntKind.i64.wrap (getM σ1.x 0+2)) }:=⟨iv3.lo,iv3.hi,CM (by omega) iv3.ok (YQ _)⟩;exact DS.Es (DS.HN (DS.ite (λhp=>DS.HN (DS.Es (DS.ix iv3.lo (by simpa using hp) λc=>DS.ite (λ_=>agD hs iv4 (by simpa using hp)) λ_=>QS hs iv4))) λ_=>QS hs iv4))
theorem agE (hs:s.size<=1000000)(iv:BZ s σ):DS 30 s σ OKr λn B=>mT n (ai B.b0) (ai B.b1) (ai B.b2) (ai B.b3) (yX B):=by
 unfold mT;refine DS.slA (lo:=0) (hi:=3) (by omega) (by omega) (DS.bind (LJ hs (by omega) 4 45 (by omega) iv (D:=rX) λn B a=>By (show pG dD (yX B)=true from rfl)) λr σ1 iv3=>DS.ite (λ_=>Oa iv3.ok) λ_=>DS.stX (j:=0) (λ_=>rfl) (by omega) ?_);have iv4:BZ s { σ1 with x:=QR σ1.x 0 1 }:=⟨iv3.lo,iv3.hi,CM (by omega) iv3.ok (by constructor<;>omega)⟩;refine DS.Es (DS.HN (DS.ite (λ_=>Oa iv4.ok) λhp=>?_));have h5:σ1.pos<s.size:=by have:=iv3.hi;simp only[OF] at hp;omega
 have iv5:=iv4.fwd hs h5;exact DS.HN (DS.Es (DS.ix iv3.lo h5 λc=>DS.ite (λ_=>DS.HN (DS.Es (DS.ix iv3.lo h5 λc=>DS.ite (λ_=>Oa iv4.ok) λ_=>DS.Es (DS.stP (LL hs iv5))))) λ_=>DS.Es (DS.stP (LL hs iv5))))
abbrev mo0:Mo:=(0,0,0,0,0,0,0,0,0,0,0)
theorem Vp (hs:s.size<=1000000):DS 30 s ⟨mo0,0,mo0⟩ OKr λn B=>sh (ak .str (ai B.b0)) λ(x7:ζ)=>
  if decide (2<(↑(ByteArray.size x7):Int)) then
   sh (ak .str (ai B.b0)) λ(x8:ζ)=>
   sh (jy x8 2) λx9=>
   if !decide ((↑x9.toNat:Int)=58) then
    mT n (ai B.b0) (ai B.b1) (ai B.b2) (ai B.b3) (yX B)
   else
    fQ n (ai B.b0) (ai B.b1) (ai B.b2) (ai B.b3) (yX B)
  else
   fQ n (ai B.b0) (ai B.b1) (ai B.b2) (ai B.b3) (yX B):=by
 have iv:BZ s ⟨mo0,0,mo0⟩:=⟨by show (0:Int)<=0;omega,by show (0:Int)<=_;omega,by unfold BM;decide⟩;exact DS.HN (DS.ite (λhp=>DS.HN (DS.ix (by omega) (by simpa using hp) λc=>DS.ite (λ_=>agE hs iv) λ_=>LL hs iv)) λ_=>LL hs iv)
theorem LM (hs:s.size<=1000000):DD 30 (λr:Mo×Bool=>BM r.1) λn=>mB n s:=by
 obtain⟨r,σ1,hr,h1⟩:=Vp (s:=s) hs;refine⟨r,hr,λn h hn hw=>?_⟩;show Wp (mB n s) h _;unfold mB;refine (Z.start hw).new λx0 h1' z1 _=>z1.new (λx1 h2' z2 _=>z2.new (λx2 h3' z3 _=>z3.new λx3 h4' z4 _=>z4.st 0 (cs':=[vi 0]) λh5' z5=>z5.new λx5 h6' z6 _=>z6.st 0 (cs':=[N9 ⟨x0,x1,x2,x3,x5⟩]) λh7' z7=>?_));refine (h1 n ⟨x0,x1,x2,x3,x5⟩ h h7' hn z7).mono λy h8 h9=>⟨h9.1,h9.2.fr⟩
end
section
variable {α β:Type}{h h' h0:ab}{L:List bA}{Q:β->ab->Prop}{N M':Nat}{x:Mo}
theorem DM.succ {P:α->Prop}{l m:Nat->Nat->M α}(he:∀n a,l (n+1) a=m n a)(hm:DM N x P m):DM (N+1) x P l:=by
 obtain⟨r,hr,h1⟩:=hm;refine⟨r,hr,λn h0 h b hn z=>?_⟩;obtain⟨n,rfl⟩:∃m,n=m+1:=⟨n-1,by omega⟩;rw[he];exact h1 n h0 h b (by omega) z
theorem DM.bind {P:α->Prop}{R:β->Prop}{m:Nat->Nat->M α}{f:Nat->Nat->α->M β}(hm:DM N x P m)(hf:∀y,P y->DM N x R λn a=>f n a y):DM N x R λn a=>sh (m n a) (f n a):=by
 obtain⟨y,hy,h1⟩:=hm;obtain⟨r,hr,h2⟩:=hf y hy;refine⟨r,hr,λn h0 h b hn z=>?_⟩;show Wp (sh (m n b) (f n b)) h _;rw[ag];refine (h1 n h0 h b hn z).mono λw h3 hw=>?_;obtain⟨rfl,f3⟩:=hw;exact h2 n h0 h3 b hn f3
theorem DM.arr {R:β->Prop}{e:κ}{c0 cs:δ}{ls:List eD}{w:eI ls}{f:Nat->Nat->eI ls->M β}(h0:c0.all eB=true)(h1:cs.all eB=true)(h2:c0.length=cs.length)(h3:Ao ls cs=some w)(h4:ls.length=cs.length)
  (hf:DM N x R λn a=>f n a w):DM N x R λn a=>sh (aJ none e c0) λb=>sh (bD (ai b) cs) λ_=>sh (aE ls (ai b)) (f n a):=by
 obtain⟨r,hr,h5⟩:=hf;refine⟨r,hr,λn g0 h a hn z=>?_⟩;refine z.new (λb h1' z1 _=>z1.st 0 (cs':=cs) (λh2' z2=>z2.fG 0 (x:=w) (h5 n g0 h2' a hn z2.drop) rfl h3 h4) rfl ?_ ?_ h1) h0
 .show bh c0 0 cs=cs;unfold bh;rw[adj,<-h2];simp
 .rw[h2];omega
theorem DD.arr {R:β->Prop}{e:κ}{c0 cs:δ}{ls:List eD}{w:eI ls}{f:Nat->eI ls->M β}(h0:c0.all eB=true)(h1:cs.all eB=true)(h2:c0.length=cs.length)(h3:Ao ls cs=some w)(h4:ls.length=cs.length)
  (hf:DD N R λn=>f n w):DD N R λn=>sh (aJ none e c0) λb=>sh (bD (ai b) cs) λ_=>sh (aE ls (ai b)) (f n):=by
 obtain⟨r,hr,h5⟩:=hf;refine⟨r,hr,λn h hn hw=>?_⟩;refine (Z.start hw).new (λb h1' z1 _=>z1.st 0 (cs':=cs) (λh2' z2=>z2.fG 0 (x:=w) ?_ rfl h3 h4) rfl ?_ ?_ h1) h0
 .exact (h5 n h2' hn z2.wf).mono λy h' hy=>⟨hy.1,iA hw z2.fr hy.2⟩
 .show bh c0 0 cs=cs;unfold bh;rw[adj,<-h2];simp
 .rw[h2];omega
theorem acd (w:Int×Int×Int×Int×Int):∀(k:Nat) (i:Int),0<=i->5-i<=k->DM (k+1) x (Any:Unit⊕Bool->Prop) λn a=>dU n (ai a) w i:=by
 intro k
 induction k with
 |zero=>
  intro i hi hk;refine DM.succ (m:=λn a=>eL (dU n) n (ai a) w i) (λ_ _=>rfl) ?_;unfold eL;exact DM.ite (λh1=>by simp only[OF] at h1;omega) λ_=>DM.pure trivial
 |succ k ih=>
  intro i hi hk;refine DM.succ (m:=λn a=>eL (dU n) n (ai a) w i) (λ_ _=>rfl) ?_;unfold eL;refine DM.ite (λh1=>?_) λ_=>DM.pure trivial;simp only[OF] at h1;have e1:IntKind.i64.wrap (i+1)=i+1:=tA (by omega) (by omega);have e3:IntKind.i64.wrap (i+3)=i+3:=tA (by omega) (by omega);rw[e1,e3];have hix:∃v:Int,[vi w.1,vi w.2.1,vi w.2.2.1,vi w.2.2.2.1,vi w.2.2.2.2][i.toNat]?=some (vi v):=by
   have:i.toNat=0\/i.toNat=1\/i.toNat=2\/i.toNat=3\/i.toNat=4:=by omega
   rcases this with h|h|h|h|h<;>rw[h]<;>exact⟨_,rfl⟩
  obtain⟨v,hv⟩:=hix;refine DM.dd (P:=λy:Int=>y=v) ⟨v,rfl,λn h _ hw=>RF hi (by omega) hv rfl ⟨rfl,Fr.refl hw⟩⟩ λy _=>DM.ck (by simp;omega) (DM.ld (l:=li) (o:=1+(i+3).toNat) (λb=>?_) (SA (by omega)) rfl (DM.ite (λ_=>DM.pure trivial) λ_=>ih _ (by omega) (by omega)));simp[Addr.plus]
theorem SB:DM 20 x (Any:Bool->Prop) λn a=>fL n (ai a):=by
 unfold fL;refine DM.arr (ls:=[li,li,li,li,li]) (w:=(23,59,59,23,59)) rfl rfl rfl rfl rfl (DM.bind ((acd _ 5 0 (by omega) (by omega)).le (by omega)) λy _=>?_);cases y with
 |inl v=>exact DM.pure trivial
 |inr v=>exact DM.pure trivial
theorem I2:DD 20 (Any:Bool->Prop) λn=>gS n x:=by
 unfold gS;refine DM.run (x:=x) ?_;refine DM.ld (o:=0) (λ_=>rfl) rfl rfl (DM.ite (λ_=>DM.ck (by decide) (DM.ld (o:=1) (λ_=>rfl) rfl rfl (DM.ck (by decide) (DM.ld (o:=2) (λ_=>rfl) rfl rfl (DM.ck (by decide) (DM.ld (o:=3) (λ_=>rfl) rfl rfl (DM.dd (Sx _ _ _) λy _=>DM.ite (λ_=>DM.pure trivial) λ_=>SB))))))) λ_=>SB)
theorem QT:DD 20 (Any:Int->Prop) λn=>jh n x:=by
 unfold jh;refine DM.run (x:=x) ?_;exact DM.ck (by decide) (DM.ld (o:=1) (λ_=>rfl) rfl rfl (DM.ck (by decide) (DM.ld (o:=2) (λ_=>rfl) rfl rfl (DM.ck (by decide) (DM.ld (o:=3) (λ_=>rfl) rfl rfl (DM.dd (Sx _ _ _) λy _=>
  DM.ck (by decide) (DM.ld (o:=4) (λ_=>rfl) rfl rfl (DM.ck (by decide) (DM.ld (o:=5) (λ_=>rfl) rfl rfl (DM.ck (by decide) (DM.ld (o:=6) (λ_=>rfl) rfl rfl (DM.ck (by decide) (DM.ld (o:=7) (λ_=>rfl) rfl rfl (DM.ck (by decide) (DM.ld (o:=8) (λ_=>rfl) rfl rfl
   (DM.ld (l:=.int .u8) (o:=10) (λ_=>rfl) rfl rfl (DM.ite (λ_=>DM.pure trivial) λ_=>DM.pure trivial)))))))))))))))))
theorem aiU (a:Int):Hk (a.tmod 60):=by
 grind
def MZ (s:ζ):Prop:=∃y,TX y/\s.data.toList=y.data.toList++[90]
abbrev InP (r:ζ×Int):Prop:=r.2=0->MZ r.1
abbrev LoP (r:ζ×Int):Prop:=r.2=0->TX r.1
theorem YS {a0 a1 a2:Int}(h0:Hk a0):DD 10020 InP λn=>ie n a0 a1 a2:=by
 unfold ie;have h90:(ofBytes [90]).size=1:=rfl;refine (ab7 a1).bind λy hy=>DD.ite (λ_=>DD.pure λh=>absurd h (by decide)) λ_=>(DD.ck (by decide)).bind λ_ _=>(DD.ck (by decide)).bind λ_ _=>(DD.ck (by decide)).bind λ_ _=>(DD.ck (by decide)).bind λ_ _=>?_;refine DD.arr (ls:=V4) (w:=((3,y.1,y.2.1,y.2.2.1,IntKind.i64.wrap (a2.tdiv 3600),(IntKind.i64.wrap (a2.tdiv 60)).tmod 60,a2.tmod 60,0,0,a0,0):Mo)) rfl rfl rfl rfl rfl ?_;exact (Sz (x:=(3,y.1,y.2.1,y.2.2.1,IntKind.i64.wrap (a2.tdiv 3600),(IntKind.i64.wrap (a2.tdiv 60)).tmod 60,a2.tmod 60,0,0,a0,0)) ⟨hy.1,hy.2.1,hy.2.2,YQ _,aiU _,aiU _,h0⟩).bind λz hz=>(DD.cat (by omega)).bind λw hw=>DD.pure λ_=>⟨z,hz.2,hw.2⟩
theorem agF {a0 a1:Int}:DD 10020 InP λn=>nO n a0 a1:=by
 unfold nO;refine DD.ite (λ_=>DD.pure λh=>absurd h (by decide)) λg1=>DD.ite (λ_=>DD.pure λh=>absurd h (by decide)) λg2=>DD.ite (λ_=>DD.pure λh=>absurd h (by decide)) λ_=>DD.ite (λ_=>DD.pure λh=>absurd h (by decide)) λ_=>?_;simp only[OF] at g1 g2;have h0:Hk a1:=by constructor<;>omega
 unfold n8;exact (DD.ck (by decide)).bind λ_ _=>(DD.ck (by decide)).bind λ_ _=>DD.ite (λ_=>YS h0) λ_=>YS h0
theorem DM.agG {P:α->Prop}{m:Nat->Nat->M α}(hm:DM N x P m):DD N P λn=>sh (aJ none bN (mv mo0)) λb=>sh (bD (ai b) (mv x)) λ_=>m n b:=by
 obtain⟨r,hr,h1⟩:=hm;exact⟨r,hr,λn h hn hw=>(Z.start hw).new λb h1' z1 f1=>z1.st 0 (cs':=mv x) (λh2' z2=>(h1 n h h2' b hn z2).mono λy h2 h3=>⟨h3.1,h3.2.fr⟩) rfl rfl (aae 11)⟩
theorem ace (hx:BM x):DM 10020 x InP λn a=>mD n (ai a):=by
 unfold mD;refine DM.fG (DM.dd (I2.le (by omega)) λy _=>DM.ite (λ_=>DM.pure λh=>absurd h (by decide)) λ_=>DM.fG (DM.ld (l:=li) (o:=9) (λ_=>rfl) rfl rfl (DM.ddc (ads:=λa=>[some ((ai a).plus 9)]) (QT.le (by omega)) (λb a hm c hc=>?_) λz _=>DM.dd agF λw hw=>DM.pure hw)));subst hc;simp[Addr.plus] at hm;subst hm;rfl
theorem QU {s:ζ}(hs:s.size<=1000000):DD 10020 InP λn=>mV n s:=by
 unfold mV;refine ((LM hs).le (by omega)).bind λy hy=>DM.agG (x:=y.1) (DM.ite (λ_=>DM.pure λh=>absurd h (by decide)) λ_=>DM.ld (l:=.int .u8) (o:=10) (λ_=>rfl) rfl rfl (DM.ite (λ_=>DM.pure λh=>absurd h (by decide)) λ_=>ace hy))
theorem YT {s:ζ}(hs:s.size<=1000000):DD 10020 LoP λn=>sS n s:=by
 unfold sS;exact ((LM hs).le (by omega)).bind λy hy=>DM.agG (x:=y.1) (DM.ite (λ_=>DM.pure λh=>absurd h (by decide)) λ_=>DM.ld (l:=.int .u8) (o:=10) (λ_=>rfl) rfl rfl (DM.ite (λ_=>DM.pure λh=>absurd h (by decide)) λ_=>DM.fG (DM.dd (I2.le (by omega)) λz _=>DM.ite (λ_=>DM.pure λh=>absurd h (by decide)) λ_=>DM.fG (DM.dd (Sz hy) λw hw=>DM.pure λ_=>hw.2))))
theorem YU {s:ζ}(hs:s.size<=1000000):DD 10020 (λr:Int=>r≠0->TX s) λn=>pb n s:=by
 unfold pb;refine (YT hs).bind λy hy=>DD.ite (λ_=>DD.pure λh=>absurd rfl h) λg1=>DD.ite (λ_=>DD.pure λh=>absurd rfl h) λg2=>?_;have ht:TX s:=by
  have q1:y.2=0:=by simpa using g1
  have q2:mY y.1 s=true:=by simpa using g2
  exact kM q2▸hy q1
 exact ((LM hs).le (by omega)).bind λz hz=>DM.agG (x:=z.1) (DM.ld (l:=li) (o:=0) (λ_=>rfl) rfl rfl (DM.pure λ_=>ht))
end
section
variable {α β:Type}{h h' h0:ab}{L:List bA}{Q:β->ab->Prop}{N M':Nat}
theorem DD.succ {P:α->Prop}{l m:Nat->M α}(he:∀n,l (n+1)=m n)(hm:DD N P m):DD (N+1) P l:=by
 obtain⟨r,hr,h1⟩:=hm;refine⟨r,hr,λn h hn hw=>?_⟩;obtain⟨n,rfl⟩:∃m,n=m+1:=⟨n-1,by omega⟩;rw[he];exact h1 n h (by omega) hw
def NmP (s:ζ)(i:Int)(r:Unit⊕Bool):Prop:=match r with
 |.inl _=>∀j,i.toNat<=j->∀h:j<s.size,s[j]≠40
 |.inr v=>v=false
theorem NmP.step {s:ζ}{i:Int}(hi:0<=i)(hlt:i.toNat<s.size)(hc:s[i.toNat]≠40){r:Unit⊕Bool}(h:NmP s (i+1) r):NmP s i r:=by
 cases r with
 |inr v=>exact h
 |inl u=>
  intro j hj hs;rcases Nat.lt_or_ge i.toNat j with h1|h1
  .exact h j (by omega) hs
  .obtain rfl:i.toNat=j:=by omega
   exact hc
theorem acf {s:ζ}(hs:s.size<=65536):∀(k:Nat) (i:Int),0<=i->s.size-i<=k->DD (k+1) (NmP s i) λn=>kP n s (s.size:Int) i:=by
 intro k
 induction k with
 |zero=>
  intro i hi hk;refine DD.succ (m:=λn=>mS (kP n) n s (s.size:Int) i) (λ_=>rfl) ?_;unfold mS;exact DD.ite (λh1=>by simp only[OF] at h1;omega) λ_=>DD.pure λj hj hs=>by omega
 |succ k ih=>
  intro i hi hk;refine DD.succ (m:=λn=>mS (kP n) n s (s.size:Int) i) (λ_=>rfl) ?_;unfold mS;refine DD.ite (λh1=>?_) λh1=>DD.pure λj hj hs=>by simp only[OF] at h1;omega
  simp only[OF] at h1;have e:IntKind.i64.wrap (i+1)=i+1:=tA (by omega) (by omega);have hlt:i.toNat<s.size:=by omega
  have ih':=ih (i+1) (by omega) (by omega);rw[<-e] at ih';have ih2:s[i.toNat]≠40->DD (k+1) (NmP s i) λn=>kP n s (s.size:Int) (IntKind.i64.wrap (i+1)):=λhc=>ih'.mono λr hr=>NmP.step hi hlt hc (e▸hr);refine DD.bind (P:=λc=>c=s[i.toNat]) ⟨s[i.toNat],rfl,λn h _ hw=>fA.2 ⟨_,hi,getElem?_pos s i.toNat hlt,rfl,Fr.refl hw⟩⟩ λc hc=>?_;have hC:(c.toNat:Int)≠40->s[i.toNat]≠40:=λh q=>h (by rw[hc,q];rfl);clear ih ih' hc;generalize (c.toNat:Int)=C at hC⊢
  repeat' first|exact ih2 (hC (by grind))|exact DD.pure rfl|refine DD.ite (λ_=>?_) (λ_=>?_)
theorem FZ {s:ζ}(hs:s.size<=65536):DD 65538 (λb:Bool=>b=true->∀d∈s.data.toList,d≠40) λn=>xI n s:=by
 unfold xI;refine ((acf hs s.size 0 (by omega) (by omega)).le (by omega)).bind λy hy=>?_;cases y with
 |inl v=>
  have hall:∀d∈s.data.toList,d≠40:=λd hd=>by
   obtain⟨j,hj,rfl⟩:=List.getElem_of_mem hd;exact hy j (ajv _) hj
  exact DD.ite (λ_=>DD.pure λ_=>hall) λ_=>DD.pure λ_=>hall
 |inr v=>exact DD.pure λh=>by rw[show v=false from hy] at h;cases h
theorem LN {s:ζ}(hs:s.size<=65536):DD 10020 (λb:Bool=>b=true->MZ s) λn=>sh (mV n s) λx0=>if decide (x0.2=0) then AI (mY x0.1 s) else AI false:=
 (QU (by omega)).bind λy hy=>DD.ite (λg=>DD.pure λe=>kM e▸hy (by simpa using g)) λ_=>DD.pure λh=>by cases h
theorem QV {s:ζ}(hs:s.size<=65536):DD 10020 (λb:Bool=>b=true->TX s) λn=>sh (pb n s) λx0=>AI !decide (x0=0):=
 (YU (by omega)).bind λy hy=>DD.pure λe=>hy (by simpa using e)
noncomputable def SC (s:ζ):Bool:=if hs:s.size<=65536 then (FZ hs).choose else false
noncomputable def SD (s:ζ):Bool:=if hs:s.size<=65536 then (LN hs).choose else false
noncomputable def acg (s:ζ):Bool:=if hs:s.size<=65536 then (QV hs).choose else false
theorem YV {s:ζ}(h:SC s=true):∀d∈s.data.toList,d≠40:=by
 unfold SC at h;split at h
 .rename_i hs;exact (FZ hs).choose_spec.1 h
 .cases h
theorem YW {s:ζ}(h:SD s=true):MZ s:=by
 unfold SD at h;split at h
 .rename_i hs;exact (LN hs).choose_spec.1 h
 .cases h
theorem ach {s:ζ}(h:acg s=true):TX s:=by
 unfold acg at h;split at h
 .rename_i hs;exact (QV hs).choose_spec.1 h
 .cases h
noncomputable def A7 (k:Int)(t:ζ):Option Bool:=
 if k=0 then some (mY t (ofBytes []))
 else if k=1 then some (mY t (ofBytes [116,114,117,101])||mY t (ofBytes [102,97,108,115,101]))
 else if k=2 then some (oQ t)
 else if k=5 then some (decide (W6 (ur t (t.size+1) 0)=0))
 else if k=6 then some true
 else if k=3 then some (DT t)
 else if k=4 then some (YO t)
 else if k=7 then some (SD t)
 else if k=8 then some (acg t)
 else some false
noncomputable def jc (x:ah):Option Bool:=
 if x.kind=9 then some (mY x.text (ofBytes [])&&!x.ord&&decide (x.keys.length=0))
 else if x.kind=10 then some (mY x.text (ofBytes [])&&decide (x.keys.length=x.items.length))
 else if x.kind=11 then some (SC x.text&&!x.ord&&decide (x.keys.length=0)&&decide (x.items.length=1))
 else if x.ord=false/\x.keys.length=0/\x.items.length=0 then A7 x.kind x.text else some false
theorem QW (k:Int)(t:ζ):∃r,A7 k t=some r:=by
 unfold A7
 repeat' split
 all_goals exact⟨_,rfl⟩
theorem QX (x:ah):∃r,jc x=some r:=by
 unfold jc
 repeat' split
 all_goals first|exact⟨_,rfl⟩|exact QW _ _
theorem Vq {k:Int}{t:ζ}{n:Nat}(z:Z h0 h L)(hs:t.size<=65536)(hn:65538<=n){r:Bool}(hr:A7 k t=some r):Wp (uv n k t) h λx h'=>x=r/\Z h0 h' L:=by
 unfold uv;unfold A7 at hr;by_cases h0:k=0
 .rw[By h0] at hr;cases hr;rw[By (by simpa using h0),af];exact⟨rfl,z⟩
 rw[AT h0] at hr;rw[AT (by simpa using h0)];by_cases h1:k=1
 .rw[By h1] at hr;cases hr;rw[By (by simpa using h1)];cases he:mY t (ofBytes [116,114,117,101]) with
  |true=>rw[By rfl,af];exact⟨rfl,z⟩
  |false=>rw[AT (by simp),af];exact⟨rfl,z⟩
 rw[AT h1] at hr;rw[AT (by simpa using h1)];by_cases h2:k=2
 .rw[By h2] at hr;cases hr;rw[By (by simpa using h2),ag];refine (xb hs (by omega) z.wf).mono λx h' hx=>?_;rw[af];exact⟨hx.1,z.pure hx.2⟩
 rw[AT h2] at hr;rw[AT (by simpa using h2)];by_cases h5:k=5
 .rw[By h5] at hr;cases hr;subst h5;rw[AT (by decide),AT (by decide),By (by decide)];unfold px;rw[ag,af,af];exact⟨rfl,z⟩
 rw[AT h5] at hr;by_cases h6:k=6
 .rw[By h6] at hr;cases hr;subst h6;rw[AT (by decide),AT (by decide),AT (by decide),By (by decide),af];exact⟨rfl,z⟩
 rw[AT h6] at hr;by_cases h3:k=3
 .rw[By h3] at hr;cases hr;rw[By (by simpa using h3),ag];refine (DV hs (by omega) z.wf).mono λx h' hx=>?_;rw[af];exact⟨hx.1,z.pure hx.2⟩
 rw[AT h3] at hr;rw[AT (by simpa using h3)];by_cases h4:k=4
 .rw[By h4] at hr;cases hr;rw[By (by simpa using h4),ag];refine (E9 hs z.wf).mono λx h' hx=>?_;rw[af];exact⟨hx.1,z.pure hx.2⟩
 rw[AT h4] at hr;rw[AT (by simpa using h4),AT (by simpa using h5),AT (by simpa using h6)];by_cases h7:k=7
 .rw[By h7] at hr;cases hr;rw[By (by simpa using h7)];unfold SD;rw[dif_pos hs];exact ((LN hs).choose_spec.2 n h (by omega) z.wf).mono λx h' hx=>⟨hx.1,z.pure hx.2⟩
 rw[AT h7] at hr;rw[AT (by simpa using h7)];by_cases h8:k=8
 .rw[By h8] at hr;cases hr;rw[By (by simpa using h8)];unfold acg;rw[dif_pos hs];exact ((QV hs).choose_spec.2 n h (by omega) z.wf).mono λx h' hx=>⟨hx.1,z.pure hx.2⟩
 rw[AT h8] at hr;cases hr;rw[AT (by simpa using h8),af];exact⟨rfl,z⟩
theorem aci {x:ah}{ks is:Sl}{n:Nat}(z:Z h0 h L)(ik:IL h0 ks x.keys)(ii:IL h0 is x.items)(hs:x.text.size<=65536)(hn:65538<=n){r:Bool}(hr:jc x=some r) :
  Wp (xQ n (x.kind,x.text,x.ord,ks,is)) h λy h'=>y=r/\Z h0 h' L:=by
 unfold xQ;unfold jc at hr;refine z.new λb h1 z f1=>?_;refine z.ld 0 (o:=0) (l:=li) (x:=x.kind) ?_;by_cases h9:x.kind=9
 .rw[By h9] at hr;cases hr;rw[By (by simpa using h9)];refine z.ld 0 (o:=1) (l:=.str) (x:=x.text) ?_;cases he:mY x.text (ofBytes []) with
  |false=>rw[AT (by simp),af];exact⟨by simp,z.drop⟩
  |true=>
   rw[By rfl];refine z.ld 0 (o:=2) (l:=.bool) (x:=x.ord) ?_;cases ho:x.ord with
   |true=>rw[AT (by simp),af];exact⟨by simp,z.drop⟩
   |false=>
    rw[By (by simp)];refine z.ld 0 (o:=3) (l:=.sl) (x:=ks) ?_;rw[af];exact⟨by simp[ik.len],z.drop⟩
 rw[AT h9] at hr;rw[AT (by simpa using h9)];by_cases h10:x.kind=10
 .rw[By h10] at hr;cases hr;rw[By (by simpa using h10)];refine z.ld 0 (o:=1) (l:=.str) (x:=x.text) ?_;cases he:mY x.text (ofBytes []) with
  |false=>rw[AT (by simp),af];exact⟨by simp,z.drop⟩
  |true=>
   rw[By rfl];refine z.ld 0 (o:=3) (l:=.sl) (x:=ks) ?_;refine z.ld 0 (o:=4) (l:=.sl) (x:=is) ?_;rw[af];refine⟨?_,z.drop⟩;rw[ik.len,ii.len];simp[Int.natCast_inj]
 rw[AT h10] at hr;rw[AT (by simpa using h10)];by_cases h11:x.kind=11
 .rw[By h11] at hr;cases hr;rw[By (by simpa using h11)];refine z.ld 0 (o:=1) (l:=.str) (x:=x.text) ?_;rw[ag];unfold SC;rw[dif_pos hs];refine ((FZ hs).choose_spec.2 n _ hn z.wf).mono λy h' hy=>?_;obtain⟨rfl,f⟩:=hy;have z:=z.pure f;generalize (FZ hs).choose=y;cases y with
  |false=>rw[AT (by simp),af];exact⟨by simp,z.drop⟩
  |true=>
   rw[By rfl];refine z.ld 0 (o:=2) (l:=.bool) (x:=x.ord) ?_;cases ho:x.ord with
   |true=>rw[AT (by simp),af];exact⟨by simp,z.drop⟩
   |false=>
    rw[By (by simp)];refine z.ld 0 (o:=3) (l:=.sl) (x:=ks) ?_;by_cases hk:x.keys.length=0
    .rw[By (by simp[ik.len,hk])];refine z.ld 0 (o:=4) (l:=.sl) (x:=is) ?_;rw[af];refine⟨?_,z.drop⟩;rw[ii.len]
     grind
    .rw[AT (by simp[ik.len];exact λe=>hk (by simp[e])),af];refine⟨by simp[hk],z.drop⟩
 rw[AT h11] at hr;rw[AT (by simpa using h11)];refine z.ld 0 (o:=2) (l:=.bool) (x:=x.ord) ?_;cases ho:x.ord with
 |true=>
  rw[ho,AT (by simp)] at hr;cases hr;rw[AT (by simp),af];exact⟨rfl,z.drop⟩
 |false=>
  rw[ho] at hr;rw[By (by simp)];refine z.ld 0 (o:=3) (l:=.sl) (x:=ks) ?_;by_cases hk:x.keys.length=0
  .rw[By (by simp[ik.len,hk])];refine z.ld 0 (o:=4) (l:=.sl) (x:=is) ?_;by_cases hi:x.items.length=0
   .rw[By (by simp[ii.len,hi])];rw[By ⟨rfl,hk,hi⟩] at hr;refine z.ld 0 (o:=0) (l:=li) (x:=x.kind) ?_;refine z.ld 0 (o:=1) (l:=.str) (x:=x.text) ?_;rw[ag];refine (Vq z hs hn hr).mono λy h' hy=>?_;rw[af];exact⟨hy.1,hy.2.drop⟩
   .rw[AT (by simp[ii.len];exact λe=>hi (by simp[e])),af];rw[AT (λe=>hi e.2.2)] at hr;cases hr;exact⟨rfl,z.drop⟩
  .rw[AT (by simp[ik.len];exact λe=>hk (by simp[e])),af];rw[AT (λe=>hk e.2.1)] at hr;cases hr;exact⟨rfl,z.drop⟩
end
end Go.Sh
