
import Derived.Test.YtdbjhobkhjneeaaGreatDoorPab
set_option linter.all false
namespace Go.Sh
open Go Go.Ago Go.Proofs
section
variable {α β:Type}{h h' h0:aj}{L:List bJ}{Q:β->aj->Prop}{N M':Nat}
def DD (N:Nat)(P:α->Prop)(m:Nat->M α):Prop:=∃x,P x/\∀n h,N<=n->WF h->Wp (m n) h λy h'=>y=x/\Fr (λ_=>False) h h'
theorem PP.dd {P:α->Prop}{m}(hm:PP P m):DD N P m:=by
 obtain⟨x,hx,h1⟩:=hm;exact⟨x,hx,λn h _ hw=>⟨x,h,h1 n h,rfl,Fr.refl hw⟩⟩
def DD.pure {P:α->Prop}{x}(hx:P x):DD N P λ_=>AI x:=(PP.pure hx).dd
theorem DD.bind {P}{R}{m}{f:Nat->α->M β}(hm:DD N P m)(hf:∀x,P x->DD N R λn=>f n x):DD N R λn=>sh (m n) (f n):=by
 obtain⟨x,hx,h1⟩:=hm;obtain⟨y,hy,h2⟩:=hf x hx;refine⟨y,hy,λn h hn hw=>?_⟩;show Wp (sh (m n) (f n)) h _;rw[ag];refine (h1 n h hn hw).mono λz h3 hz=>?_;obtain⟨rfl,f3⟩:=hz;exact (h2 n h3 hn f3.wf).mono λw h4 hw4=>⟨hw4.1,jh hw f3 hw4.2⟩
def DD.ite {P:α->Prop}{c}[Decidable c]{a b}(ha:c->DD N P a)(hb:¬c->DD N P b):DD N P λn=>if c then a n else b n:=by
 by_cases hc:c
 .simp_all
 simp_all
def DD.mono {P P':α->Prop}{m}(hm:DD N P m)(hp:∀x,P x->P' x):DD N P' m:=let ⟨x,hx,h1⟩:=hm;⟨x,hp x hx,h1⟩
theorem DD.le {P:α->Prop}{m}(hm:DD N P m)(hl:N<=M'):DD M' P m:=let ⟨x,hx,h1⟩:=hm;⟨x,hx,λn h hn hw=>h1 n h (by omega) hw⟩
def DD.ck {b}(hb:b=true):DD N (Any:Unit->Prop) λ_=>pI b:=(PP.ck hb).dd
def F9 (y:Int):Bool:=decide (y.tmod 4=0)&&(!decide (y.tmod 100=0)||decide (y.tmod 400=0))
def L8:ε:=[0,31,28,31,30,31,30,31,31,30,31,30,31]
def mV (y m:Int):Int:=if m=2/\F9 y=true then 29 else L8.getD m.toNat 0
def ui (y:Int):Int:=IntKind.i64.wrap (IntKind.i64.wrap (IntKind.i64.wrap (IntKind.i64.wrap (365*y)+IntKind.i64.wrap ((IntKind.i64.wrap (y+3)).tdiv 4))-IntKind.i64.wrap ((IntKind.i64.wrap (y+99)).tdiv 100))+IntKind.i64.wrap ((IntKind.i64.wrap (y+399)).tdiv 400))
theorem ado y:DD N (λb=>b=F9 y) λn=>y7 n y:=by
 unfold y7 F9;refine (DD.ck (by decide)).bind λ_ _=>DD.ite (λh1=>(DD.ck (by decide)).bind λ_ _=>DD.ite (λh2=>DD.pure ?_) λh2=>(DD.ck (by decide)).bind λ_ _=>DD.pure ?_) λh1=>DD.pure ?_
 .grind
 .grind
 grind
theorem Fx {y m}(h1:1<=m)(h2:m<=12):DD N (λr=>r=mV y m) λn=>nu n y m:=by
 refine⟨mV y m,rfl,λn h hn hw=>?_⟩;obtain⟨lb,hlb,hl⟩:=ado (N:=N) y;unfold nu;refine (Z.start hw).new λx0 h1' z1 f1=>?_;refine z1.st 0 (cs':=L8.map vi) λh2' z2=>?_;have tail:∀{h3} (z3:Z h h3 [.au x0 (L8.map vi) H4]),¬(m=2/\F9 y=true)->Wp (sh (pI (decide (0<=m/\m<((13:Nat):Int)))) λ_=>sh (eU li ((ak x0).plus (m.toNat*1))) λ(x4:Int)=>AI x4) h3 λy' h'=>y'=mV y m/\Fr (λ_=>False) h h':=by
  intro h3 z3 hne;rw[ag,Qr];refine⟨by grind,?_⟩;have hlt:m.toNat<L8.length:=by show m.toNat<13;omega
  have e1:(L8.map vi)[m.toNat]?=some (vi (L8.getD m.toNat 0)):=by
   grind
  have e2:((ak x0).plus (m.toNat*1))=⟨x0,m.toNat,none⟩:=by simp[Addr.plus]
  rw[e2];refine z3.ld 0 ?_ rfl e1 rfl;refine af.2 ⟨?_,z3.fr⟩;unfold mV
  grind
 by_cases hm:m=2
 .rw[By (by grind),ag];refine (hl n h2' hn z2.wf).mono λb h3 hb=>?_;obtain⟨rfl,f3⟩:=hb;have z3:=z2.pure f3;cases hlp:F9 y with
  |true=>
   rw[hlb,By hlp,af];exact⟨by unfold mV;grind,z3.fr⟩
  |false=>
   rw[hlb,AT (by grind)];exact tail z3 λx=>by grind
 .rw[AT (by grind)];exact tail z2 λx=>hm x.1
def Iw y:PP (λr=>r=ui y) λn=>uJ n y:=(PP.ck (by decide)).bind λ_ _=>(PP.ck (by decide)).bind λ_ _=>(PP.ck (by decide)).bind λ_ _=>PP.pure rfl
theorem adp (y m:Int)(hm:m<=12):∀(k:Nat) c d ,1<=d->m-d<=k->DD (k+1) (Any:Int->Prop) λn=>jU n y m c d:=by
 intro k
 induction k with
 |zero=>
  intro c d hd hk;refine⟨c,trivial,λn h hn hw=>?_⟩;obtain⟨n,rfl⟩:∃m,n=m+1:=⟨n-1,by omega⟩;show Wp (jU (n+1) y m c d) h _;rw[re];unfold n9;rw[AT (by grind),af];exact⟨rfl,Fr.refl hw⟩
 |succ k ih=>
  intro c d hd hk;by_cases hdm:d<m
  .obtain⟨l,_,hl⟩:=Fx (N:=0) (y:=y) (m:=d) hd (by omega);have ew:IntKind.i64.wrap (d+1)=d+1:=tH (by omega) (by omega);obtain⟨x,_,hx⟩:=ih (IntKind.i64.wrap (c+l)) (d+1) (by omega) (by omega);refine⟨x,trivial,λn h hn hw=>?_⟩;obtain⟨n,rfl⟩:∃m,n=m+1:=⟨n-1,by omega⟩;show Wp (jU (n+1) y m c d) h _;rw[re];unfold n9;rw[By (by grind),ag];refine (hl n h (by omega) hw).mono λr h1 hr=>?_;obtain⟨rfl,f1⟩:=hr;rw[ew];exact (hx n h1 (by omega) f1.wf).mono λw h4 hw4=>⟨hw4.1,jh hw f1 hw4.2⟩
  .refine⟨c,trivial,λn h hn hw=>?_⟩;obtain⟨n,rfl⟩:∃m,n=m+1:=⟨n-1,by omega⟩;show Wp (jU (n+1) y m c d) h _;rw[re];unfold n9;rw[AT (by grind),af];exact⟨rfl,Fr.refl hw⟩
def S7 y m d:DD 20 (Any:Int×Int->Prop) λn=>zi n y m d:=by
 refine DD.ite (λ_=>DD.pure trivial) λ_=>DD.ite (λ_=>DD.pure trivial) λ_=>DD.ite (λ_=>DD.pure trivial) λh1=>DD.ite (λ_=>DD.pure trivial) λh2=>DD.ite (λ_=>DD.pure trivial) λ_=>?_;simp only[abD] at h1 h2;refine (Fx (by omega) (by omega)).bind λx _=>DD.ite (λ_=>DD.pure trivial) λ_=>(Iw y).dd.bind λf _=>((adp y m (by omega) 12 _ 1 (by omega) (by omega)).le (by omega)).bind λr _=>DD.pure trivial
theorem wQ {y}(h1:0<=y)(h2:y<=20000):ui y=365*y+(y+3)/4-(y+99)/100+(y+399)/400:=by
 unfold ui;rw[tH (x:=y+3) (by omega) (by omega),tH (x:=y+99) (by omega) (by omega),tH (x:=y+399) (by omega) (by omega),
  agw (by omega),agw (by omega),agw (by omega)]
 grind [tH]
theorem adq {y}(h1:0<=y):F9 y=true↔(y%4=0/\(y%100≠0\/y%400=0)):=by
 grind [F9,Int.tmod_eq_emod_of_nonneg]
def Rb (y:Int):Nat->Int
 |0=>0
 |k+1=>mV y (12-k)+Rb y k
theorem ali {y}(h1:0<=y)(h2:y<=10020):ui (y+1)-ui y=Rb y 12:=by
 rw[wQ (by omega) (by omega),wQ (by omega) (by omega)];have hl:=adq h1;have Mu:∀m:Int,m≠2->mV y m=L8.getD m.toNat 0:=λm hm=>by unfold mV;grind
 have e:Rb y 12=337+mV y 2:=by
  show mV y 1+(mV y 2+(mV y 3+(mV y 4+(mV y 5+(mV y 6+(mV y 7+(mV y 8+(mV y 9+(mV y 10+(mV y 11+(mV y 12+0)))))))))))=_;have l1:mV y 1=31:=(Mu 1 (by decide)).trans rfl;have l3:mV y 3=31:=(Mu 3 (by decide)).trans rfl;have l4:mV y 4=30:=(Mu 4 (by decide)).trans rfl;have l5:mV y 5=31:=(Mu 5 (by decide)).trans rfl;have l6:mV y 6=30:=(Mu 6 (by decide)).trans rfl;have l7:mV y 7=31:=(Mu 7 (by decide)).trans rfl;have l8:mV y 8=31:=(Mu 8 (by decide)).trans rfl;have l9:mV y 9=30:=(Mu 9 (by decide)).trans rfl;have l10:mV y 10=31:=(Mu 10 (by decide)).trans rfl;have l11:mV y 11=30:=(Mu 11 (by decide)).trans rfl;have l12:mV y 12=31:=(Mu 12 (by decide)).trans rfl;omega
 rw[e];by_cases hlp:F9 y=true
 .have:=hl.1 hlp;have e2:mV y 2=29:=by unfold mV;grind
  grind
 .have hn:¬(y%4=0/\(y%100≠0\/y%400=0)):=λx=>hlp (hl.2 x);have e2:mV y 2=28:=by unfold mV;rw[AT (λx=>hlp x.2)];rfl
  grind
theorem adt d (hd:d<=3652424):∀(k:Nat) y ,0<=y->y<=10009->ui y<=d->10009-y<=k->DD (k+1) (λr:Int=>0<=r/\r<=10009/\ui r<=d/\d<ui (r+1)) λn=>lR n d y:=by
 intro k
 induction k with
 |zero=>
  intro y h1 h0 h2 h3;exfalso
  grind [wQ]
 |succ k ih=>
  intro y h1 h0 h2 h3;have hy:y<10009:=by grind [wQ]
  have ew:IntKind.i64.wrap (y+1)=y+1:=tH (by omega) (by omega);obtain⟨f,hf,hf2⟩:=(Iw (y+1)).dd (N:=0);subst hf;by_cases hle:ui (y+1)<=d
  .obtain⟨x,hx,hx2⟩:=ih (y+1) (by omega) (by omega) hle (by omega);refine⟨x,hx,λn h hn hw=>?_⟩;obtain⟨n,rfl⟩:∃m,n=m+1:=⟨n-1,by omega⟩;show Wp (lR (n+1) d y) h _;rw[wE];unfold qO;rw[ew,ag];refine (hf2 n h (by omega) hw).mono λr h1 hr=>?_;obtain⟨rfl,f1⟩:=hr;rw[By (by grind)];exact (hx2 n h1 (by omega) f1.wf).mono λw h4 hw4=>⟨hw4.1,jh hw f1 hw4.2⟩
  .refine⟨y,⟨h1,by omega,h2,by omega⟩,λn h hn hw=>?_⟩;obtain⟨n,rfl⟩:∃m,n=m+1:=⟨n-1,by omega⟩;show Wp (lR (n+1) d y) h _;rw[wE];unfold qO;rw[ew,ag];refine (hf2 n h (by omega) hw).mono λr h1 hr=>?_;obtain⟨rfl,f1⟩:=hr;rw[AT (by grind),af]
   grind
theorem adu {y m}(h1:1<=m)(h2:m<=12):0<=mV y m/\mV y m<=31:=by
 unfold mV;split
 .omega
 .have:∀k:Nat,k<=12->0<=L8.getD k 0/\L8.getD k 0<=31:=by decide
  grind
abbrev Ix (x:Int):Prop:=-9223372036854775808<=x/\x<=9223372036854775807
theorem adv y:∀k r ,1<=k->k<=12->0<=r->r<=400->r<Rb y k->DD (k+1) (λx:Int×Int=>Ix x.2) λn=>lQ n r y (13-k):=by
 intro k
 induction k with
 |zero=>grind
 |succ k ih=>
  intro r h1 h2 h3 h4 h5;have hr:Rb y (k+1)=mV y (12-k)+Rb y k:=rfl;obtain⟨l,hl,hl2⟩:=Fx (N:=0) (y:=y) (m:=13-((k+1:Nat):Int)) (by omega) (by omega);have em:13-((k+1:Nat):Int)=12-k:=by omega
  rw[em] at hl hl2;have hlo:=adu (y:=y) (m:=12-k) (by omega) (by omega);rw[<-hl] at hlo hr;rw[em];by_cases hle:l<=r
  .by_cases hk:k=0
   .subst hk;have:Rb y 0=0:=rfl;omega
   have ew:IntKind.i64.wrap (r-l)=r-l:=tH (by omega) (by omega);have ew2:IntKind.i64.wrap (12-(k:Int)+1)=13-k:=by grind [tH]
   obtain⟨x,hxi,hx2⟩:=ih (r-l) (by omega) (by omega) (by omega) (by omega) (by omega);refine⟨x,hxi,λn h hn hw=>?_⟩;obtain⟨n,rfl⟩:∃m,n=m+1:=⟨n-1,by omega⟩;show Wp (lQ (n+1) r y (12-k)) h _;rw[wD];unfold qN;rw[ag];refine (hl2 n h (by omega) hw).mono λv h1 hv=>?_;obtain⟨rfl,f1⟩:=hv;rw[By (by grind),ag];refine (hl2 n h1 (by omega) f1.wf).mono λv h2 hv=>?_;obtain⟨rfl,f2⟩:=hv;rw[ew,ew2];exact (hx2 n h2 (by omega) f2.wf).mono λw h4 hw4=>⟨hw4.1,jh hw f1 (jh f1.wf f2 hw4.2)⟩
  .refine⟨(r,12-k),by grind,λn h hn hw=>?_⟩;obtain⟨n,rfl⟩:∃m,n=m+1:=⟨n-1,by omega⟩;show Wp (lQ (n+1) r y (12-k)) h _;rw[wD];unfold qN;rw[ag];refine (hl2 n h (by omega) hw).mono λv h1 hv=>?_;obtain⟨rfl,f1⟩:=hv;rw[AT (by grind),af]
   grind
theorem adw d:DD 10020 (λx:Int×Int×Int×Int=>Ix x.1/\Ix x.2.1/\Ix x.2.2.1) λn=>Dc n d:=by
 refine DD.ite (λ_=>DD.pure (by decide)) λh1=>DD.ite (λ_=>DD.pure (by decide)) λh2=>?_;simp only[abD] at h1 h2;have ew:IntKind.i64.wrap (d+719528)=d+719528:=tH (by omega) (by omega);have ew2:IntKind.i64.wrap ((d+719528).tdiv 366)=(d+719528)/366:=by
  grind [Int.tdiv_eq_ediv_of_nonneg,tH]
 unfold xM;rw[ew,ew2];refine (DD.ck (by decide)).bind λ_ _=>((adt (d+719528) (by omega) 10009 ((d+719528)/366) (by omega) (by omega) (by grind [wQ]) (by omega)).le (by omega)).bind λy hy=>(Iw y).dd.bind λf hf=>?_;have hr:=ali hy.1 (by omega);have hfl:0<=ui y:=by grind [wQ]
 have h400:ui (y+1)-ui y<=400:=by grind [wQ]
 subst hf;rw[tH (by omega) (by omega)];exact ((adv y 12 (d+719528-ui y) (by omega) (by omega) (by omega) (by omega) (by omega)).le (by omega)).bind λx hx=>DD.pure ⟨⟨by grind,by grind⟩,hx,Q6 _⟩
end
section
variable {α β:Type}{h h' h0:aj}{L:List bJ}{Q:β->aj->Prop}{N M':Nat}
abbrev Mo:=Int×Int×Int×Int×Int×Int×Int×Int×Int×Int×Int
abbrev moL:List uR:=[li,li,li,li,li,li,li,li,li,li,.int .u8]
def mv (x:Mo):δ:=[vi x.1,vi x.2.1,vi x.2.2.1,vi x.2.2.2.1,vi x.2.2.2.2.1,vi x.2.2.2.2.2.1,vi x.2.2.2.2.2.2.1,vi x.2.2.2.2.2.2.2.1,vi x.2.2.2.2.2.2.2.2.1,vi x.2.2.2.2.2.2.2.2.2.1,v8 x.2.2.2.2.2.2.2.2.2.2]
def DM (N:Nat)(x:Mo)(P:α->Prop)(m:Nat->Nat->M α):Prop:=∃r,P r/\∀n h0 h b,N<=n->Z h0 h [.au b (mv x) bN]->Wp (m n b) h λy h'=>y=r/\Z h0 h' [.au b (mv x) bN]
variable {x:Mo}
theorem DM.pure {P:α->Prop}{r:α}(hr:P r):DM N x P λ_ _=>AI r:=⟨r,hr,λn h0 h b _ z=>af.2 ⟨rfl,z⟩⟩
def DM.ite {P:α->Prop}{c:Prop}[Decidable c]{f g:Nat->Nat->M α}(ha:c->DM N x P f)(hb:¬c->DM N x P g):DM N x P λn a=>if c then f n a else g n a:=by
 by_cases hc:c
 .simp_all
 simp_all
theorem DM.dd {P:α->Prop}{R:β->Prop}{m:Nat->M α}{f:Nat->Nat->α->M β}(hm:DD N P m)(hf:∀y,P y->DM N x R λn a=>f n a y):DM N x R λn a=>sh (m n) (f n a):=by
 obtain⟨y,hy,h1⟩:=hm;obtain⟨r,hr,h2⟩:=hf y hy;refine⟨r,hr,λn h0 h b hn z=>?_⟩;show Wp (sh (m n) (f n b)) h _;rw[ag];refine (h1 n h hn z.wf).mono λw h3 hw=>?_;obtain⟨rfl,f3⟩:=hw;exact h2 n h0 h3 b hn (z.pure f3)
theorem DM.ddc {P:α->Prop}{R:β->Prop}{m:Nat->M α}{f:Nat->Nat->α->M β}{ads:Nat->List θ}(hm:DD N P m)(ha:∀b,∀a∈ads b,∀c,a=some c->c.block=b)(hf:∀y,P y->DM N x R λn a=>f n a y) :
  DM N x R λn a=>sh (Ago.uC (ads a) (m n)) (f n a):=by
 obtain⟨y,hy,h1⟩:=hm;obtain⟨r,hr,h2⟩:=hf y hy;refine⟨r,hr,λn h0 h b hn z=>?_⟩;show Wp (sh (Ago.uC (ads b) (m n)) (f n b)) h _;rw[ag];have l:LB h b _ _:=z.get 0 rfl;refine CN ((h1 n h hn z.wf).mono λw h3 hw=>?_);obtain⟨rfl,f3⟩:=hw;refine⟨λa hma=>?_,h2 n h0 h3 b hn (z.pure f3)⟩;rw[ha b _ hma a rfl,l.get];exact f3.cells _ _ _ _ _ l.get λx=>x.elim
theorem DM.ld {R:β->Prop}{o:Nat}{l:uR}{g:Nat->Addr}{v:ο}{w:l.den}{f:Nat->Nat->l.den->M β}(hg:∀b,g b=⟨b,o,none⟩)(hv:(mv x)[o]?=some v)(hw:Cv l v=some w)(hf:DM N x R λn a=>f n a w):DM N x R λn a=>sh (eU l (g a)) (f n a):=by
 obtain⟨r,hr,h2⟩:=hf;refine⟨r,hr,λn h0 h b hn z=>?_⟩;show Wp (sh (eU l (g b)) (f n b)) h _;rw[hg b];exact z.ld 0 (h2 n h0 h b hn z) rfl hv hw
theorem DM.fH {R:β->Prop}{f:Nat->Nat->Mo->M β}(hf:DM N x R λn a=>f n a x):DM N x R λn a=>sh (bK moL (ak a)) (f n a):=by
 obtain⟨r,hr,h2⟩:=hf;refine⟨r,hr,λn h0 h b hn z=>?_⟩;show Wp (sh (bK moL (ak b)) (f n b)) h _;exact z.fH 0 (ls:=moL) (x:=x) (h2 n h0 h b hn z)
def DM.ck {R:β->Prop}{c:Bool}{f:Nat->Nat->Unit->M β}(hc:c=true)(hf:DM N x R λn a=>f n a ()):DM N x R λn a=>sh (pI c) (f n a):=DM.dd (DD.ck hc) λ_ _=>hf
theorem DM.run {P:α->Prop}{m:Nat->Nat->M α}(hm:DM N x P m):DD N P λn=>sh (iB none bN (mv x)) λb=>m n b:=by
 obtain⟨r,hr,h1⟩:=hm;exact⟨r,hr,λn h hn hw=>(Z.start hw).new λb h1' z1 f1=>(h1 n h h1' b hn z1).mono λy h2 h3=>⟨h3.1,h3.2.fr⟩⟩
theorem DM.le {P:α->Prop}{m:Nat->Nat->M α}(hm:DM N x P m)(hl:N<=M'):DM M' x P m:=let ⟨r,hr,h1⟩:=hm;⟨r,hr,λn h0 h b hn z=>h1 n h0 h b (by omega) z⟩
def DD.cat {x y:ζ}(hs:x.size+y.size<=1000000):DD N (λz:ζ=>z.size=x.size+y.size/\z.data.toList=x.data.toList++y.data.toList) λ_=>kK x y:=(PP.cat (by unfold cP;omega)).dd
def adx:∀(l:List UInt8) (c:Nat),(Lib.repeatL l c).length=c*l.length:=λl c=>Lib.repeatL_length l c
theorem Du {a w:Int}(ha:Ix a)(hw:0<=w/\w<=9):DD N (λx:ζ=>x.size<=30/\0<x.size/\CS ru x) λn=>jT n a w:=by
 unfold jT;refine (ZU ha.1 ha.2).dd.bind λx0 h0=>?_;have hc:0<=(if 0<IntKind.i64.wrap (w-(x0.size:Int)) then IntKind.i64.wrap (w-(x0.size:Int)) else 0)/\(if 0<IntKind.i64.wrap (w-(x0.size:Int)) then IntKind.i64.wrap (w-(x0.size:Int)) else 0)<=9:=by
  rw[tH (by omega) (by omega)];split<;>omega
 generalize (if 0<IntKind.i64.wrap (w-(x0.size:Int)) then IntKind.i64.wrap (w-(x0.size:Int)) else 0)=c at hc⊢;refine DD.bind (P:=λx:ζ=>x.size<=9/\CS ru x) ?_ λx1 h1=>(DD.cat (by omega)).bind λx2 h2=>DD.pure ⟨by omega,by omega,h1.2.app h0.2.2 h2.2⟩;unfold strings_Repeat;have h48:(ofBytes [48]).size=1:=rfl;refine (PP.ite (λ_=>PP.pure ⟨?_,adj (λb hb=>?_) _⟩) λhn=>absurd ⟨hc.1,by omega,by omega⟩ hn).dd
 .show (Lib.repeatL [48] c.toNat).toArray.size<=9;rw[anh,adx];simp;omega
 .obtain rfl:=List.mem_singleton.1 (show b∈[48] from hb);decide
def Dv (x:Mo):Prop:=Ix x.2.1/\Ix x.2.2.1/\Ix x.2.2.2.1/\Ix x.2.2.2.2.1/\Ix x.2.2.2.2.2.1/\Ix x.2.2.2.2.2.2.1/\Ix x.2.2.2.2.2.2.2.2.2.1
theorem aja (l:List UInt8)(c:UInt8):(Lib.trimRightB l c).length<=l.length:=by
 grind [Lib.trimRightB,List.dropWhile_sublist]
abbrev TXs (r:ζ):Prop:=r.size<=300/\TX r
def cs1 {b:UInt8}(h:Fv b=true):CS Fv (ofBytes [b]):=λd hd=>by
 obtain rfl:=List.mem_singleton.1 (show d∈[b] from hd);exact h
theorem S8 (hx:Dv x){s:ζ}(hs:s.size<=200)(ht:TX s):DM N x TXs λn a=>ij n (ak a) s:=by
 unfold ij;have h46:(ofBytes [46]).size=1:=rfl;refine DM.ld (o:=9) (λ_=>rfl) rfl rfl (DM.ite (λ_=>DM.ld (o:=9) (λ_=>rfl) rfl rfl (DM.dd (Du hx.2.2.2.2.2.2 (by omega)) λx2 h2=>DM.dd (P:=λy:ζ=>y.size<=30/\CS ru y) ?_ λx3 h3=>DM.dd (DD.cat (by omega)) λx4 h4=>DM.dd (DD.cat (by omega)) λx5 h5=>DM.pure ⟨by omega,ht.app ((cs1 (by decide)).app h3.2.mom h4.2) h5.2⟩)) λ_=>DM.pure ⟨by omega,ht⟩);refine⟨⟨(Lib.trimRightB x2.data.toList 48).toArray⟩,⟨?_,λb hb=>h2.2.2 b (ZK b hb)⟩,λn h _ hw=>?_⟩
 .show (Lib.trimRightB x2.data.toList 48).toArray.size<=30;have:=aja x2.data.toList 48;have h5:x2.data.toList.length=x2.size:=rfl;rw[anh];omega
 .show Wp (gZ n x2 (ofBytes [48])) h _;unfold gZ;show Wp (if (48:UInt8).toNat<128/\x2.size<=9223372036854775807 then AI (⟨(Lib.trimRightB x2.data.toList 48).toArray⟩:ζ) else AS) h _;rw[By ⟨by decide,by omega⟩];exact af.2 ⟨rfl,Fr.refl hw⟩
theorem GY (hx:Dv x){s:ζ}(hs:s.size<=100)(hc:CS Fv s)(ht:x.1=1->TX s):DM N x TXs λn a=>eg n (ak a) s:=by
 unfold eg;have h58:(ofBytes [58]).size=1:=rfl;refine DM.ld (o:=0) (λ_=>rfl) rfl rfl (DM.ite (λ_=>DM.ck (by decide) (DM.ck (by decide) (DM.ck (by decide) (DM.ld (o:=4) (λ_=>rfl) rfl rfl (DM.ld (o:=5) (λ_=>rfl) rfl rfl (DM.ld (o:=6) (λ_=>rfl) rfl rfl ?_)))))) λg=>S8 hx (by omega) (ht (by simpa using g)));refine DM.ddc (ads:=λa=>[some (((ak a).plus 1).plus 4),some (((ak a).plus 1).plus 5)]) (Du hx.2.2.2.1 (by omega)) (λb a hm c hc=>by grind [Addr.plus]) λx7 h7=>DM.dd (DD.cat (by omega)) λx8 h8=>?_;have t8:TX x8:=.mk' h7.2.1 h7.2.2 (.inr rfl) h8.2;refine DM.ddc (ads:=λa=>[some (((ak a).plus 1).plus 5)]) (Du hx.2.2.2.2.1 (by omega)) (λb a hm c hc=>by subst hc;simp[Addr.plus] at hm;subst hm;rfl) λx9 h9=>DM.dd (DD.cat (by omega)) λx10 h10=>DM.dd (DD.cat (by omega)) λx11 h11=>?_;have t11:TX x11:=(t8.app h9.2.2.mom h10.2).app (cs1 (by decide)) h11.2;exact DM.dd (Du hx.2.2.2.2.2.1 (by omega)) λx12 h12=>DM.dd (DD.cat (by omega)) λx13 h13=>DM.dd (DD.cat (by omega)) λkH h14=>S8 hx (by omega) (.pre hc (t11.app h12.2.2.mom h13.2) h14.2)
theorem S9 (hx:Dv x):DD N TXs λn=>jJ n x:=by
 unfold jJ;refine DM.run ?_;have h45:(ofBytes [45]).size=1:=rfl;have h84:(ofBytes [84]).size=1:=rfl;have h00:(ofBytes []).size=0:=rfl;refine DM.ld (o:=0) (λ_=>rfl) rfl rfl (DM.ite (λ_=>DM.ck (by decide) (DM.ck (by decide) (DM.ck (by decide) (DM.ld (o:=1) (λ_=>rfl) rfl rfl (DM.ld (o:=2) (λ_=>rfl) rfl rfl (DM.ld (o:=3) (λ_=>rfl) rfl rfl ?_)))))) λg=>?_)
 .refine DM.ddc (ads:=λa=>[some (((ak a).plus 1).plus 1),some (((ak a).plus 1).plus 2)]) (Du hx.1 (by omega)) (λb a hm c hc=>by grind [Addr.plus]) λx8 h8=>DM.dd (DD.cat (by omega)) λx9 h9=>?_;have t9:TX x9:=.mk' h8.2.1 h8.2.2 (.inl rfl) h9.2;refine DM.ddc (ads:=λa=>[some (((ak a).plus 1).plus 2)]) (Du hx.2.1 (by omega)) (λb a hm c hc=>by subst hc;simp[Addr.plus] at hm;subst hm;rfl) λx10 h10=>DM.dd (DD.cat (by omega)) λx11 h11=>DM.dd (DD.cat (by omega)) λx12 h12=>?_;have t12:TX x12:=(t9.app h10.2.2.mom h11.2).app (cs1 (by decide)) h12.2;refine DM.dd (Du hx.2.2.1 (by omega)) λx13 h13=>DM.dd (DD.cat (by omega)) λkH h14=>?_;have t14:TX kH:=t12.app h13.2.2.mom h14.2;exact DM.ld (o:=0) (λ_=>rfl) rfl rfl (DM.ite (λ_=>DM.dd (DD.cat (by omega)) λrJ h16=>have t:=t14.app (cs1 (by decide)) h16.2;GY hx (by omega) t.1 λ_=>t) λ_=>GY hx (by omega) t14.1 λ_=>t14)
 .have g:x.1=2:=by simpa using g
  have e0:CS Fv (ofBytes []):=λb hb=>by cases hb
  exact DM.ld (o:=0) (λ_=>rfl) rfl rfl (DM.ite (λ_=>DM.dd (DD.cat (by omega)) λrJ h16=>GY hx (by omega) (e0.app (cs1 (by decide)) h16.2) λq=>by omega) λ_=>GY hx (by omega) e0 λq=>by omega)
end
section
variable {α β:Type}{h h' h0:aj}{L:List bJ}{Q:β->aj->Prop}{N M':Nat}
structure Bk where
 b0:Nat
 b1:Nat
 b2:Nat
 b3:Nat
 b5:Nat
structure Sg where
 x:Mo
 pos:Int
 y:Mo
abbrev OR (B:Bk):ο:=Value.func (Fn.func pO) #[] #[Value.pointer (some (ak B.b3)),Value.pointer (some (ak B.b0))]
abbrev SL (s:ζ)(B:Bk)(σ:Sg):List bJ:=[.au B.b5 [OR B] wo,.au B.b3 [vi σ.pos] av,.au B.b2 (mv σ.x) bN,.au B.b1 (mv σ.y) bN,.au B.b0 [.string s] ep]
def DS (N:Nat)(s:ζ)(σ:Sg)(P:α->Sg->Prop)(m:Nat->Bk->M α):Prop:=∃r σ',P r σ'/\∀n B h0 h,N<=n->Z h0 h (SL s B σ)->Wp (m n B) h λy h'=>y=r/\Z h0 h' (SL s B σ')
variable {s:ζ}{σ:Sg}
theorem DS.pure {P:α->Sg->Prop}{r}(hr:P r σ):DS N s σ P λ_ _=>AI r:=⟨r,σ,hr,λn B h0 h _ z=>af.2 ⟨rfl,z⟩⟩
theorem DS.bind {P}{R}{m}{f:Nat->Bk->α->M β}(hm:DS N s σ P m)(hf:∀x σ',P x σ'->DS N s σ' R λn B=>f n B x):DS N s σ R λn B=>sh (m n B) (f n B):=by
 obtain⟨x,σ1,hx,h1⟩:=hm;obtain⟨y,σ2,hy,h2⟩:=hf x σ1 hx;refine⟨y,σ2,hy,λn B h0 h hn z=>?_⟩;show Wp (sh (m n B) (f n B)) h _;rw[ag];refine (h1 n B h0 h hn z).mono λw h3 hw=>?_;obtain⟨rfl,z3⟩:=hw;exact h2 n B h0 h3 hn z3
def DS.ite {P:α->Sg->Prop}{c}[Decidable c]{a b}(ha:c->DS N s σ P a)(hb:¬c->DS N s σ P b):DS N s σ P λn B=>if c then a n B else b n B:=by
 by_cases hc:c
 .simp_all
 simp_all
theorem DS.le {P:α->Sg->Prop}{m}(hm:DS N s σ P m)(hl:N<=M'):DS M' s σ P m:=let ⟨x,σ1,hx,h1⟩:=hm;⟨x,σ1,hx,λn B h0 h hn z=>h1 n B h0 h (by omega) z⟩
theorem DS.succ {P:α->Sg->Prop}{l m}(he:∀n B,l (n+1) B=m n B)(hm:DS N s σ P m):DS (N+1) s σ P l:=by
 obtain⟨x,σ1,hx,h1⟩:=hm;refine⟨x,σ1,hx,λn B h0 h hn z=>?_⟩;obtain⟨n,rfl⟩:∃m,n=m+1:=⟨n-1,by omega⟩;rw[he];exact h1 n B h0 h (by omega) z
theorem DS.GI {R}{f:Nat->Bk->Int->M β}(hf:DS N s σ R λn B=>f n B σ.pos):DS N s σ R λn B=>sh (eU li (ak B.b3)) (f n B):=by
 obtain⟨r,σ1,hr,h2⟩:=hf;exact⟨r,σ1,hr,λn B h0 h hn z=>z.ld 1 (h2 n B h0 h hn z)⟩
theorem DS.stP {R}{v}{f:Nat->Bk->Unit->M β}(hf:DS N s { σ with pos:=v } R λn B=>f n B ()):DS N s σ R λn B=>sh (rE (ak B.b3) [vi v]) (f n B):=by
 obtain⟨r,σ1,hr,h2⟩:=hf;exact⟨r,σ1,hr,λn B h0 h hn z=>z.st 1 λh' z'=>h2 n B h0 h' hn z'⟩
theorem DS.Je {R}{f:Nat->Bk->ζ->M β}(hf:DS N s σ R λn B=>f n B s):DS N s σ R λn B=>sh (eU .str (ak B.b0)) (f n B):=by
 obtain⟨r,σ1,hr,h2⟩:=hf;exact⟨r,σ1,hr,λn B h0 h hn z=>z.ld 4 (h2 n B h0 h hn z)⟩
theorem DS.ldF {R}{f:Nat->Bk->ο->M β}(hf:DS N s σ R λn B=>f n B (OR B)):DS N s σ R λn B=>sh (eU .raw (ak B.b5)) (f n B):=by
 obtain⟨r,σ1,hr,h2⟩:=hf;exact⟨r,σ1,hr,λn B h0 h hn z=>z.ld 0 (h2 n B h0 h hn z)⟩
theorem DS.ix {R}{i:Int}{f:Nat->Bk->UInt8->M β}(h1:0<=i)(h2:i<s.size)(hf:∀c,DS N s σ R λn B=>f n B c):DS N s σ R λn B=>sh (kE s i) (f n B):=by
 have hlt:i.toNat<s.size:=by omega
 obtain⟨r,σ1,hr,h3⟩:=hf s[i.toNat];refine⟨r,σ1,hr,λn B h0 h hn z=>?_⟩;show Wp (sh (kE s i) (f n B)) h _;rw[ag,fM]
 grind
theorem DS.fn {ts}{R}{v:Bk->ο}{c:Bk->aY ts}{f:Nat->Bk->aY ts->M β}(hx:∀B,xX ts (KZ (v B))=some (c B))(hf:DS N s σ R λn B=>f n B (c B)):DS N s σ R λn B=>sh (qq ts (v B)) (f n B):=by
 grind [Wp,sh,qq,ag,lg]
def Wm (x:Mo)(j:Nat)(v:Int):Mo:=
 match j with
 |0=>(v,x.2)
 |1=>(x.1,v,x.2.2)
 |2=>(x.1,x.2.1,v,x.2.2.2)
 |3=>(x.1,x.2.1,x.2.2.1,v,x.2.2.2.2)
 |4=>(x.1,x.2.1,x.2.2.1,x.2.2.2.1,v,x.2.2.2.2.2)
 |5=>(x.1,x.2.1,x.2.2.1,x.2.2.2.1,x.2.2.2.2.1,v,x.2.2.2.2.2.2)
 |6=>(x.1,x.2.1,x.2.2.1,x.2.2.2.1,x.2.2.2.2.1,x.2.2.2.2.2.1,v,x.2.2.2.2.2.2.2)
 |7=>(x.1,x.2.1,x.2.2.1,x.2.2.2.1,x.2.2.2.2.1,x.2.2.2.2.2.1,x.2.2.2.2.2.2.1,v,x.2.2.2.2.2.2.2.2)
 |8=>(x.1,x.2.1,x.2.2.1,x.2.2.2.1,x.2.2.2.2.1,x.2.2.2.2.2.1,x.2.2.2.2.2.2.1,x.2.2.2.2.2.2.2.1,v,x.2.2.2.2.2.2.2.2.2)
 |_=>(x.1,x.2.1,x.2.2.1,x.2.2.2.1,x.2.2.2.2.1,x.2.2.2.2.2.1,x.2.2.2.2.2.2.1,x.2.2.2.2.2.2.2.1,x.2.2.2.2.2.2.2.2.1,v,x.2.2.2.2.2.2.2.2.2.2)
def getM (x:Mo)(j:Nat):Int:=
 match j with
 |0=>x.1|1=>x.2.1|2=>x.2.2.1|3=>x.2.2.2.1|4=>x.2.2.2.2.1|5=>x.2.2.2.2.2.1|6=>x.2.2.2.2.2.2.1|7=>x.2.2.2.2.2.2.2.1|8=>x.2.2.2.2.2.2.2.2.1|_=>x.2.2.2.2.2.2.2.2.2.1
def ajc {j}(h:j<=9):j=0\/j=1\/j=2\/j=3\/j=4\/j=5\/j=6\/j=7\/j=8\/j=9:=by omega
def ZV {x}{j}{v}(hj:j<=9):aU (mv x) j [vi v]=mv (Wm x j v):=by
 rcases ajc hj with rfl|rfl|rfl|rfl|rfl|rfl|rfl|rfl|rfl|rfl<;>rfl
def Ta {x}{j}(hj:j<=9):(mv x)[j]?=some (vi (getM x j)):=by
 rcases ajc hj with rfl|rfl|rfl|rfl|rfl|rfl|rfl|rfl|rfl|rfl<;>rfl
def Eo {x}{j}{v}(hj:j<=9)(hx:Dv x)(hv:Ix v):Dv (Wm x j v):=by
 obtain⟨h1,h2,h3,h4,h5,h6,h7⟩:=hx;rcases ajc hj with rfl|rfl|rfl|rfl|rfl|rfl|rfl|rfl|rfl|rfl<;>(unfold Wm Dv;simp only;exact⟨by assumption,by assumption,by assumption,by assumption,by assumption,by assumption,by assumption⟩)
theorem DS.ldX {R}{j}{g:Bk->Addr}{f:Nat->Bk->Int->M β}(hg:∀B,g B=⟨B.b2,j,none⟩)(hj:j<=9)(hf:DS N s σ R λn B=>f n B (getM σ.x j)):DS N s σ R λn B=>sh (eU li (g B)) (f n B):=by
 obtain⟨r,σ1,hr,h2⟩:=hf;refine⟨r,σ1,hr,λn B h0 h hn z=>?_⟩;show Wp (sh (eU li (g B)) (f n B)) h _;rw[hg];exact z.ld 2 (h2 n B h0 h hn z) rfl (Ta hj) rfl
theorem DS.stX {R}{j}{v}{g:Bk->Addr}{f:Nat->Bk->Unit->M β}(hg:∀B,g B=⟨B.b2,j,none⟩)(hj:j<=9)(hf:DS N s { σ with x:=Wm σ.x j v } R λn B=>f n B ()):DS N s σ R λn B=>sh (rE (g B) [vi v]) (f n B):=by
 obtain⟨r,σ1,hr,h2⟩:=hf;refine⟨r,σ1,hr,λn B h0 h hn z=>?_⟩;show Wp (sh (rE (g B) [vi v]) (f n B)) h _;rw[hg];exact z.st 2 (λh' z'=>h2 n B h0 h' hn z') rfl (ZV hj) (by show j+1<=11;omega)
def ajd (x:Mo)(v:Int):Mo:=(x.1,x.2.1,x.2.2.1,x.2.2.2.1,x.2.2.2.2.1,x.2.2.2.2.2.1,x.2.2.2.2.2.2.1,x.2.2.2.2.2.2.2.1,x.2.2.2.2.2.2.2.2.1,x.2.2.2.2.2.2.2.2.2.1,v)
theorem DS.ldZ {R}{f:Nat->Bk->Int->M β}(hf:DS N s σ R λn B=>f n B σ.x.2.2.2.2.2.2.2.2.2.2):DS N s σ R λn B=>sh (eU (.int .u8) ((ak B.b2).plus 10)) (f n B):=by
 obtain⟨r,σ1,hr,h2⟩:=hf;exact⟨r,σ1,hr,λn B h0 h hn z=>z.ld 2 (h2 n B h0 h hn z)⟩
theorem DS.stZ {R}{v}{f:Nat->Bk->Unit->M β}(hf:DS N s { σ with x:=ajd σ.x v } R λn B=>f n B ()):DS N s σ R λn B=>sh (rE ((ak B.b2).plus 10) [v8 v]) (f n B):=by
 obtain⟨r,σ1,hr,h2⟩:=hf;exact⟨r,σ1,hr,λn B h0 h hn z=>z.st 2 (λh' z'=>h2 n B h0 h' hn z') rfl rfl (aa2 11)⟩
theorem DS.fH {R}{f:Nat->Bk->Mo->M β}(hf:DS N s σ R λn B=>f n B σ.x):DS N s σ R λn B=>sh (bK moL (ak B.b2)) (f n B):=by
 obtain⟨r,σ1,hr,h2⟩:=hf;exact⟨r,σ1,hr,λn B h0 h hn z=>z.fH 2 (h2 n B h0 h hn z)⟩
theorem DS.aln {R}{f:Nat->Bk->Mo->M β}(hf:DS N s σ R λn B=>f n B σ.y):DS N s σ R λn B=>sh (bK moL (ak B.b1)) (f n B):=by
 obtain⟨r,σ1,hr,h2⟩:=hf;exact⟨r,σ1,hr,λn B h0 h hn z=>z.fH 3 (h2 n B h0 h hn z)⟩
theorem DS.stY {R}{x}{f:Nat->Bk->Unit->M β}(hf:DS N s { σ with y:=x } R λn B=>f n B ()):DS N s σ R λn B=>sh (rE (ak B.b1) (mv x)) (f n B):=by
 obtain⟨r,σ1,hr,h2⟩:=hf;exact⟨r,σ1,hr,λn B h0 h hn z=>z.st 3 (λh' z'=>h2 n B h0 h' hn z') rfl rfl (aa2 _)⟩
theorem DS.am2 {R}{x}{f:Nat->Bk->Unit->M β}(hf:DS N s { σ with y:=x } R λn B=>f n B ()):DS N s σ R λn B=>sh (Ago.uC [some (ak B.b3),some (ak B.b0)] (rE (ak B.b1) (mv x))) (f n B):=by
 obtain⟨r,σ1,hr,h2⟩:=hf;refine⟨r,σ1,hr,λn B h0 h hn z=>?_⟩;show Wp (sh (Ago.uC [some (ak B.b3),some (ak B.b0)] (rE (ak B.b1) (mv x))) (f n B)) h _;rw[ag];refine CN ?_;have l0:LB h B.b0 _ _:=z.get 4 rfl;have l3:LB h B.b3 _ _:=z.get 1 rfl;have key:Wp (sh (rE (ak B.b1) (mv x)) AI) h λy h'=>Z h0 h' (SL s B { σ with y:=x }):=z.st 3 (λh' z'=>af.2 z') rfl rfl (aa2 _);rw[ag] at key;refine key.mono λy h' hz=>?_;have z':=af.1 hz;have m0:LB h' B.b0 _ _:=z'.get 4 rfl;have m3:LB h' B.b3 _ _:=z'.get 1 rfl;refine⟨λa hm=>?_,h2 n B h0 h' hn z'⟩;simp at hm;rcases hm with rfl|rfl
 .show h'.get B.b3=h.get B.b3;rw[l3.get,m3.get]
 .show h'.get B.b0=h.get B.b0;rw[l0.get,m0.get]
def OKr (r:Mo×Bool)(_:Sg):Prop:=Dv r.1
structure DJ (s:ζ) (σ:Sg):Prop where
 lo:0<=σ.pos
 hi:σ.pos<=s.size
 ok:Dv σ.x
def ZW x:Ix (IntKind.i64.wrap x):=Q6 x
def DJ.fwd (i:DJ s σ)(hs:s.size<=1000000)(h:σ.pos<s.size):DJ s { σ with pos:=IntKind.i64.wrap (σ.pos+1) }:=by
 have:=i.lo;refine⟨?_,?_,i.ok⟩<;>simp<;>rw[tH (by omega) (by omega)]<;>omega
def am3 (s:ζ)(r:Int⊕(Int×Bool))(σ:Sg):Prop:=DJ s σ/\(match r with | .inl v=>Ix v | .inr p=>Ix p.1)
theorem aje (hs:s.size<=1000000):∀(k:Nat) (c v i:Int) σ ,DJ s σ->0<=i->c-i<=k->c<=100->Ix v->DS (k+1) s σ (am3 s) λn B=>jl n (ak B.b3) (ak B.b0) v c i:=by
 intro k
 induction k with
 |zero=>
  intro c v i σ iv hi hk hc hv;refine DS.succ (m:=λn B=>jG (jl n) n (ak B.b3) (ak B.b0) v c i) (λ_ _=>rfl) ?_;unfold jG;exact DS.ite (λh1=>by grind) λ_=>DS.pure ⟨iv,hv⟩
 |succ k ih=>
  intro c v i σ iv hi hk hc hv;refine DS.succ (m:=λn B=>jG (jl n) n (ak B.b3) (ak B.b0) v c i) (λ_ _=>rfl) ?_;unfold jG;have z64:Ix 0:=by grind
  refine DS.ite (λh1=>DS.GI (DS.Je (DS.ite (λ_=>DS.pure ⟨iv,z64⟩) λh2=>?_))) λ_=>DS.pure ⟨iv,hv⟩;simp only[abD] at h1 h2;have h3:σ.pos<s.size:=by omega
  refine DS.Je (DS.GI (DS.ix iv.lo h3 λc1=>DS.ite (λ_=>DS.pure ⟨iv,z64⟩) λ_=>DS.Je (DS.GI (DS.ix iv.lo h3 λc2=>DS.ite (λ_=>DS.pure ⟨iv,z64⟩) λ_=>?_))));unfold ni;have e:IntKind.i64.wrap (i+1)=i+1:=tH (by omega) (by omega);refine DS.Je (DS.GI (DS.ix iv.lo h3 λc3=>DS.GI (DS.stP ?_)));rw[e];exact ih _ _ _ _ (iv.fwd hs h3) (by omega) (by omega) hc (ZW _)
theorem ajf (hs:s.size<=1000000){c}(h1:0<=c)(h2:c<=9){σ}(iv:DJ s σ):DS 10 s σ (λ(r:Int×Bool) σ'=>DJ s σ'/\Ix r.1) λn B=>j9 n (OR B) c:=by
 have he:∀n B,j9 n (OR B) c=sh (qq [aG,aG] (OR B)) λ(x:Addr×Addr)=>oY n c x.1 x.2:=λn B=>by
  unfold j9;rw[By (show rN pO (OR B)=true from rfl)]
 suffices hh:DS 10 s σ (λ(r:Int×Bool) σ'=>DJ s σ'/\Ix r.1) λn B=>sh (qq [aG,aG] (OR B)) λ(x:Addr×Addr)=>oY n c x.1 x.2 by
  grind
 refine DS.fn (c:=λB=>(ak B.b3,ak B.b0)) (λB=>rfl) ?_;unfold oY;refine DS.bind ((aje hs 9 c 0 0 σ iv (by omega) (by omega) (by omega) (by grind)).le (by omega)) λr σ1 hr=>?_;cases r with
 |inl v=>exact DS.pure ⟨hr.1,hr.2⟩
 |inr p=>exact DS.pure ⟨hr.1,hr.2⟩
abbrev ZX (B:Bk)(lo len cap:Nat):Sl:=⟨some ⟨B.b2,lo,none⟩,len,cap⟩
theorem DS.ixA {R}{i}{lo len cap:Nat}{f:Nat->Bk->Addr->M β}(h1:0<=i)(h2:i<(len:Int))(hf:DS N s σ R λn B=>f n B ⟨B.b2,lo+i.toNat,none⟩):DS N s σ R λn B=>sh (mc (ZX B lo len cap) i 1) (f n B):=by
 obtain⟨r,σ1,hr,h3⟩:=hf;refine⟨r,σ1,hr,λn B h0 h hn z=>?_⟩;show Wp (sh (mc (ZX B lo len cap) i 1) (f n B)) h _;rw[ag,BB];refine⟨_,rfl,h1,h2,?_⟩;have e:(Addr.plus ⟨B.b2,lo,none⟩ (i.toNat*1))=⟨B.b2,lo+i.toNat,none⟩:=by simp[Addr.plus]
 rw[e];exact h3 n B h0 h hn z
def alo (s:ζ)(_:Unit⊕Bool)(σ:Sg):Prop:=DJ s σ
theorem ajg (hs:s.size<=1000000){lo len cap:Nat}(hl:lo+len<=10) fst sep (hf:0<=fst/\fst<=9):∀(k:Nat) i σ ,DJ s σ->0<=i->(len:Int)-i<=k->DS (k+11) s σ (alo s) λn B=>ie n (ZX B lo len cap) fst sep (ak B.b3) (ak B.b0) (ak B.b5) len i:=by
 intro k
 induction k with
 |zero=>
  intro i σ iv hi hk;refine DS.succ (m:=λn B=>jH (ie n) n (ZX B lo len cap) fst sep (ak B.b3) (ak B.b0) (ak B.b5) len i) (λ_ _=>rfl) ?_;unfold jH;exact DS.ite (λh1=>by grind) λ_=>DS.pure iv
 |succ k ih=>
  intro i σ iv hi hk;have e:IntKind.i64.wrap (i+1)=i+1\/¬(i<len):=by
   by_cases h:i<len
   .grind [tH]
   grind
  have tail:∀{σ:Sg} (w:Int),DJ s σ->0<=w/\w<=9->i<(len:Int)->DS (k+11) s σ (alo s) λn B=>ef (ie n) n (ZX B lo len cap) fst sep (ak B.b3) (ak B.b0) (ak B.b5) i w len i:=by
   intro σ w iv hw hlt;unfold ef;refine DS.ldF (DS.bind ((ajf hs hw.1 hw.2 iv).le (by omega)) λr σ1 hr=>DS.ite (λ_=>DS.pure hr.1) λ_=>DS.ixA hi hlt (DS.stX (j:=lo+i.toNat) (λ_=>rfl) (by omega) ?_));rw[e.resolve_right λh=>h hlt];exact ih (i+1) _ ⟨hr.1.lo,hr.1.hi,Eo (by omega) hr.1.ok hr.2⟩ (by omega) (by omega)
  refine DS.succ (m:=λn B=>jH (ie n) n (ZX B lo len cap) fst sep (ak B.b3) (ak B.b0) (ak B.b5) len i) (λ_ _=>rfl) ?_;unfold jH;refine DS.ite (λh1=>?_) λ_=>DS.pure iv;simp at h1;refine DS.ite (λh2=>DS.GI (DS.Je (DS.ite (λ_=>DS.pure iv) λh3=>?_))) λh2=>?_
  .simp only[abD] at h2 h3;have h4:σ.pos<s.size:=by omega
   refine DS.Je (DS.GI (DS.ix iv.lo h4 λc=>DS.ite (λ_=>DS.pure iv) λ_=>DS.GI (DS.stP ?_)));have iv2:=iv.fwd hs h4;exact DS.ite (λ_=>tail fst iv2 hf h1) λ_=>tail 2 iv2 (by omega) h1
  .exact DS.ite (λ_=>tail fst iv hf h1) λ_=>tail 2 iv (by omega) h1
abbrev Am (B:Bk):ο:=Value.func (Fn.func dO) #[] #[Value.pointer (some (ak B.b3)),Value.pointer (some (ak B.b0)),Value.pointer (some (ak B.b5))]
def ajh (hs:s.size<=1000000){lo len cap}(hl:lo+len<=10) fst sep (hf:0<=fst/\fst<=9){σ}(iv:DJ s σ):DS 30 s σ (λ(_:Bool) σ'=>DJ s σ') λn B=>iY n (ZX B lo len cap) fst sep (ak B.b3) (ak B.b0) (ak B.b5):=by
 unfold iY;refine DS.bind ((ajg hs hl fst sep hf 10 0 σ iv (by omega) (by omega)).le (by omega)) λr σ1 hr=>?_;cases r with
 |inl v=>exact DS.pure hr
 |inr p=>exact DS.pure hr
theorem L9 (hs:s.size<=1000000){lo len cap}(hl:lo+len<=10) fst sep (hf:0<=fst/\fst<=9){σ}(iv:DJ s σ){D:Nat->ο->Sl->Int->Int->M Bool}
  (hd:∀n B a,D n (Am B) a fst sep=sh (qq [aG,aG,aG] (Am B)) λ(c:Addr×Addr×Addr)=>iY n a fst sep c.1 c.2.1 c.2.2) :
  DS 30 s σ (λ(_:Bool) σ'=>DJ s σ') λn B=>D n (Am B) (ZX B lo len cap) fst sep:=by
 suffices hh:DS 30 s σ (λ(_:Bool) σ'=>DJ s σ') λn B=>sh (qq [aG,aG,aG] (Am B)) λ(c:Addr×Addr×Addr)=>iY n (ZX B lo len cap) fst sep c.1 c.2.1 c.2.2 by
  grind
 exact DS.fn (λB=>rfl) (ajh hs hl fst sep hf iv)
theorem DS.slA {R}{lo hi}{f:Nat->Bk->Sl->M β}(h1:lo<=hi)(h2:hi<=8)(hf:DS N s σ R λn B=>f n B (ZX B (1+lo) (hi-lo) (8-lo+1))):DS N s σ R λn B=>sh (ow ((ak B.b2).plus 1) 8 lo hi 1) (f n B):=by
 obtain⟨r,σ1,hr,h3⟩:=hf;refine⟨r,σ1,hr,λn B h0 h hn z=>?_⟩;show Wp (sh (ow ((ak B.b2).plus 1) 8 lo hi 1) (f n B)) h _;obtain⟨y,h',e1,e2⟩:=h3 n B h0 h hn z;refine⟨y,h',?_,e2⟩;have e0:ow ((ak B.b2).plus 1) 8 lo hi 1 h=some (ZX B (1+lo) (hi-lo) (8-lo+1),h):=by
  unfold ow;rw[By ⟨by omega,by omega,by omega⟩];simp[Addr.plus]
 unfold sh
 grind
theorem ady (hs:s.size<=1000000)(v:Bk->ο):∀(k:Nat) (i:Int) σ ,DJ s σ->0<=i->9-i<=k->DS (k+1) s σ (λ(r:Int) σ'=>DJ s σ'/\0<=r) λn B=>kT n (ak B.b0) (ak B.b1) (ak B.b2) (ak B.b3) (v B) i:=by
 intro k
 induction k with
 |zero=>
  intro i σ iv hi hk;refine DS.succ (m:=λn B=>lC (kT n) n (ak B.b0) (ak B.b1) (ak B.b2) (ak B.b3) (v B) i) (λ_ _=>rfl) ?_;unfold lC;exact DS.ite (λh1=>by grind) λ_=>DS.pure ⟨iv,hi⟩
 |succ k ih=>
  intro i σ iv hi hk;refine DS.succ (m:=λn B=>lC (kT n) n (ak B.b0) (ak B.b1) (ak B.b2) (ak B.b3) (v B) i) (λ_ _=>rfl) ?_;unfold lC;refine DS.ite (λh1=>DS.GI (DS.Je (DS.ite (λh2=>?_) λ_=>DS.pure ⟨iv,hi⟩))) λ_=>DS.pure ⟨iv,hi⟩;simp at h1 h2;refine DS.Je (DS.GI (DS.ix iv.lo h2 λc1=>DS.ite (λ_=>DS.Je (DS.GI (DS.ix iv.lo h2 λc2=>DS.ite (λ_=>?_) λ_=>DS.pure ⟨iv,hi⟩))) λ_=>DS.pure ⟨iv,hi⟩));unfold o9;have e:IntKind.i64.wrap (i+1)=i+1:=tH (by omega) (by omega);refine DS.ldX (j:=9) (λ_=>rfl) (by omega) (DS.Je (DS.GI (DS.ix iv.lo h2 λc3=>DS.stX (j:=9) (λ_=>rfl) (by omega) (DS.GI (DS.stP ?_)))));rw[e];exact ih _ _ (DJ.fwd ⟨iv.lo,iv.hi,Eo (by omega) iv.ok (ZW _)⟩ hs h2) (by omega) (by omega)
theorem adz (v:Bk->ο):∀(k:Nat) (i:Int) σ ,DJ s σ->0<=i->9-i<=k->DS (k+1) s σ (λ(_:Unit) σ'=>DJ s σ') λn B=>n7 n (ak B.b0) (ak B.b1) (ak B.b2) (ak B.b3) (v B) i:=by
 intro k
 induction k with
 |zero=>
  intro i σ iv hi hk;refine DS.succ (m:=λn B=>lA (n7 n) n (ak B.b0) (ak B.b1) (ak B.b2) (ak B.b3) (v B) i) (λ_ _=>rfl) ?_;unfold lA;exact DS.ite (λh1=>by grind) λ_=>DS.pure iv
 |succ k ih=>
  intro i σ iv hi hk;refine DS.succ (m:=λn B=>lA (n7 n) n (ak B.b0) (ak B.b1) (ak B.b2) (ak B.b3) (v B) i) (λ_ _=>rfl) ?_;unfold lA;refine DS.ite (λh1=>?_) λ_=>DS.pure iv;simp at h1;have e:IntKind.i64.wrap (i+1)=i+1:=tH (by omega) (by omega);refine DS.ldX (j:=9) (λ_=>rfl) (by omega) (DS.stX (j:=9) (λ_=>rfl) (by omega) ?_);rw[e];exact ih _ _ ⟨iv.lo,iv.hi,Eo (by omega) iv.ok (ZW _)⟩ (by omega) (by omega)
def Ma {x}{v}(hx:Dv x):Dv (ajd x v):=hx
def OS {b}{σ}(hx:Dv σ.x):DS N s σ OKr λn B=>sh (bK moL (ak B.b2)) λ(x:Mo)=>sh (rE (ak B.b1) (mv x)) λ_=>sh (bK moL (ak B.b1)) λ(y:Mo)=>AI (y,b):=
 DS.fH (DS.stY (DS.aln (DS.pure hx)))
def Iy {σ}(hx:Dv σ.x):DS N s σ OKr λn B=>sh (bK moL (ak B.b2)) λ(x:Mo)=>sh (eU li (ak B.b3)) λ(p:Int)=>sh (eU .str (ak B.b0)) λ(t:ζ)=>sh (Ago.uC [some (ak B.b3),some (ak B.b0)] (rE (ak B.b1) (mv x))) λ_=>sh (bK moL (ak B.b1)) λ(y:Mo)=>AI (y,decide (p=(t.size:Int))):=
 DS.fH (DS.GI (DS.Je (DS.am2 (DS.aln (DS.pure hx)))))
def aji (hs:s.size<=1000000)(iv:DJ s σ)(hp:σ.pos<s.size):DS 30 s σ OKr λn B=>qL n (ak B.b0) (ak B.b1) (ak B.b2) (ak B.b3) (Am B):=by
 unfold qL;have iv2:∀c,DJ s { x:=ajd σ.x c,pos:=IntKind.i64.wrap (σ.pos+1),y:=σ.y }:=λc=>⟨(iv.fwd hs hp).lo,(iv.fwd hs hp).hi,Ma iv.ok⟩;refine DS.Je (DS.GI (DS.ix iv.lo hp λc=>DS.stZ (DS.GI (DS.stP (DS.ldZ (DS.ite (λ_=>Iy (Ma iv.ok)) λ_=>DS.ldZ (DS.ite (λ_=>DS.ldZ (DS.ite (λ_=>OS (Ma iv.ok)) λ_=>?_)) λ_=>?_)))))))
 .exact DS.slA (lo:=6) (hi:=8) (by omega) (by omega) (DS.bind (L9 hs (by omega) 2 58 (by omega) (iv2 _) λn B a=>By (show rN dO (Am B)=true from rfl)) λr σ1 iv3=>DS.ite (λ_=>OS iv3.ok) λ_=>Iy iv3.ok)
 .exact DS.slA (lo:=6) (hi:=8) (by omega) (by omega) (DS.bind (L9 hs (by omega) 2 58 (by omega) (iv2 _) λn B a=>By (show rN dO (Am B)=true from rfl)) λr σ1 iv3=>DS.ite (λ_=>OS iv3.ok) λ_=>Iy iv3.ok)
theorem Rc (hs:s.size<=1000000)(iv:DJ s σ):DS 30 s σ OKr λn B=>kU n (ak B.b0) (ak B.b1) (ak B.b2) (ak B.b3) (Am B):=by
 unfold kU;exact DS.GI (DS.Je (DS.ite (λhp=>DS.ldX (j:=0) (λ_=>rfl) (by omega) (DS.ite (λ_=>aji hs iv (by grind)) λ_=>Iy iv.ok)) λ_=>Iy iv.ok))
def ajj (hs:s.size<=1000000)(iv:DJ s σ)(hp:σ.pos<s.size):DS 30 s σ OKr λn B=>qM n (ak B.b0) (ak B.b1) (ak B.b2) (ak B.b3) (Am B):=by
 unfold qM;refine DS.GI (DS.stP (DS.bind ((ady hs Am 9 0 _ (iv.fwd hs hp) (by omega) (by omega)).le (by omega)) λr σ1 hr=>DS.ite (λ_=>OS hr.1.ok) λ_=>DS.bind ((adz Am 9 r σ1 hr.1 hr.2 (by omega)).le (by omega)) λ_ σ2 iv2=>Rc hs iv2))
theorem Mb (hs:s.size<=1000000)(iv:DJ s σ):DS 30 s σ OKr λn B=>gh n (ak B.b0) (ak B.b1) (ak B.b2) (ak B.b3) (Am B):=by
 unfold gh;refine DS.slA (lo:=3) (hi:=6) (by omega) (by omega) (DS.bind (L9 hs (by omega) 2 58 (by omega) iv (D:=tR) λn B a=>By (show rN dO (Am B)=true from rfl)) λr σ1 iv3=>DS.ite (λ_=>OS iv3.ok) λ_=>DS.ldX (j:=0) (λ_=>rfl) (by omega) (DS.stX (j:=0) (λ_=>rfl) (by omega) ?_));have iv4:DJ s { σ1 with x:=Wm σ1.x 0 (IntKind.i64.wrap (getM σ1.x 0+2)) }:=⟨iv3.lo,iv3.hi,Eo (by omega) iv3.ok (ZW _)⟩;exact DS.GI (DS.Je (DS.ite (λhp=>DS.Je (DS.GI (DS.ix iv3.lo (by grind) λc=>DS.ite (λ_=>ajj hs iv4 (by grind)) λ_=>Rc hs iv4))) λ_=>Rc hs iv4))
theorem ajk (hs:s.size<=1000000)(iv:DJ s σ):DS 30 s σ OKr λn B=>n8 n (ak B.b0) (ak B.b1) (ak B.b2) (ak B.b3) (Am B):=by
 unfold n8;refine DS.slA (lo:=0) (hi:=3) (by omega) (by omega) (DS.bind (L9 hs (by omega) 4 45 (by omega) iv (D:=tQ) λn B a=>By (show rN dO (Am B)=true from rfl)) λr σ1 iv3=>DS.ite (λ_=>OS iv3.ok) λ_=>DS.stX (j:=0) (λ_=>rfl) (by omega) ?_);have iv4:DJ s { σ1 with x:=Wm σ1.x 0 1 }:=⟨iv3.lo,iv3.hi,Eo (by omega) iv3.ok (by grind)⟩;refine DS.GI (DS.Je (DS.ite (λ_=>OS iv4.ok) λhp=>?_));have h5:σ1.pos<s.size:=by have:=iv3.hi;grind
 have iv5:=iv4.fwd hs h5;exact DS.Je (DS.GI (DS.ix iv3.lo h5 λc=>DS.ite (λ_=>DS.Je (DS.GI (DS.ix iv3.lo h5 λc=>DS.ite (λ_=>OS iv4.ok) λ_=>DS.GI (DS.stP (Mb hs iv5))))) λ_=>DS.GI (DS.stP (Mb hs iv5))))
abbrev mo0:Mo:=(0,0,0,0,0,0,0,0,0,0,0)
theorem Wn (hs:s.size<=1000000):DS 30 s ⟨mo0,0,mo0⟩ OKr λn B=>sh (eU .str (ak B.b0)) λ(x7:ζ)=>
  if decide (2<(↑(ByteArray.size x7):Int)) then
   sh (eU .str (ak B.b0)) λ(x8:ζ)=>
   sh (kE x8 2) λx9=>
   if !decide ((↑x9.toNat:Int)=58) then
    n8 n (ak B.b0) (ak B.b1) (ak B.b2) (ak B.b3) (Am B)
   else
    gh n (ak B.b0) (ak B.b1) (ak B.b2) (ak B.b3) (Am B)
  else
   gh n (ak B.b0) (ak B.b1) (ak B.b2) (ak B.b3) (Am B):=by
 have iv:DJ s ⟨mo0,0,mo0⟩:=⟨by grind,by grind,by grind [Dv]⟩;exact DS.Je (DS.ite (λhp=>DS.Je (DS.ix (by omega) (by grind) λc=>DS.ite (λ_=>ajk hs iv) λ_=>Mb hs iv)) λ_=>Mb hs iv)
theorem Mc (hs:s.size<=1000000):DD 30 (λr:Mo×Bool=>Dv r.1) λn=>nF n s:=by
 obtain⟨r,σ1,hr,h1⟩:=Wn hs;refine⟨r,hr,λn h hn hw=>?_⟩;show Wp (nF n s) h _;unfold nF;refine (Z.start hw).new λx0 h1' z1 _=>z1.new (λx1 h2' z2 _=>z2.new (λx2 h3' z3 _=>z3.new λx3 h4' z4 _=>z4.st 0 (cs':=[vi 0]) λh5' z5=>z5.new λx5 h6' z6 _=>z6.st 0 (cs':=[OR ⟨x0,x1,x2,x3,x5⟩]) λh7' z7=>?_));refine (h1 n ⟨x0,x1,x2,x3,x5⟩ h h7' hn z7).mono λy h8 h9=>⟨h9.1,h9.2.fr⟩
end
section
variable {α β:Type}{h h' h0:aj}{L:List bJ}{Q:β->aj->Prop}{N M':Nat}{x:Mo}
theorem DM.succ {P:α->Prop}{l m:Nat->Nat->M α}(he:∀n a,l (n+1) a=m n a)(hm:DM N x P m):DM (N+1) x P l:=by
 obtain⟨r,hr,h1⟩:=hm;refine⟨r,hr,λn h0 h b hn z=>?_⟩;obtain⟨n,rfl⟩:∃m,n=m+1:=⟨n-1,by omega⟩;rw[he];exact h1 n h0 h b (by omega) z
theorem DM.bind {P:α->Prop}{R:β->Prop}{m:Nat->Nat->M α}{f:Nat->Nat->α->M β}(hm:DM N x P m)(hf:∀y,P y->DM N x R λn a=>f n a y):DM N x R λn a=>sh (m n a) (f n a):=by
 obtain⟨y,hy,h1⟩:=hm;obtain⟨r,hr,h2⟩:=hf y hy;refine⟨r,hr,λn h0 h b hn z=>?_⟩;show Wp (sh (m n b) (f n b)) h _;rw[ag];refine (h1 n h0 h b hn z).mono λw h3 hw=>?_;obtain⟨rfl,f3⟩:=hw;exact h2 n h0 h3 b hn f3
theorem DM.arr {R:β->Prop}{e:μ}{c0 cs:δ}{ls:List uR}{w:cF ls}{f:Nat->Nat->cF ls->M β}(h0:c0.all fC=true)(h1:cs.all fC=true)(h2:c0.length=cs.length)(h3:Cw ls cs=some w)(h4:ls.length=cs.length)
  (hf:DM N x R λn a=>f n a w):DM N x R λn a=>sh (iB none e c0) λb=>sh (rE (ak b) cs) λ_=>sh (bK ls (ak b)) (f n a):=by
 obtain⟨r,hr,h5⟩:=hf;refine⟨r,hr,λn g0 h a hn z=>?_⟩;refine z.new (λb h1' z1 _=>z1.st 0 (cs':=cs) (λh2' z2=>z2.fH 0 (x:=w) (h5 n g0 h2' a hn z2.drop) rfl h3 h4) rfl ?_ ?_ h1) h0
 .show aU c0 0 cs=cs;unfold aU;rw[aeq,<-h2];simp
 .rw[h2];omega
theorem DD.arr {R:β->Prop}{e:μ}{c0 cs:δ}{ls:List uR}{w:cF ls}{f:Nat->cF ls->M β}(h0:c0.all fC=true)(h1:cs.all fC=true)(h2:c0.length=cs.length)(h3:Cw ls cs=some w)(h4:ls.length=cs.length)
  (hf:DD N R λn=>f n w):DD N R λn=>sh (iB none e c0) λb=>sh (rE (ak b) cs) λ_=>sh (bK ls (ak b)) (f n):=by
 obtain⟨r,hr,h5⟩:=hf;refine⟨r,hr,λn h hn hw=>?_⟩;refine (Z.start hw).new (λb h1' z1 _=>z1.st 0 (cs':=cs) (λh2' z2=>z2.fH 0 (x:=w) ?_ rfl h3 h4) rfl ?_ ?_ h1) h0
 .exact (h5 n h2' hn z2.wf).mono λy h' hy=>⟨hy.1,jh hw z2.fr hy.2⟩
 .show aU c0 0 cs=cs;unfold aU;rw[aeq,<-h2];simp
 .rw[h2];omega
theorem adA (w:Int×Int×Int×Int×Int):∀(k:Nat) (i:Int),0<=i->5-i<=k->DM (k+1) x (Any:Unit⊕Bool->Prop) λn a=>fW n (ak a) w i:=by
 intro k
 induction k with
 |zero=>
  intro i hi hk;refine DM.succ (m:=λn a=>ff (fW n) n (ak a) w i) (λ_ _=>rfl) ?_;unfold ff;exact DM.ite (λh1=>by simp only[abD] at h1;omega) λ_=>DM.pure trivial
 |succ k ih=>
  intro i hi hk;refine DM.succ (m:=λn a=>ff (fW n) n (ak a) w i) (λ_ _=>rfl) ?_;unfold ff;refine DM.ite (λh1=>?_) λ_=>DM.pure trivial;simp only[abD] at h1;have e1:IntKind.i64.wrap (i+1)=i+1:=tH (by omega) (by omega);have e3:IntKind.i64.wrap (i+3)=i+3:=tH (by omega) (by omega);rw[e1,e3];have hix:∃v:Int,[vi w.1,vi w.2.1,vi w.2.2.1,vi w.2.2.2.1,vi w.2.2.2.2][i.toNat]?=some (vi v):=by
   have:i.toNat=0\/i.toNat=1\/i.toNat=2\/i.toNat=3\/i.toNat=4:=by omega
   rcases this with h|h|h|h|h<;>rw[h]<;>exact⟨_,rfl⟩
  obtain⟨v,hv⟩:=hix;refine DM.dd (P:=λy:Int=>y=v) ⟨v,rfl,λn h _ hw=>acd hi (by omega) hv rfl ⟨rfl,Fr.refl hw⟩⟩ λy _=>DM.ck (by simp;omega) (DM.ld (l:=li) (o:=1+(i+3).toNat) (λb=>?_) (Ta (by omega)) rfl (DM.ite (λ_=>DM.pure trivial) λ_=>ih _ (by omega) (by omega)));simp[Addr.plus]
def Tb:DM 20 x (Any:Bool->Prop) λn a=>fX n (ak a):=by
 unfold fX;refine DM.arr (ls:=[li,li,li,li,li]) (w:=(23,59,59,23,59)) rfl rfl rfl rfl rfl (DM.bind ((adA _ 5 0 (by omega) (by omega)).le (by omega)) λy _=>?_);cases y with
 |inl v=>exact DM.pure trivial
 |inr v=>exact DM.pure trivial
def Kj:DD 20 (Any:Bool->Prop) λn=>iP n x:=by
 unfold iP;refine DM.run (x:=x) ?_;refine DM.ld (o:=0) (λ_=>rfl) rfl rfl (DM.ite (λ_=>DM.ck (by decide) (DM.ld (o:=1) (λ_=>rfl) rfl rfl (DM.ck (by decide) (DM.ld (o:=2) (λ_=>rfl) rfl rfl (DM.ck (by decide) (DM.ld (o:=3) (λ_=>rfl) rfl rfl (DM.dd (S7 _ _ _) λy _=>DM.ite (λ_=>DM.pure trivial) λ_=>Tb))))))) λ_=>Tb)
def Rd:DD 20 (Any:Int->Prop) λn=>jP n x:=by
 unfold jP;refine DM.run (x:=x) ?_;exact DM.ck (by decide) (DM.ld (o:=1) (λ_=>rfl) rfl rfl (DM.ck (by decide) (DM.ld (o:=2) (λ_=>rfl) rfl rfl (DM.ck (by decide) (DM.ld (o:=3) (λ_=>rfl) rfl rfl (DM.dd (S7 _ _ _) λy _=>
  DM.ck (by decide) (DM.ld (o:=4) (λ_=>rfl) rfl rfl (DM.ck (by decide) (DM.ld (o:=5) (λ_=>rfl) rfl rfl (DM.ck (by decide) (DM.ld (o:=6) (λ_=>rfl) rfl rfl (DM.ck (by decide) (DM.ld (o:=7) (λ_=>rfl) rfl rfl (DM.ck (by decide) (DM.ld (o:=8) (λ_=>rfl) rfl rfl
   (DM.ld (l:=.int .u8) (o:=10) (λ_=>rfl) rfl rfl (DM.ite (λ_=>DM.pure trivial) λ_=>DM.pure trivial)))))))))))))))))
theorem alq (a:Int):Ix (a.tmod 60):=by
 grind
def MZ (s:ζ):Prop:=∃y,TX y/\s.data.toList=y.data.toList++[90]
abbrev InP (r:ζ×Int):Prop:=r.2=0->MZ r.1
abbrev LoP (r:ζ×Int):Prop:=r.2=0->TX r.1
theorem ZY {a0 a1 a2:Int}(h0:Ix a0):DD 10020 InP λn=>iZ n a0 a1 a2:=by
 unfold iZ;have h90:(ofBytes [90]).size=1:=rfl;refine (adw a1).bind λy hy=>DD.ite (λ_=>DD.pure λh=>absurd h (by decide)) λ_=>(DD.ck (by decide)).bind λ_ _=>(DD.ck (by decide)).bind λ_ _=>(DD.ck (by decide)).bind λ_ _=>(DD.ck (by decide)).bind λ_ _=>?_;refine DD.arr (ls:=moL) (w:=((3,y.1,y.2.1,y.2.2.1,IntKind.i64.wrap (a2.tdiv 3600),(IntKind.i64.wrap (a2.tdiv 60)).tmod 60,a2.tmod 60,0,0,a0,0):Mo)) rfl rfl rfl rfl rfl ?_;exact (S9 (x:=(3,y.1,y.2.1,y.2.2.1,IntKind.i64.wrap (a2.tdiv 3600),(IntKind.i64.wrap (a2.tdiv 60)).tmod 60,a2.tmod 60,0,0,a0,0)) ⟨hy.1,hy.2.1,hy.2.2,ZW _,alq _,alq _,h0⟩).bind λz hz=>(DD.cat (by omega)).bind λw hw=>DD.pure λ_=>⟨z,hz.2,hw.2⟩
theorem ajl {a0 a1:Int}:DD 10020 InP λn=>oP n a0 a1:=by
 unfold oP;refine DD.ite (λ_=>DD.pure λh=>absurd h (by decide)) λg1=>DD.ite (λ_=>DD.pure λh=>absurd h (by decide)) λg2=>DD.ite (λ_=>DD.pure λh=>absurd h (by decide)) λ_=>DD.ite (λ_=>DD.pure λh=>absurd h (by decide)) λ_=>?_;simp only[abD] at g1 g2;have h0:Ix a1:=by constructor<;>omega
 unfold po;exact (DD.ck (by decide)).bind λ_ _=>(DD.ck (by decide)).bind λ_ _=>DD.ite (λ_=>ZY h0) λ_=>ZY h0
theorem DM.ajm {P:α->Prop}{m:Nat->Nat->M α}(hm:DM N x P m):DD N P λn=>sh (iB none bN (mv mo0)) λb=>sh (rE (ak b) (mv x)) λ_=>m n b:=by
 obtain⟨r,hr,h1⟩:=hm;exact⟨r,hr,λn h hn hw=>(Z.start hw).new λb h1' z1 f1=>z1.st 0 (cs':=mv x) (λh2' z2=>(h1 n h h2' b hn z2).mono λy h2 h3=>⟨h3.1,h3.2.fr⟩) rfl rfl (aa2 11)⟩
theorem adB (hx:Dv x):DM 10020 x InP λn a=>nG n (ak a):=by
 unfold nG;refine DM.fH (DM.dd (Kj.le (by omega)) λy _=>DM.ite (λ_=>DM.pure λh=>absurd h (by decide)) λ_=>DM.fH (DM.ld (l:=li) (o:=9) (λ_=>rfl) rfl rfl (DM.ddc (ads:=λa=>[some ((ak a).plus 9)]) (Rd.le (by omega)) (λb a hm c hc=>?_) λz _=>DM.dd ajl λw hw=>DM.pure hw)));subst hc;simp[Addr.plus] at hm;subst hm;rfl
theorem Re {s:ζ}(hs:s.size<=1000000):DD 10020 InP λn=>oe n s:=by
 unfold oe;refine ((Mc hs).le (by omega)).bind λy hy=>DM.ajm (x:=y.1) (DM.ite (λ_=>DM.pure λh=>absurd h (by decide)) λ_=>DM.ld (l:=.int .u8) (o:=10) (λ_=>rfl) rfl rfl (DM.ite (λ_=>DM.pure λh=>absurd h (by decide)) λ_=>adB hy))
theorem ZZ {s:ζ}(hs:s.size<=1000000):DD 10020 LoP λn=>uA n s:=by
 unfold uA;exact ((Mc hs).le (by omega)).bind λy hy=>DM.ajm (x:=y.1) (DM.ite (λ_=>DM.pure λh=>absurd h (by decide)) λ_=>DM.ld (l:=.int .u8) (o:=10) (λ_=>rfl) rfl rfl (DM.ite (λ_=>DM.pure λh=>absurd h (by decide)) λ_=>DM.fH (DM.dd (Kj.le (by omega)) λz _=>DM.ite (λ_=>DM.pure λh=>absurd h (by decide)) λ_=>DM.fH (DM.dd (S9 hy) λw hw=>DM.pure λ_=>hw.2))))
theorem Z0 {s:ζ}(hs:s.size<=1000000):DD 10020 (λr:Int=>r≠0->TX s) λn=>qC n s:=by
 unfold qC;refine (ZZ hs).bind λy hy=>DD.ite (λ_=>DD.pure λh=>absurd rfl h) λg1=>DD.ite (λ_=>DD.pure λh=>absurd rfl h) λg2=>?_;have ht:TX s:=by
  have q1:y.2=0:=by simpa using g1
  have q2:mQ y.1 s=true:=by simpa using g2
  exact iI q2▸hy q1
 exact ((Mc hs).le (by omega)).bind λz hz=>DM.ajm (x:=z.1) (DM.ld (l:=li) (o:=0) (λ_=>rfl) rfl rfl (DM.pure λ_=>ht))
end
end Go.Sh
