
import Derived.Test.YtajnpfnomgjlaaaGreatDoorBnPa
set_option linter.all false
namespace Go.Sh
open Go Go.Ago Go.Proofs
section
variable {α β:Type}{h h' h0:ai}{L:List bG}{Q:β->ai->Prop}{N M':Nat}
def DD (N:Nat)(P:α->Prop)(m:Nat->M α):Prop:=∃x,P x/\∀n h,N<=n->WF h->Wp (m n) h λy h'=>y=x/\Fr (λ_=>False) h h'
theorem PP.dd {P:α->Prop}{m}(hm:PP P m):DD N P m:=by
 obtain⟨x,hx,h1⟩:=hm;exact⟨x,hx,λn h _ hw=>⟨x,h,h1 n h,rfl,Fr.refl hw⟩⟩
theorem DD.pure {P:α->Prop}{x}(hx:P x):DD N P λ_=>AI x:=(PP.pure hx).dd
theorem DD.bind {P R m}{f:Nat->α->M β}(hm:DD N P m)(hf:∀x,P x->DD N R λn=>f n x):DD N R λn=>sh (m n) (f n):=by
 obtain⟨x,hx,h1⟩:=hm;obtain⟨y,hy,h2⟩:=hf x hx;refine⟨y,hy,λn h hn hw=>?_⟩;show Wp (sh (m n) (f n)) h _;rw[ah];refine (h1 n h hn hw).mono λz h3 hz=>?_;obtain⟨rfl,f3⟩:=hz;exact (h2 n h3 hn f3.wf).mono λw h4 hw4=>⟨hw4.1,jR hw f3 hw4.2⟩
theorem DD.ite {P:α->Prop}{c}[Decidable c]{a b}(ha:c->DD N P a)(hb:¬c->DD N P b):DD N P λn=>if c then a n else b n:=by
 by_cases hc:c
 .simp_all
 simp_all
theorem DD.mono {P P':α->Prop}{m}(hm:DD N P m)(hp:∀x,P x->P' x):DD N P' m:=let ⟨x,hx,h1⟩:=hm;⟨x,hp x hx,h1⟩
theorem DD.le {P:α->Prop}{m}(hm:DD N P m)(hl:N<=M'):DD M' P m:=let ⟨x,hx,h1⟩:=hm;⟨x,hx,λn h hn hw=>h1 n h (by omega) hw⟩
theorem DD.ck {b}(hb:b=true):DD N (Any:Unit->Prop) λ_=>px b:=(PP.ck hb).dd
def Et (y:Int):Bool:=decide (y.tmod 4=0)&&(!decide (y.tmod 100=0)||decide (y.tmod 400=0))
def Ll:ε:=[0,31,28,31,30,31,30,31,31,30,31,30,31]
def oH (y m:Int):Int:=if m=2/\Et y=true then 29 else Ll.getD m.toNat 0
def tW (y:Int):Int:=IntKind.i64.wrap (IntKind.i64.wrap (IntKind.i64.wrap (IntKind.i64.wrap (365*y)+IntKind.i64.wrap ((IntKind.i64.wrap (y+3)).tdiv 4))-IntKind.i64.wrap ((IntKind.i64.wrap (y+99)).tdiv 100))+IntKind.i64.wrap ((IntKind.i64.wrap (y+399)).tdiv 400))
theorem abk y:DD N (λb=>b=Et y) λn=>tE n y:=by
 unfold tE Et;refine (DD.ck (by decide)).bind λ_ _=>DD.ite (λh1=>(DD.ck (by decide)).bind λ_ _=>DD.ite (λh2=>DD.pure ?_) λh2=>(DD.ck (by decide)).bind λ_ _=>DD.pure ?_) λh1=>DD.pure ?_
 .grind
 .grind
 .simp at h1;simp[h1]
theorem DX {y m}(h1:1<=m)(h2:m<=12):DD N (λr=>r=oH y m) λn=>kO n y m:=by
 refine⟨oH y m,rfl,λn h hn hw=>?_⟩;obtain⟨lb,hlb,hl⟩:=abk (N:=N) y;unfold kO;refine (Z.start hw).new λx0 h1' z1 f1=>?_;refine z1.st 0 (cs':=Ll.map vi) λh2' z2=>?_;have tail:∀{h3} (z3:Z h h3 [.au x0 (Ll.map vi) GC]),¬(m=2/\Et y=true)->Wp (sh (px (decide (0<=m/\m<((13:Nat):Int)))) λ_=>sh (aq li ((al x0).plus (m.toNat*1))) λ(x4:Int)=>AI x4) h3 λy' h'=>y'=oH y m/\Fr (λ_=>False) h h':=by
  intro h3 z3 hne;rw[ah,VN];refine⟨by simp only[acu];omega,?_⟩;have hlt:m.toNat<Ll.length:=by show m.toNat<13;omega
  have e1:(Ll.map vi)[m.toNat]?=some (vi (Ll.getD m.toNat 0)):=by
   grind
  have e2:((al x0).plus (m.toNat*1))=⟨x0,m.toNat,none⟩:=by simp[Addr.plus]
  rw[e2];refine z3.ld 0 ?_ rfl e1 rfl;refine ag.2 ⟨?_,z3.fr⟩;unfold oH;rw[AT hne]
 by_cases hm:m=2
 .rw[By (by simpa using hm),ah];refine (hl n h2' hn z2.wf).mono λb h3 hb=>?_;obtain⟨rfl,f3⟩:=hb;have z3:=z2.pure f3;cases hlp:Et y with
  |true=>
   rw[hlb,By hlp,ag];exact⟨by unfold oH;rw[By ⟨hm,hlp⟩],z3.fr⟩
  |false=>
   rw[hlb,AT (by rw[hlp];decide)];exact tail z3 λx=>by rw[hlp] at x;exact absurd x.2 (by decide)
 .rw[AT (by simpa using hm)];exact tail z2 λx=>hm x.1
theorem G7 y:PP (λr=>r=tW y) λn=>pL n y:=(PP.ck (by decide)).bind λ_ _=>(PP.ck (by decide)).bind λ_ _=>(PP.ck (by decide)).bind λ_ _=>PP.pure rfl
theorem abl (y m:Int)(hm:m<=12):∀(k:Nat) c d ,1<=d->m-d<=k->DD (k+1) (Any:Int->Prop) λn=>gq n y m c d:=by
 intro k
 induction k with
 |zero=>
  intro c d hd hk;refine⟨c,trivial,λn h hn hw=>?_⟩;obtain⟨n,rfl⟩:∃m,n=m+1:=⟨n-1,by omega⟩;show Wp (gq (n+1) y m c d) h _;rw[qS];unfold kp;rw[AT (by simp only[acu];omega),ag];exact⟨rfl,Fr.refl hw⟩
 |succ k ih=>
  intro c d hd hk;by_cases hdm:d<m
  .obtain⟨l,_,hl⟩:=DX (N:=0) (y:=y) (m:=d) hd (by omega);have ew:IntKind.i64.wrap (d+1)=d+1:=xG (by omega) (by omega);obtain⟨x,_,hx⟩:=ih (IntKind.i64.wrap (c+l)) (d+1) (by omega) (by omega);refine⟨x,trivial,λn h hn hw=>?_⟩;obtain⟨n,rfl⟩:∃m,n=m+1:=⟨n-1,by omega⟩;show Wp (gq (n+1) y m c d) h _;rw[qS];unfold kp;rw[By (by simpa using hdm),ah];refine (hl n h (by omega) hw).mono λr h1 hr=>?_;obtain⟨rfl,f1⟩:=hr;rw[ew];exact (hx n h1 (by omega) f1.wf).mono λw h4 hw4=>⟨hw4.1,jR hw f1 hw4.2⟩
  .refine⟨c,trivial,λn h hn hw=>?_⟩;obtain⟨n,rfl⟩:∃m,n=m+1:=⟨n-1,by omega⟩;show Wp (gq (n+1) y m c d) h _;rw[qS];unfold kp;rw[AT (by simp only[acu];omega),ag];exact⟨rfl,Fr.refl hw⟩
theorem Rl y m d:DD 20 (Any:Int×Int->Prop) λn=>tJ n y m d:=by
 refine DD.ite (λ_=>DD.pure trivial) λ_=>DD.ite (λ_=>DD.pure trivial) λ_=>DD.ite (λ_=>DD.pure trivial) λh1=>DD.ite (λ_=>DD.pure trivial) λh2=>DD.ite (λ_=>DD.pure trivial) λ_=>?_;simp only[acu] at h1 h2;refine (DX (by omega) (by omega)).bind λx _=>DD.ite (λ_=>DD.pure trivial) λ_=>(G7 y).dd.bind λf _=>((abl y m (by omega) 12 _ 1 (by omega) (by omega)).le (by omega)).bind λr _=>DD.pure trivial
theorem we {y}(h1:0<=y)(h2:y<=20000):tW y=365*y+(y+3)/4-(y+99)/100+(y+399)/400:=by
 unfold tW;rw[xG (x:=y+3) (by omega) (by omega),xG (x:=y+99) (by omega) (by omega),xG (x:=y+399) (by omega) (by omega),
  agw (by omega),agw (by omega),agw (by omega)]
 grind [xG]
theorem abm {y}(h1:0<=y):Et y=true↔(y%4=0/\(y%100≠0\/y%400=0)):=by
 grind [Et,Int.tmod_eq_emod_of_nonneg]
def P2 (y:Int):Nat->Int
 |0=>0
 |k+1=>oH y (12-k)+P2 y k
theorem ahj {y}(h1:0<=y)(h2:y<=10020):tW (y+1)-tW y=P2 y 12:=by
 rw[we (by omega) (by omega),we (by omega) (by omega)];have hl:=abm h1;have IK:∀m:Int,m≠2->oH y m=Ll.getD m.toNat 0:=λm hm=>by unfold oH;rw[AT (λx=>hm x.1)]
 have e:P2 y 12=337+oH y 2:=by
  show oH y 1+(oH y 2+(oH y 3+(oH y 4+(oH y 5+(oH y 6+(oH y 7+(oH y 8+(oH y 9+(oH y 10+(oH y 11+(oH y 12+0)))))))))))=_;have l1:oH y 1=31:=(IK 1 (by decide)).trans rfl;have l3:oH y 3=31:=(IK 3 (by decide)).trans rfl;have l4:oH y 4=30:=(IK 4 (by decide)).trans rfl;have l5:oH y 5=31:=(IK 5 (by decide)).trans rfl;have l6:oH y 6=30:=(IK 6 (by decide)).trans rfl;have l7:oH y 7=31:=(IK 7 (by decide)).trans rfl;have l8:oH y 8=31:=(IK 8 (by decide)).trans rfl;have l9:oH y 9=30:=(IK 9 (by decide)).trans rfl;have l10:oH y 10=31:=(IK 10 (by decide)).trans rfl;have l11:oH y 11=30:=(IK 11 (by decide)).trans rfl;have l12:oH y 12=31:=(IK 12 (by decide)).trans rfl;omega
 rw[e];by_cases hlp:Et y=true
 .have:=hl.1 hlp;have e2:oH y 2=29:=by unfold oH;rw[By ⟨rfl,hlp⟩]
  rw[e2];omega
 .have hn:¬(y%4=0/\(y%100≠0\/y%400=0)):=λx=>hlp (hl.2 x);have e2:oH y 2=28:=by unfold oH;rw[AT (λx=>hlp x.2)];rfl
  rw[e2];omega
theorem abn d (hd:d<=3652424):∀(k:Nat) y ,0<=y->y<=10009->tW y<=d->10009-y<=k->DD (k+1) (λr:Int=>0<=r/\r<=10009/\tW r<=d/\d<tW (r+1)) λn=>ie n d y:=by
 intro k
 induction k with
 |zero=>
  intro y h1 h0 h2 h3;exfalso;rw[we h1 (by omega)] at h2;omega
 |succ k ih=>
  intro y h1 h0 h2 h3;have hy:y<10009:=by rw[we h1 (by omega)] at h2;omega
  have ew:IntKind.i64.wrap (y+1)=y+1:=xG (by omega) (by omega);obtain⟨f,hf,hf2⟩:=(G7 (y+1)).dd (N:=0);subst hf;by_cases hle:tW (y+1)<=d
  .obtain⟨x,hx,hx2⟩:=ih (y+1) (by omega) (by omega) hle (by omega);refine⟨x,hx,λn h hn hw=>?_⟩;obtain⟨n,rfl⟩:∃m,n=m+1:=⟨n-1,by omega⟩;show Wp (ie (n+1) d y) h _;rw[vW];unfold mu;rw[ew,ah];refine (hf2 n h (by omega) hw).mono λr h1 hr=>?_;obtain⟨rfl,f1⟩:=hr;rw[By (by simpa using hle)];exact (hx2 n h1 (by omega) f1.wf).mono λw h4 hw4=>⟨hw4.1,jR hw f1 hw4.2⟩
  .refine⟨y,⟨h1,by omega,h2,by omega⟩,λn h hn hw=>?_⟩;obtain⟨n,rfl⟩:∃m,n=m+1:=⟨n-1,by omega⟩;show Wp (ie (n+1) d y) h _;rw[vW];unfold mu;rw[ew,ah];refine (hf2 n h (by omega) hw).mono λr h1 hr=>?_;obtain⟨rfl,f1⟩:=hr;rw[AT (by simpa using hle),ag];exact⟨rfl,f1⟩
theorem abo {y m}(h1:1<=m)(h2:m<=12):0<=oH y m/\oH y m<=31:=by
 unfold oH;split
 .omega
 .have:∀k:Nat,k<=12->0<=Ll.getD k 0/\Ll.getD k 0<=31:=by decide
  exact this m.toNat (by omega)
abbrev G8 (x:Int):Prop:=-9223372036854775808<=x/\x<=9223372036854775807
theorem abp y:∀k r ,1<=k->k<=12->0<=r->r<=400->r<P2 y k->DD (k+1) (λx:Int×Int=>G8 x.2) λn=>ic n r y (13-k):=by
 intro k
 induction k with
 |zero=>intro r h;omega
 |succ k ih=>
  intro r h1 h2 h3 h4 h5;have hr:P2 y (k+1)=oH y (12-k)+P2 y k:=rfl;obtain⟨l,hl,hl2⟩:=DX (N:=0) (y:=y) (m:=13-((k+1:Nat):Int)) (by omega) (by omega);have em:13-((k+1:Nat):Int)=12-k:=by omega
  rw[em] at hl hl2;have hlo:=abo (y:=y) (m:=12-k) (by omega) (by omega);rw[<-hl] at hlo hr;rw[em];by_cases hle:l<=r
  .by_cases hk:k=0
   .subst hk;have:P2 y 0=0:=rfl;omega
   have ew:IntKind.i64.wrap (r-l)=r-l:=xG (by omega) (by omega);have ew2:IntKind.i64.wrap (12-(k:Int)+1)=13-k:=by rw[xG (by omega) (by omega)];omega
   obtain⟨x,hxi,hx2⟩:=ih (r-l) (by omega) (by omega) (by omega) (by omega) (by omega);refine⟨x,hxi,λn h hn hw=>?_⟩;obtain⟨n,rfl⟩:∃m,n=m+1:=⟨n-1,by omega⟩;show Wp (ic (n+1) r y (12-k)) h _;rw[vV];unfold mr;rw[ah];refine (hl2 n h (by omega) hw).mono λv h1 hv=>?_;obtain⟨rfl,f1⟩:=hv;rw[By (by simpa using hle),ah];refine (hl2 n h1 (by omega) f1.wf).mono λv h2 hv=>?_;obtain⟨rfl,f2⟩:=hv;rw[ew,ew2];exact (hx2 n h2 (by omega) f2.wf).mono λw h4 hw4=>⟨hw4.1,jR hw f1 (jR f1.wf f2 hw4.2)⟩
  .refine⟨(r,12-k),by constructor<;>simp<;>omega,λn h hn hw=>?_⟩;obtain⟨n,rfl⟩:∃m,n=m+1:=⟨n-1,by omega⟩;show Wp (ic (n+1) r y (12-k)) h _;rw[vV];unfold mr;rw[ah];refine (hl2 n h (by omega) hw).mono λv h1 hv=>?_;obtain⟨rfl,f1⟩:=hv;rw[AT (by simpa using hle),ag];exact⟨rfl,f1⟩
theorem abq d:DD 10020 (λx:Int×Int×Int×Int=>G8 x.1/\G8 x.2.1/\G8 x.2.2.1) λn=>vX n d:=by
 refine DD.ite (λ_=>DD.pure (by decide)) λh1=>DD.ite (λ_=>DD.pure (by decide)) λh2=>?_;simp only[acu] at h1 h2;have ew:IntKind.i64.wrap (d+719528)=d+719528:=xG (by omega) (by omega);have ew2:IntKind.i64.wrap ((d+719528).tdiv 366)=(d+719528)/366:=by
  grind [Int.tdiv_eq_ediv_of_nonneg,xG]
 unfold qw;rw[ew,ew2];refine (DD.ck (by decide)).bind λ_ _=>((abn (d+719528) (by omega) 10009 ((d+719528)/366) (by omega) (by omega) (by rw[we (by omega) (by omega)];omega) (by omega)).le (by omega)).bind λy hy=>(G7 y).dd.bind λf hf=>?_;have hr:=ahj hy.1 (by omega);have hfl:0<=tW y:=by rw[we hy.1 (by omega)];omega
 have h400:tW (y+1)-tW y<=400:=by grind [we]
 subst hf;rw[xG (by omega) (by omega)];exact ((abp y 12 (d+719528-tW y) (by omega) (by omega) (by omega) (by omega) (by omega)).le (by omega)).bind λx hx=>DD.pure ⟨⟨by simp;omega,by simp;omega⟩,hx,PZ _⟩
end
section
variable {α β:Type}{h h' h0:ai}{L:List bG}{Q:β->ai->Prop}{N M':Nat}
abbrev Mo:=Int×Int×Int×Int×Int×Int×Int×Int×Int×Int×Int
abbrev moL:List wu:=[li,li,li,li,li,li,li,li,li,li,.int .u8]
def mv (x:Mo):δ:=[vi x.1,vi x.2.1,vi x.2.2.1,vi x.2.2.2.1,vi x.2.2.2.2.1,vi x.2.2.2.2.2.1,vi x.2.2.2.2.2.2.1,vi x.2.2.2.2.2.2.2.1,vi x.2.2.2.2.2.2.2.2.1,vi x.2.2.2.2.2.2.2.2.2.1,v8 x.2.2.2.2.2.2.2.2.2.2]
def DM (N:Nat)(x:Mo)(P:α->Prop)(m:Nat->Nat->M α):Prop:=∃r,P r/\∀n h0 h b,N<=n->Z h0 h [.au b (mv x) bQ]->Wp (m n b) h λy h'=>y=r/\Z h0 h' [.au b (mv x) bQ]
variable {x:Mo}
theorem DM.pure {P:α->Prop}{r}(hr:P r):DM N x P λ_ _=>AI r:=⟨r,hr,λn h0 h b _ z=>ag.2 ⟨rfl,z⟩⟩
theorem DM.ite {P:α->Prop}{c}[Decidable c]{f g}(ha:c->DM N x P f)(hb:¬c->DM N x P g):DM N x P λn a=>if c then f n a else g n a:=by
 by_cases hc:c
 .simp_all
 simp_all
theorem DM.dd {P R m}{f:Nat->Nat->α->M β}(hm:DD N P m)(hf:∀y,P y->DM N x R λn a=>f n a y):DM N x R λn a=>sh (m n) (f n a):=by
 obtain⟨y,hy,h1⟩:=hm;obtain⟨r,hr,h2⟩:=hf y hy;refine⟨r,hr,λn h0 h b hn z=>?_⟩;show Wp (sh (m n) (f n b)) h _;rw[ah];refine (h1 n h hn z.wf).mono λw h3 hw=>?_;obtain⟨rfl,f3⟩:=hw;exact h2 n h0 h3 b hn (z.pure f3)
theorem DM.ddc {P R m}{f:Nat->Nat->α->M β}{ads:Nat->List θ}(hm:DD N P m)(ha:∀b,∀a∈ads b,∀c,a=some c->c.block=b)(hf:∀y,P y->DM N x R λn a=>f n a y) :
  DM N x R λn a=>sh (Ago.k8 (ads a) (m n)) (f n a):=by
 obtain⟨y,hy,h1⟩:=hm;obtain⟨r,hr,h2⟩:=hf y hy;refine⟨r,hr,λn h0 h b hn z=>?_⟩;show Wp (sh (Ago.k8 (ads b) (m n)) (f n b)) h _;rw[ah];have l:LB h b _ _:=z.get 0 rfl;refine Dj ((h1 n h hn z.wf).mono λw h3 hw=>?_);obtain⟨rfl,f3⟩:=hw;refine⟨λa hma=>?_,h2 n h0 h3 b hn (z.pure f3)⟩;rw[ha b _ hma a rfl,l.get];exact f3.cells _ _ _ _ _ l.get λx=>x.elim
theorem DM.ld {R o l}{g:Nat->Addr}{v w}{f:Nat->Nat->l.den->M β}(hg:∀b,g b=⟨b,o,none⟩)(hv:(mv x)[o]?=some v)(hw:Ae l v=some w)(hf:DM N x R λn a=>f n a w):DM N x R λn a=>sh (aq l (g a)) (f n a):=by
 obtain⟨r,hr,h2⟩:=hf;refine⟨r,hr,λn h0 h b hn z=>?_⟩;show Wp (sh (aq l (g b)) (f n b)) h _;rw[hg b];exact z.ld 0 (h2 n h0 h b hn z) rfl hv hw
theorem DM.iN {R}{f:Nat->Nat->Mo->M β}(hf:DM N x R λn a=>f n a x):DM N x R λn a=>sh (aE moL (al a)) (f n a):=by
 obtain⟨r,hr,h2⟩:=hf;refine⟨r,hr,λn h0 h b hn z=>?_⟩;show Wp (sh (aE moL (al b)) (f n b)) h _;exact z.iN 0 (h2 n h0 h b hn z)
theorem DM.ck {R c}{f:Nat->Nat->Unit->M β}(hc:c=true)(hf:DM N x R λn a=>f n a ()):DM N x R λn a=>sh (px c) (f n a):=DM.dd (DD.ck hc) λ_ _=>hf
theorem DM.run {P:α->Prop}{m}(hm:DM N x P m):DD N P λn=>sh (aF none bQ (mv x)) λb=>m n b:=by
 obtain⟨r,hr,h1⟩:=hm;exact⟨r,hr,λn h hn hw=>(Z.start hw).new λb h1' z1 f1=>(h1 n h h1' b hn z1).mono λy h2 h3=>⟨h3.1,h3.2.fr⟩⟩
theorem DM.le {P:α->Prop}{m}(hm:DM N x P m)(hl:N<=M'):DM M' x P m:=let ⟨r,hr,h1⟩:=hm;⟨r,hr,λn h0 h b hn z=>h1 n h0 h b (by omega) z⟩
theorem DD.cat {x y}(hs:x.size+y.size<=1000000):DD N (λz:ζ=>z.size=x.size+y.size) λ_=>nN x y:=(PP.cat (by unfold cF;omega)).dd
theorem abr:∀l c ,(Lib.repeatL l c).length=c*l.length:=λl c=>Lib.repeatL_length l c
theorem BN {a w}(ha:G8 a)(hw:0<=w/\w<=9):DD N (λx:ζ=>x.size<=30) λn=>iU n a w:=by
 unfold iU;refine (ady ha.1 ha.2).dd.bind λx0 h0=>?_;have hc:0<=(if 0<IntKind.i64.wrap (w-(x0.size:Int)) then IntKind.i64.wrap (w-(x0.size:Int)) else 0)/\(if 0<IntKind.i64.wrap (w-(x0.size:Int)) then IntKind.i64.wrap (w-(x0.size:Int)) else 0)<=9:=by
  grind [xG]
 generalize (if 0<IntKind.i64.wrap (w-(x0.size:Int)) then IntKind.i64.wrap (w-(x0.size:Int)) else 0)=c at hc⊢;refine DD.bind (P:=λx:ζ=>x.size<=9) ?_ λx1 h1=>(DD.cat (by omega)).bind λx2 h2=>DD.pure (by omega);unfold strings_Repeat;have h48:(ofBytes [48]).size=1:=rfl;refine (PP.ite (λ_=>PP.pure ?_) λhn=>absurd ⟨hc.1,by omega,by omega⟩ hn).dd;show (Lib.repeatL [48] c.toNat).toArray.size<=9
 grind [List.size_toArray,abr]
def BQ (x:Mo):Prop:=G8 x.2.1/\G8 x.2.2.1/\G8 x.2.2.2.1/\G8 x.2.2.2.2.1/\G8 x.2.2.2.2.2.1/\G8 x.2.2.2.2.2.2.1/\G8 x.2.2.2.2.2.2.2.2.2.1
theorem afk l c:(Lib.trimRightB l c).length<=l.length:=by
 grind [Lib.trimRightB,List.dropWhile_sublist]
theorem Rn (hx:BQ x){s}(hs:s.size<=200):DM N x (λr:ζ=>r.size<=300) λn a=>eQ n (al a) s:=by
 unfold eQ;have h46:(ofBytes [46]).size=1:=rfl;refine DM.ld (o:=9) (λ_=>rfl) rfl rfl (DM.ite (λ_=>DM.ld (o:=9) (λ_=>rfl) rfl rfl (DM.dd (BN hx.2.2.2.2.2.2 (by omega)) λx2 h2=>DM.dd (P:=λy:ζ=>y.size<=30) ?_ λx3 h3=>DM.dd (DD.cat (by omega)) λx4 h4=>DM.dd (DD.cat (by omega)) λx5 h5=>DM.pure (by omega))) λ_=>DM.pure (by omega));refine⟨⟨(Lib.trimRightB x2.data.toList 48).toArray⟩,?_,λn h _ hw=>?_⟩
 .show (Lib.trimRightB x2.data.toList 48).toArray.size<=30;have:=afk x2.data.toList 48;have h5:x2.data.toList.length=x2.size:=rfl
  grind
 .show Wp (fq n x2 (ofBytes [48])) h _;unfold fq;show Wp (if (48:UInt8).toNat<128/\x2.size<=9223372036854775807 then AI (⟨(Lib.trimRightB x2.data.toList 48).toArray⟩:ζ) else AS) h _;rw[By ⟨by decide,by omega⟩];exact ag.2 ⟨rfl,Fr.refl hw⟩
theorem FE (hx:BQ x){s}(hs:s.size<=100):DM N x (λr:ζ=>r.size<=300) λn a=>cD n (al a) s:=by
 unfold cD;have h58:(ofBytes [58]).size=1:=rfl;refine DM.ld (o:=0) (λ_=>rfl) rfl rfl (DM.ite (λ_=>DM.ck (by decide) (DM.ck (by decide) (DM.ck (by decide) (DM.ld (o:=4) (λ_=>rfl) rfl rfl (DM.ld (o:=5) (λ_=>rfl) rfl rfl (DM.ld (o:=6) (λ_=>rfl) rfl rfl ?_)))))) λ_=>Rn hx (by omega));refine DM.ddc (BN hx.2.2.2.1 (by omega)) (λb a hm c hc=>by grind [Addr.plus]) λx7 h7=>DM.dd (DD.cat (by omega)) λx8 h8=>?_;refine DM.ddc (BN hx.2.2.2.2.1 (by omega)) (λb a hm c hc=>by subst hc;simp[Addr.plus] at hm;subst hm;rfl) λx9 h9=>DM.dd (DD.cat (by omega)) λfD h10=>DM.dd (DD.cat (by omega)) λx11 h11=>?_;exact DM.dd (BN hx.2.2.2.2.2.1 (by omega)) λx12 h12=>DM.dd (DD.cat (by omega)) λx13 h13=>DM.dd (DD.cat (by omega)) λjj h14=>Rn hx (by omega)
theorem Ro (hx:BQ x):DD N (λr:ζ=>r.size<=300) λn=>fZ n x:=by
 unfold fZ;refine DM.run ?_;have h45:(ofBytes [45]).size=1:=rfl;have h84:(ofBytes [84]).size=1:=rfl;have h00:(ofBytes []).size=0:=rfl;refine DM.ld (o:=0) (λ_=>rfl) rfl rfl (DM.ite (λ_=>DM.ck (by decide) (DM.ck (by decide) (DM.ck (by decide) (DM.ld (o:=1) (λ_=>rfl) rfl rfl (DM.ld (o:=2) (λ_=>rfl) rfl rfl (DM.ld (o:=3) (λ_=>rfl) rfl rfl ?_)))))) λ_=>?_)
 .refine DM.ddc (BN hx.1 (by omega)) (λb a hm c hc=>by grind [Addr.plus]) λx8 h8=>DM.dd (DD.cat (by omega)) λx9 h9=>?_;refine DM.ddc (BN hx.2.1 (by omega)) (λb a hm c hc=>by subst hc;simp[Addr.plus] at hm;subst hm;rfl) λfD h10=>DM.dd (DD.cat (by omega)) λx11 h11=>DM.dd (DD.cat (by omega)) λx12 h12=>?_;refine DM.dd (BN hx.2.2.1 (by omega)) λx13 h13=>DM.dd (DD.cat (by omega)) λjj h14=>DM.ld (λ_=>rfl) rfl rfl (DM.ite (λ_=>DM.dd (DD.cat (by omega)) λrz h16=>FE hx (by omega)) λ_=>FE hx (by omega))
 .exact DM.ld (λ_=>rfl) rfl rfl (DM.ite (λ_=>DM.dd (DD.cat (by omega)) λrz h16=>FE hx (by omega)) λ_=>FE hx (by omega))
end
section
variable {α β:Type}{h h' h0:ai}{L:List bG}{Q:β->ai->Prop}{N M':Nat}
structure Bk where
 b0:Nat
 b1:Nat
 b2:Nat
 b3:Nat
 b5:Nat
structure Sg where
 x:Mo
 pos:Int
 y:Mo
abbrev ND (B:Bk):ξ:=Value.func (Fn.func pZ) #[] #[Value.pointer (some (al B.b3)),Value.pointer (some (al B.b0))]
abbrev SL (s:ζ)(B:Bk)(σ:Sg):List bG:=[.au B.b5 [ND B] vL,.au B.b3 [vi σ.pos] an,.au B.b2 (mv σ.x) bQ,.au B.b1 (mv σ.y) bQ,.au B.b0 [.string s] Ng]
def DS (N:Nat)(s:ζ)(σ:Sg)(P:α->Sg->Prop)(m:Nat->Bk->M α):Prop:=∃r σ',P r σ'/\∀n B h0 h,N<=n->Z h0 h (SL s B σ)->Wp (m n B) h λy h'=>y=r/\Z h0 h' (SL s B σ')
variable {s:ζ}{σ:Sg}
theorem DS.pure {P:α->Sg->Prop}{r}(hr:P r σ):DS N s σ P λ_ _=>AI r:=⟨r,σ,hr,λn B h0 h _ z=>ag.2 ⟨rfl,z⟩⟩
theorem DS.bind {P R m}{f:Nat->Bk->α->M β}(hm:DS N s σ P m)(hf:∀x σ',P x σ'->DS N s σ' R λn B=>f n B x):DS N s σ R λn B=>sh (m n B) (f n B):=by
 obtain⟨x,σ1,hx,h1⟩:=hm;obtain⟨y,σ2,hy,h2⟩:=hf x σ1 hx;refine⟨y,σ2,hy,λn B h0 h hn z=>?_⟩;show Wp (sh (m n B) (f n B)) h _;rw[ah];refine (h1 n B h0 h hn z).mono λw h3 hw=>?_;obtain⟨rfl,z3⟩:=hw;exact h2 n B h0 h3 hn z3
theorem DS.ite {P:α->Sg->Prop}{c}[Decidable c]{a b}(ha:c->DS N s σ P a)(hb:¬c->DS N s σ P b):DS N s σ P λn B=>if c then a n B else b n B:=by
 by_cases hc:c
 .simp_all
 simp_all
theorem DS.mono {P P':α->Sg->Prop}{m}(hm:DS N s σ P m)(hp:∀x σ',P x σ'->P' x σ'):DS N s σ P' m:=let ⟨x,σ1,hx,h1⟩:=hm;⟨x,σ1,hp _ _ hx,h1⟩
theorem DS.le {P:α->Sg->Prop}{m}(hm:DS N s σ P m)(hl:N<=M'):DS M' s σ P m:=let ⟨x,σ1,hx,h1⟩:=hm;⟨x,σ1,hx,λn B h0 h hn z=>h1 n B h0 h (by omega) z⟩
theorem DS.succ {P:α->Sg->Prop}{l m}(he:∀n B,l (n+1) B=m n B)(hm:DS N s σ P m):DS (N+1) s σ P l:=by
 obtain⟨x,σ1,hx,h1⟩:=hm;refine⟨x,σ1,hx,λn B h0 h hn z=>?_⟩;obtain⟨n,rfl⟩:∃m,n=m+1:=⟨n-1,by omega⟩;rw[he];exact h1 n B h0 h (by omega) z
theorem DS.Ei {R}{f:Nat->Bk->Int->M β}(hf:DS N s σ R λn B=>f n B σ.pos):DS N s σ R λn B=>sh (aq li (al B.b3)) (f n B):=by
 obtain⟨r,σ1,hr,h2⟩:=hf;exact⟨r,σ1,hr,λn B h0 h hn z=>z.ld 1 (h2 n B h0 h hn z)⟩
theorem DS.stP {R v}{f:Nat->Bk->Unit->M β}(hf:DS N s { σ with pos:=v } R λn B=>f n B ()):DS N s σ R λn B=>sh (bh (al B.b3) [vi v]) (f n B):=by
 obtain⟨r,σ1,hr,h2⟩:=hf;exact⟨r,σ1,hr,λn B h0 h hn z=>z.st 1 λh' z'=>h2 n B h0 h' hn z'⟩
theorem DS.Ht {R}{f:Nat->Bk->ζ->M β}(hf:DS N s σ R λn B=>f n B s):DS N s σ R λn B=>sh (aq .str (al B.b0)) (f n B):=by
 obtain⟨r,σ1,hr,h2⟩:=hf;exact⟨r,σ1,hr,λn B h0 h hn z=>z.ld 4 (h2 n B h0 h hn z)⟩
theorem DS.ldF {R}{f:Nat->Bk->ξ->M β}(hf:DS N s σ R λn B=>f n B (ND B)):DS N s σ R λn B=>sh (aq .raw (al B.b5)) (f n B):=by
 obtain⟨r,σ1,hr,h2⟩:=hf;exact⟨r,σ1,hr,λn B h0 h hn z=>z.ld 0 (h2 n B h0 h hn z)⟩
theorem DS.ix {R}{i:Int}{f:Nat->Bk->UInt8->M β}(h1:0<=i)(h2:i<s.size)(hf:∀c,DS N s σ R λn B=>f n B c):DS N s σ R λn B=>sh (oL s i) (f n B):=by
 have hlt:i.toNat<s.size:=by omega
 obtain⟨r,σ1,hr,h3⟩:=hf s[i.toNat];refine⟨r,σ1,hr,λn B h0 h hn z=>?_⟩;show Wp (sh (oL s i) (f n B)) h _;rw[ah,jW]
 grind
theorem DS.fn {ts R}{v:Bk->ξ}{c:Bk->aY ts}{f:Nat->Bk->aY ts->M β}(hx:∀B,wv ts (FO (v B))=some (c B))(hf:DS N s σ R λn B=>f n B (c B)):DS N s σ R λn B=>sh (k7 ts (v B)) (f n B):=by
 grind [Wp,sh,k7,ah,jn]
def Ut (x:Mo)(j:Nat)(v:Int):Mo:=
 match j with
 |0=>(v,x.2)
 |1=>(x.1,v,x.2.2)
 |2=>(x.1,x.2.1,v,x.2.2.2)
 |3=>(x.1,x.2.1,x.2.2.1,v,x.2.2.2.2)
 |4=>(x.1,x.2.1,x.2.2.1,x.2.2.2.1,v,x.2.2.2.2.2)
 |5=>(x.1,x.2.1,x.2.2.1,x.2.2.2.1,x.2.2.2.2.1,v,x.2.2.2.2.2.2)
 |6=>(x.1,x.2.1,x.2.2.1,x.2.2.2.1,x.2.2.2.2.1,x.2.2.2.2.2.1,v,x.2.2.2.2.2.2.2)
 |7=>(x.1,x.2.1,x.2.2.1,x.2.2.2.1,x.2.2.2.2.1,x.2.2.2.2.2.1,x.2.2.2.2.2.2.1,v,x.2.2.2.2.2.2.2.2)
 |8=>(x.1,x.2.1,x.2.2.1,x.2.2.2.1,x.2.2.2.2.1,x.2.2.2.2.2.1,x.2.2.2.2.2.2.1,x.2.2.2.2.2.2.2.1,v,x.2.2.2.2.2.2.2.2.2)
 |_=>(x.1,x.2.1,x.2.2.1,x.2.2.2.1,x.2.2.2.2.1,x.2.2.2.2.2.1,x.2.2.2.2.2.2.1,x.2.2.2.2.2.2.2.1,x.2.2.2.2.2.2.2.2.1,v,x.2.2.2.2.2.2.2.2.2.2)
def getM (x:Mo)(j:Nat):Int:=
 match j with
 |0=>x.1|1=>x.2.1|2=>x.2.2.1|3=>x.2.2.2.1|4=>x.2.2.2.2.1|5=>x.2.2.2.2.2.1|6=>x.2.2.2.2.2.2.1|7=>x.2.2.2.2.2.2.2.1|8=>x.2.2.2.2.2.2.2.2.1|_=>x.2.2.2.2.2.2.2.2.2.1
theorem afm {j}(h:j<=9):j=0\/j=1\/j=2\/j=3\/j=4\/j=5\/j=6\/j=7\/j=8\/j=9:=by omega
theorem X8 {x j v}(hj:j<=9):aU (mv x) j [vi v]=mv (Ut x j v):=by
 rcases afm hj with rfl|rfl|rfl|rfl|rfl|rfl|rfl|rfl|rfl|rfl<;>rfl
theorem Rp {x j}(hj:j<=9):(mv x)[j]?=some (vi (getM x j)):=by
 rcases afm hj with rfl|rfl|rfl|rfl|rfl|rfl|rfl|rfl|rfl|rfl<;>rfl
theorem CF {x j v}(hj:j<=9)(hx:BQ x)(hv:G8 v):BQ (Ut x j v):=by
 obtain⟨h1,h2,h3,h4,h5,h6,h7⟩:=hx;rcases afm hj with rfl|rfl|rfl|rfl|rfl|rfl|rfl|rfl|rfl|rfl<;>(unfold Ut BQ;simp only;exact⟨by assumption,by assumption,by assumption,by assumption,by assumption,by assumption,by assumption⟩)
theorem DS.ldX {R j}{g:Bk->Addr}{f:Nat->Bk->Int->M β}(hg:∀B,g B=⟨B.b2,j,none⟩)(hj:j<=9)(hf:DS N s σ R λn B=>f n B (getM σ.x j)):DS N s σ R λn B=>sh (aq li (g B)) (f n B):=by
 obtain⟨r,σ1,hr,h2⟩:=hf;refine⟨r,σ1,hr,λn B h0 h hn z=>?_⟩;show Wp (sh (aq li (g B)) (f n B)) h _;rw[hg];exact z.ld 2 (h2 n B h0 h hn z) rfl (Rp hj) rfl
theorem DS.stX {R j v}{g:Bk->Addr}{f:Nat->Bk->Unit->M β}(hg:∀B,g B=⟨B.b2,j,none⟩)(hj:j<=9)(hf:DS N s { σ with x:=Ut σ.x j v } R λn B=>f n B ()):DS N s σ R λn B=>sh (bh (g B) [vi v]) (f n B):=by
 obtain⟨r,σ1,hr,h2⟩:=hf;refine⟨r,σ1,hr,λn B h0 h hn z=>?_⟩;show Wp (sh (bh (g B) [vi v]) (f n B)) h _;rw[hg];exact z.st 2 (λh' z'=>h2 n B h0 h' hn z') rfl (X8 hj) (by show j+1<=11;omega)
def afn (x:Mo)(v:Int):Mo:=(x.1,x.2.1,x.2.2.1,x.2.2.2.1,x.2.2.2.2.1,x.2.2.2.2.2.1,x.2.2.2.2.2.2.1,x.2.2.2.2.2.2.2.1,x.2.2.2.2.2.2.2.2.1,x.2.2.2.2.2.2.2.2.2.1,v)
theorem DS.ldZ {R}{f:Nat->Bk->Int->M β}(hf:DS N s σ R λn B=>f n B σ.x.2.2.2.2.2.2.2.2.2.2):DS N s σ R λn B=>sh (aq (.int .u8) ((al B.b2).plus 10)) (f n B):=by
 obtain⟨r,σ1,hr,h2⟩:=hf;exact⟨r,σ1,hr,λn B h0 h hn z=>z.ld 2 (h2 n B h0 h hn z)⟩
theorem DS.stZ {R v}{f:Nat->Bk->Unit->M β}(hf:DS N s { σ with x:=afn σ.x v } R λn B=>f n B ()):DS N s σ R λn B=>sh (bh ((al B.b2).plus 10) [v8 v]) (f n B):=by
 obtain⟨r,σ1,hr,h2⟩:=hf;exact⟨r,σ1,hr,λn B h0 h hn z=>z.st 2 (λh' z'=>h2 n B h0 h' hn z') rfl rfl (abi 11)⟩
theorem DS.iN {R}{f:Nat->Bk->Mo->M β}(hf:DS N s σ R λn B=>f n B σ.x):DS N s σ R λn B=>sh (aE moL (al B.b2)) (f n B):=by
 obtain⟨r,σ1,hr,h2⟩:=hf;exact⟨r,σ1,hr,λn B h0 h hn z=>z.iN 2 (h2 n B h0 h hn z)⟩
theorem DS.ahm {R}{f:Nat->Bk->Mo->M β}(hf:DS N s σ R λn B=>f n B σ.y):DS N s σ R λn B=>sh (aE moL (al B.b1)) (f n B):=by
 obtain⟨r,σ1,hr,h2⟩:=hf;exact⟨r,σ1,hr,λn B h0 h hn z=>z.iN 3 (h2 n B h0 h hn z)⟩
theorem DS.stY {R x}{f:Nat->Bk->Unit->M β}(hf:DS N s { σ with y:=x } R λn B=>f n B ()):DS N s σ R λn B=>sh (bh (al B.b1) (mv x)) (f n B):=by
 obtain⟨r,σ1,hr,h2⟩:=hf;exact⟨r,σ1,hr,λn B h0 h hn z=>z.st 3 (λh' z'=>h2 n B h0 h' hn z') rfl rfl (abi _)⟩
theorem DS.aiP {R x}{f:Nat->Bk->Unit->M β}(hf:DS N s { σ with y:=x } R λn B=>f n B ()):DS N s σ R λn B=>sh (Ago.k8 [some (al B.b3),some (al B.b0)] (bh (al B.b1) (mv x))) (f n B):=by
 obtain⟨r,σ1,hr,h2⟩:=hf;refine⟨r,σ1,hr,λn B h0 h hn z=>?_⟩;show Wp (sh (Ago.k8 [some (al B.b3),some (al B.b0)] (bh (al B.b1) (mv x))) (f n B)) h _;rw[ah];refine Dj ?_;have l0:LB h B.b0 _ _:=z.get 4 rfl;have l3:LB h B.b3 _ _:=z.get 1 rfl;have key:Wp (sh (bh (al B.b1) (mv x)) AI) h λy h'=>Z h0 h' (SL s B { σ with y:=x }):=z.st 3 (λh' z'=>ag.2 z') rfl rfl (abi _);rw[ah] at key;refine key.mono λy h' hz=>?_;have z':=ag.1 hz;have m0:LB h' B.b0 _ _:=z'.get 4 rfl;have m3:LB h' B.b3 _ _:=z'.get 1 rfl;refine⟨λa hm=>?_,h2 n B h0 h' hn z'⟩;simp at hm;rcases hm with rfl|rfl
 .show h'.get B.b3=h.get B.b3;rw[l3.get,m3.get]
 .show h'.get B.b0=h.get B.b0;rw[l0.get,m0.get]
def OKr (r:Mo×Bool)(_:Sg):Prop:=BQ r.1
structure B0 (s:ζ) (σ:Sg):Prop where
 lo:0<=σ.pos
 hi:σ.pos<=s.size
 ok:BQ σ.x
theorem X9 x:G8 (IntKind.i64.wrap x):=PZ x
theorem B0.fwd (i:B0 s σ)(hs:s.size<=1000000)(h:σ.pos<s.size):B0 s { σ with pos:=IntKind.i64.wrap (σ.pos+1) }:=by
 have:=i.lo;refine⟨?_,?_,i.ok⟩<;>simp<;>rw[xG (by omega) (by omega)]<;>omega
def aiQ (s:ζ)(r:Int⊕(Int×Bool))(σ:Sg):Prop:=B0 s σ/\(match r with | .inl v=>G8 v | .inr p=>G8 p.1)
theorem afo (hs:s.size<=1000000):∀(k:Nat) (c v i:Int) σ ,B0 s σ->0<=i->c-i<=k->c<=100->G8 v->DS (k+1) s σ (aiQ s) λn B=>fu n (al B.b3) (al B.b0) v c i:=by
 intro k
 induction k with
 |zero=>
  intro c v i σ iv hi hk hc hv;refine DS.succ (m:=λn B=>fX (fu n) n (al B.b3) (al B.b0) v c i) (λ_ _=>rfl) ?_;unfold fX;exact DS.ite (λh1=>by simp at h1;omega) λ_=>DS.pure ⟨iv,hv⟩
 |succ k ih=>
  intro c v i σ iv hi hk hc hv;refine DS.succ (m:=λn B=>fX (fu n) n (al B.b3) (al B.b0) v c i) (λ_ _=>rfl) ?_;unfold fX;have z64:G8 0:=by constructor<;>omega
  refine DS.ite (λh1=>DS.Ei (DS.Ht (DS.ite (λ_=>DS.pure ⟨iv,z64⟩) λh2=>?_))) λ_=>DS.pure ⟨iv,hv⟩;simp only[acu] at h1 h2;have h3:σ.pos<s.size:=by omega
  refine DS.Ht (DS.Ei (DS.ix iv.lo h3 λc1=>DS.ite (λ_=>DS.pure ⟨iv,z64⟩) λ_=>DS.Ht (DS.Ei (DS.ix iv.lo h3 λc2=>DS.ite (λ_=>DS.pure ⟨iv,z64⟩) λ_=>?_))));unfold kL;have e:IntKind.i64.wrap (i+1)=i+1:=xG (by omega) (by omega);refine DS.Ht (DS.Ei (DS.ix iv.lo h3 λc3=>DS.Ei (DS.stP ?_)));rw[e];exact ih _ _ _ _ (iv.fwd hs h3) (by omega) (by omega) hc (X9 _)
theorem afp (hs:s.size<=1000000){c}(h1:0<=c)(h2:c<=9){σ}(iv:B0 s σ):DS 10 s σ (λ(r:Int×Bool) σ'=>B0 s σ'/\G8 r.1) λn B=>gJ n (ND B) c:=by
 have he:∀n B,gJ n (ND B) c=sh (k7 [aB,aB] (ND B)) λ(x:Addr×Addr)=>jz n c x.1 x.2:=λn B=>by
  unfold gJ;rw[By (show qo pZ (ND B)=true from rfl)]
 suffices hh:DS 10 s σ (λ(r:Int×Bool) σ'=>B0 s σ'/\G8 r.1) λn B=>sh (k7 [aB,aB] (ND B)) λ(x:Addr×Addr)=>jz n c x.1 x.2 by
  grind
 refine DS.fn (c:=λB=>(al B.b3,al B.b0)) (λB=>rfl) ?_;unfold jz;refine DS.bind ((afo hs 9 c 0 0 σ iv (by omega) (by omega) (by omega) (by constructor<;>omega)).le (by omega)) λr σ1 hr=>?_;cases r with
 |inl v=>exact DS.pure ⟨hr.1,hr.2⟩
 |inr p=>exact DS.pure ⟨hr.1,hr.2⟩
abbrev Ya (B:Bk)(lo len cap:Nat):Sl:=⟨some ⟨B.b2,lo,none⟩,len,cap⟩
theorem DS.ixA {R i}{lo len cap:Nat}{f:Nat->Bk->Addr->M β}(h1:0<=i)(h2:i<(len:Int))(hf:DS N s σ R λn B=>f n B ⟨B.b2,lo+i.toNat,none⟩):DS N s σ R λn B=>sh (ar (Ya B lo len cap) i 1) (f n B):=by
 obtain⟨r,σ1,hr,h3⟩:=hf;refine⟨r,σ1,hr,λn B h0 h hn z=>?_⟩;show Wp (sh (ar (Ya B lo len cap) i 1) (f n B)) h _;rw[ah,xW];refine⟨_,rfl,h1,h2,?_⟩;have e:(Addr.plus ⟨B.b2,lo,none⟩ (i.toNat*1))=⟨B.b2,lo+i.toNat,none⟩:=by simp[Addr.plus]
 rw[e];exact h3 n B h0 h hn z
def ahn (s:ζ)(_:Unit⊕Bool)(σ:Sg):Prop:=B0 s σ
theorem afq (hs:s.size<=1000000){lo len cap:Nat}(hl:lo+len<=10) fst sep (hf:0<=fst/\fst<=9):∀(k:Nat) i σ ,B0 s σ->0<=i->(len:Int)-i<=k->DS (k+11) s σ (ahn s) λn B=>eH n (Ya B lo len cap) fst sep (al B.b3) (al B.b0) (al B.b5) len i:=by
 intro k
 induction k with
 |zero=>
  intro i σ iv hi hk;refine DS.succ (m:=λn B=>fY (eH n) n (Ya B lo len cap) fst sep (al B.b3) (al B.b0) (al B.b5) len i) (λ_ _=>rfl) ?_;unfold fY;exact DS.ite (λh1=>by simp at h1;omega) λ_=>DS.pure iv
 |succ k ih=>
  intro i σ iv hi hk;have e:IntKind.i64.wrap (i+1)=i+1\/¬(i<len):=by
   by_cases h:i<len
   .grind [xG]
   .exact .inr h
  have tail:∀{σ:Sg} (w:Int),B0 s σ->0<=w/\w<=9->i<(len:Int)->DS (k+11) s σ (ahn s) λn B=>dB (eH n) n (Ya B lo len cap) fst sep (al B.b3) (al B.b0) (al B.b5) i w len i:=by
   intro σ w iv hw hlt;unfold dB;refine DS.ldF (DS.bind ((afp hs hw.1 hw.2 iv).le (by omega)) λr σ1 hr=>DS.ite (λ_=>DS.pure hr.1) λ_=>DS.ixA hi hlt (DS.stX (j:=lo+i.toNat) (λ_=>rfl) (by omega) ?_));rw[e.resolve_right λh=>h hlt];exact ih (i+1) _ ⟨hr.1.lo,hr.1.hi,CF (by omega) hr.1.ok hr.2⟩ (by omega) (by omega)
  refine DS.succ (m:=λn B=>fY (eH n) n (Ya B lo len cap) fst sep (al B.b3) (al B.b0) (al B.b5) len i) (λ_ _=>rfl) ?_;unfold fY;refine DS.ite (λh1=>?_) λ_=>DS.pure iv;simp at h1;refine DS.ite (λh2=>DS.Ei (DS.Ht (DS.ite (λ_=>DS.pure iv) λh3=>?_))) λh2=>?_
  .simp only[acu] at h2 h3;have h4:σ.pos<s.size:=by omega
   refine DS.Ht (DS.Ei (DS.ix iv.lo h4 λc=>DS.ite (λ_=>DS.pure iv) λ_=>DS.Ei (DS.stP ?_)));have iv2:=iv.fwd hs h4;exact DS.ite (λ_=>tail fst iv2 hf h1) λ_=>tail 2 iv2 (by omega) h1
  .exact DS.ite (λ_=>tail fst iv hf h1) λ_=>tail 2 iv (by omega) h1
abbrev y8 (B:Bk):ξ:=Value.func (Fn.func eg) #[] #[Value.pointer (some (al B.b3)),Value.pointer (some (al B.b0)),Value.pointer (some (al B.b5))]
theorem afr (hs:s.size<=1000000){lo len cap}(hl:lo+len<=10) fst sep (hf:0<=fst/\fst<=9){σ}(iv:B0 s σ):DS 30 s σ (λ(_:Bool) σ'=>B0 s σ') λn B=>eA n (Ya B lo len cap) fst sep (al B.b3) (al B.b0) (al B.b5):=by
 unfold eA;refine DS.bind ((afq hs hl fst sep hf 10 0 σ iv (by omega) (by omega)).le (by omega)) λr σ1 hr=>?_;cases r with
 |inl v=>exact DS.pure hr
 |inr p=>exact DS.pure hr
theorem Lm (hs:s.size<=1000000){lo len cap}(hl:lo+len<=10) fst sep (hf:0<=fst/\fst<=9){σ}(iv:B0 s σ){D:Nat->ξ->Sl->Int->Int->M Bool}
  (hd:∀n B a,D n (y8 B) a fst sep=sh (k7 [aB,aB,aB] (y8 B)) λ(c:Addr×Addr×Addr)=>eA n a fst sep c.1 c.2.1 c.2.2) :
  DS 30 s σ (λ(_:Bool) σ'=>B0 s σ') λn B=>D n (y8 B) (Ya B lo len cap) fst sep:=by
 suffices hh:DS 30 s σ (λ(_:Bool) σ'=>B0 s σ') λn B=>sh (k7 [aB,aB,aB] (y8 B)) λ(c:Addr×Addr×Addr)=>eA n (Ya B lo len cap) fst sep c.1 c.2.1 c.2.2 by
  grind
 exact DS.fn (λB=>rfl) (afr hs hl fst sep hf iv)
theorem DS.slA {R lo hi}{f:Nat->Bk->Sl->M β}(h1:lo<=hi)(h2:hi<=8)(hf:DS N s σ R λn B=>f n B (Ya B (1+lo) (hi-lo) (8-lo+1))):DS N s σ R λn B=>sh (nM ((al B.b2).plus 1) 8 lo hi 1) (f n B):=by
 obtain⟨r,σ1,hr,h3⟩:=hf;refine⟨r,σ1,hr,λn B h0 h hn z=>?_⟩;show Wp (sh (nM ((al B.b2).plus 1) 8 lo hi 1) (f n B)) h _;obtain⟨y,h',e1,e2⟩:=h3 n B h0 h hn z;refine⟨y,h',?_,e2⟩;have e0:nM ((al B.b2).plus 1) 8 lo hi 1 h=some (Ya B (1+lo) (hi-lo) (8-lo+1),h):=by
  unfold nM;rw[By ⟨by omega,by omega,by omega⟩];simp[Addr.plus]
 unfold sh;rw[e0];exact e1
theorem abt (hs:s.size<=1000000)(v:Bk->ξ):∀(k:Nat) (i:Int) σ ,B0 s σ->0<=i->9-i<=k->DS (k+1) s σ (λ(r:Int) σ'=>B0 s σ'/\0<=r) λn B=>gD n (al B.b0) (al B.b1) (al B.b2) (al B.b3) (v B) i:=by
 intro k
 induction k with
 |zero=>
  intro i σ iv hi hk;refine DS.succ (m:=λn B=>iG (gD n) n (al B.b0) (al B.b1) (al B.b2) (al B.b3) (v B) i) (λ_ _=>rfl) ?_;unfold iG;exact DS.ite (λh1=>by simp at h1;omega) λ_=>DS.pure ⟨iv,hi⟩
 |succ k ih=>
  intro i σ iv hi hk;refine DS.succ (m:=λn B=>iG (gD n) n (al B.b0) (al B.b1) (al B.b2) (al B.b3) (v B) i) (λ_ _=>rfl) ?_;unfold iG;refine DS.ite (λh1=>DS.Ei (DS.Ht (DS.ite (λh2=>?_) λ_=>DS.pure ⟨iv,hi⟩))) λ_=>DS.pure ⟨iv,hi⟩;simp at h1 h2;refine DS.Ht (DS.Ei (DS.ix iv.lo h2 λc1=>DS.ite (λ_=>DS.Ht (DS.Ei (DS.ix iv.lo h2 λc2=>DS.ite (λ_=>?_) λ_=>DS.pure ⟨iv,hi⟩))) λ_=>DS.pure ⟨iv,hi⟩));unfold mZ;have e:IntKind.i64.wrap (i+1)=i+1:=xG (by omega) (by omega);refine DS.ldX (j:=9) (λ_=>rfl) (by omega) (DS.Ht (DS.Ei (DS.ix iv.lo h2 λc3=>DS.stX (j:=9) (λ_=>rfl) (by omega) (DS.Ei (DS.stP ?_)))));rw[e];exact ih _ _ (B0.fwd ⟨iv.lo,iv.hi,CF (by omega) iv.ok (X9 _)⟩ hs h2) (by omega) (by omega)
theorem abu (v:Bk->ξ):∀(k:Nat) (i:Int) σ ,B0 s σ->0<=i->9-i<=k->DS (k+1) s σ (λ(_:Unit) σ'=>B0 s σ') λn B=>iV n (al B.b0) (al B.b1) (al B.b2) (al B.b3) (v B) i:=by
 intro k
 induction k with
 |zero=>
  intro i σ iv hi hk;refine DS.succ (m:=λn B=>iF (iV n) n (al B.b0) (al B.b1) (al B.b2) (al B.b3) (v B) i) (λ_ _=>rfl) ?_;unfold iF;exact DS.ite (λh1=>by simp at h1;omega) λ_=>DS.pure iv
 |succ k ih=>
  intro i σ iv hi hk;refine DS.succ (m:=λn B=>iF (iV n) n (al B.b0) (al B.b1) (al B.b2) (al B.b3) (v B) i) (λ_ _=>rfl) ?_;unfold iF;refine DS.ite (λh1=>?_) λ_=>DS.pure iv;simp at h1;have e:IntKind.i64.wrap (i+1)=i+1:=xG (by omega) (by omega);refine DS.ldX (j:=9) (λ_=>rfl) (by omega) (DS.stX (j:=9) (λ_=>rfl) (by omega) ?_);rw[e];exact ih _ _ ⟨iv.lo,iv.hi,CF (by omega) iv.ok (X9 _)⟩ (by omega) (by omega)
theorem Ln {x v}(hx:BQ x):BQ (afn x v):=hx
theorem NF {b σ}(hx:BQ σ.x):DS N s σ OKr λn B=>sh (aE moL (al B.b2)) λ(x:Mo)=>sh (bh (al B.b1) (mv x)) λ_=>sh (aE moL (al B.b1)) λ(y:Mo)=>AI (y,b):=
 DS.iN (DS.stY (DS.ahm (DS.pure hx)))
theorem G9 {σ}(hx:BQ σ.x):DS N s σ OKr λn B=>sh (aE moL (al B.b2)) λ(x:Mo)=>sh (aq li (al B.b3)) λ(p:Int)=>sh (aq .str (al B.b0)) λ(t:ζ)=>sh (Ago.k8 [some (al B.b3),some (al B.b0)] (bh (al B.b1) (mv x))) λ_=>sh (aE moL (al B.b1)) λ(y:Mo)=>AI (y,decide (p=(t.size:Int))):=
 DS.iN (DS.Ei (DS.Ht (DS.aiP (DS.ahm (DS.pure hx)))))
theorem afs (hs:s.size<=1000000)(iv:B0 s σ)(hp:σ.pos<s.size):DS 30 s σ OKr λn B=>mj n (al B.b0) (al B.b1) (al B.b2) (al B.b3) (y8 B):=by
 unfold mj;have iv2:∀c,B0 s { x:=afn σ.x c,pos:=IntKind.i64.wrap (σ.pos+1),y:=σ.y }:=λc=>⟨(iv.fwd hs hp).lo,(iv.fwd hs hp).hi,Ln iv.ok⟩;refine DS.Ht (DS.Ei (DS.ix iv.lo hp λc=>DS.stZ (DS.Ei (DS.stP (DS.ldZ (DS.ite (λ_=>G9 (Ln iv.ok)) λ_=>DS.ldZ (DS.ite (λ_=>DS.ldZ (DS.ite (λ_=>NF (Ln iv.ok)) λ_=>?_)) λ_=>?_)))))))
 .exact DS.slA (lo:=6) (hi:=8) (by omega) (by omega) (DS.bind (Lm hs (by omega) 2 58 (by omega) (iv2 _) λn B a=>By (show qo eg (y8 B)=true from rfl)) λr σ1 iv3=>DS.ite (λ_=>NF iv3.ok) λ_=>G9 iv3.ok)
 .exact DS.slA (lo:=6) (hi:=8) (by omega) (by omega) (DS.bind (Lm hs (by omega) 2 58 (by omega) (iv2 _) λn B a=>By (show qo eg (y8 B)=true from rfl)) λr σ1 iv3=>DS.ite (λ_=>NF iv3.ok) λ_=>G9 iv3.ok)
theorem P3 (hs:s.size<=1000000)(iv:B0 s σ):DS 30 s σ OKr λn B=>iW n (al B.b0) (al B.b1) (al B.b2) (al B.b3) (y8 B):=by
 unfold iW;exact DS.Ei (DS.Ht (DS.ite (λhp=>DS.ldX (j:=0) (λ_=>rfl) (by omega) (DS.ite (λ_=>afs hs iv (by simpa using hp)) λ_=>G9 iv.ok)) λ_=>G9 iv.ok))
theorem aft (hs:s.size<=1000000)(iv:B0 s σ)(hp:σ.pos<s.size):DS 30 s σ OKr λn B=>ml n (al B.b0) (al B.b1) (al B.b2) (al B.b3) (y8 B):=by
 unfold ml;refine DS.Ei (DS.stP (DS.bind ((abt hs y8 9 0 _ (iv.fwd hs hp) (by omega) (by omega)).le (by omega)) λr σ1 hr=>DS.ite (λ_=>NF hr.1.ok) λ_=>DS.bind ((abu y8 9 r σ1 hr.1 hr.2 (by omega)).le (by omega)) λ_ σ2 iv2=>P3 hs iv2))
theorem Lo (hs:s.size<=1000000)(iv:B0 s σ):DS 30 s σ OKr λn B=>eU n (al B.b0) (al B.b1) (al B.b2) (al B.b3) (y8 B):=by
 unfold eU;refine DS.slA (lo:=3) (hi:=6) (by omega) (by omega) (DS.bind (Lm hs (by omega) 2 58 (by omega) iv (D:=n8) λn B a=>By (show qo eg (y8 B)=true from rfl)) λr σ1 iv3=>DS.ite (λ_=>NF iv3.ok) λ_=>DS.ldX (j:=0) (λ_=>rfl) (by omega) (DS.stX (j:=0) (λ_=>rfl) (by omega) ?_));have iv4:B0 s { σ1 with x:=Ut σ1.x 0 (IntKind.i64.wrap (getM σ1.x 0+2)) }:=⟨iv3.lo,iv3.hi,CF (by omega) iv3.ok (X9 _)⟩;exact DS.Ei (DS.Ht (DS.ite (λhp=>DS.Ht (DS.Ei (DS.ix iv3.lo (by simpa using hp) λc=>DS.ite (λ_=>aft hs iv4 (by simpa using hp)) λ_=>P3 hs iv4))) λ_=>P3 hs iv4))
theorem afu (hs:s.size<=1000000)(iv:B0 s σ):DS 30 s σ OKr λn B=>ko n (al B.b0) (al B.b1) (al B.b2) (al B.b3) (y8 B):=by
 unfold ko;refine DS.slA (lo:=0) (hi:=3) (by omega) (by omega) (DS.bind (Lm hs (by omega) 4 45 (by omega) iv (D:=n7) λn B a=>By (show qo eg (y8 B)=true from rfl)) λr σ1 iv3=>DS.ite (λ_=>NF iv3.ok) λ_=>DS.stX (j:=0) (λ_=>rfl) (by omega) ?_);have iv4:B0 s { σ1 with x:=Ut σ1.x 0 1 }:=⟨iv3.lo,iv3.hi,CF (by omega) iv3.ok (by constructor<;>omega)⟩;refine DS.Ei (DS.Ht (DS.ite (λ_=>NF iv4.ok) λhp=>?_));have h5:σ1.pos<s.size:=by have:=iv3.hi;simp at hp;omega
 have iv5:=iv4.fwd hs h5;exact DS.Ht (DS.Ei (DS.ix iv3.lo h5 λc=>DS.ite (λ_=>DS.Ht (DS.Ei (DS.ix iv3.lo h5 λc=>DS.ite (λ_=>NF iv4.ok) λ_=>DS.Ei (DS.stP (Lo hs iv5))))) λ_=>DS.Ei (DS.stP (Lo hs iv5))))
abbrev mo0:Mo:=(0,0,0,0,0,0,0,0,0,0,0)
theorem Uu (hs:s.size<=1000000):DS 30 s ⟨mo0,0,mo0⟩ OKr λn B=>sh (aq .str (al B.b0)) λ(x7:ζ)=>
  if decide (2<(↑(ByteArray.size x7):Int)) then
   sh (aq .str (al B.b0)) λ(x8:ζ)=>
   sh (oL x8 2) λx9=>
   if !decide ((x9.toNat:Int)=58) then
    ko n (al B.b0) (al B.b1) (al B.b2) (al B.b3) (y8 B)
   else
    eU n (al B.b0) (al B.b1) (al B.b2) (al B.b3) (y8 B)
  else
   eU n (al B.b0) (al B.b1) (al B.b2) (al B.b3) (y8 B):=by
 have iv:B0 s ⟨mo0,0,mo0⟩:=⟨by grind,by grind,by unfold BQ;decide⟩;exact DS.Ht (DS.ite (λhp=>DS.Ht (DS.ix (by omega) (by simpa using hp) λc=>DS.ite (λ_=>afu hs iv) λ_=>Lo hs iv)) λ_=>Lo hs iv)
theorem Lq (hs:s.size<=1000000):DD 30 (λr:Mo×Bool=>BQ r.1) λn=>kQ n s:=by
 obtain⟨r,σ1,hr,h1⟩:=Uu hs;refine⟨r,hr,λn h hn hw=>?_⟩;show Wp (kQ n s) h _;unfold kQ;refine (Z.start hw).new λx0 h1' z1 _=>z1.new (λx1 h2' z2 _=>z2.new (λx2 h3' z3 _=>z3.new λx3 h4' z4 _=>z4.st 0 (cs':=[vi 0]) λh5' z5=>z5.new λx5 h6' z6 _=>z6.st 0 (cs':=[ND ⟨x0,x1,x2,x3,x5⟩]) λh7' z7=>?_));refine (h1 n ⟨x0,x1,x2,x3,x5⟩ h h7' hn z7).mono λy h8 h9=>⟨h9.1,h9.2.fr⟩
end
section
variable {α β:Type}{h h' h0:ai}{L:List bG}{Q:β->ai->Prop}{N M':Nat}{x:Mo}
theorem DM.succ {P:α->Prop}{l m}(he:∀n a,l (n+1) a=m n a)(hm:DM N x P m):DM (N+1) x P l:=by
 obtain⟨r,hr,h1⟩:=hm;refine⟨r,hr,λn h0 h b hn z=>?_⟩;obtain⟨n,rfl⟩:∃m,n=m+1:=⟨n-1,by omega⟩;rw[he];exact h1 n h0 h b (by omega) z
theorem DM.bind {P R m}{f:Nat->Nat->α->M β}(hm:DM N x P m)(hf:∀y,P y->DM N x R λn a=>f n a y):DM N x R λn a=>sh (m n a) (f n a):=by
 obtain⟨y,hy,h1⟩:=hm;obtain⟨r,hr,h2⟩:=hf y hy;refine⟨r,hr,λn h0 h b hn z=>?_⟩;show Wp (sh (m n b) (f n b)) h _;rw[ah];refine (h1 n h0 h b hn z).mono λw h3 hw=>?_;obtain⟨rfl,f3⟩:=hw;exact h2 n h0 h3 b hn f3
theorem DM.arr {R e c0 cs ls w}{f:Nat->Nat->mD ls->M β}(h0:c0.all eS=true)(h1:cs.all eS=true)(h2:c0.length=cs.length)(h3:yL ls cs=some w)(h4:ls.length=cs.length)
  (hf:DM N x R λn a=>f n a w):DM N x R λn a=>sh (aF none e c0) λb=>sh (bh (al b) cs) λ_=>sh (aE ls (al b)) (f n a):=by
 obtain⟨r,hr,h5⟩:=hf;refine⟨r,hr,λn g0 h a hn z=>?_⟩;refine z.new (λb h1' z1 _=>z1.st 0 (cs':=cs) (λh2' z2=>z2.iN 0 (x:=w) (h5 n g0 h2' a hn z2.drop) rfl h3 h4) rfl ?_ ?_ h1) h0
 .show aU c0 0 cs=cs;unfold aU;grind
 .rw[h2];omega
theorem DD.arr {R e c0 cs ls w}{f:Nat->mD ls->M β}(h0:c0.all eS=true)(h1:cs.all eS=true)(h2:c0.length=cs.length)(h3:yL ls cs=some w)(h4:ls.length=cs.length)
  (hf:DD N R λn=>f n w):DD N R λn=>sh (aF none e c0) λb=>sh (bh (al b) cs) λ_=>sh (aE ls (al b)) (f n):=by
 obtain⟨r,hr,h5⟩:=hf;refine⟨r,hr,λn h hn hw=>?_⟩;refine (Z.start hw).new (λb h1' z1 _=>z1.st 0 (cs':=cs) (λh2' z2=>z2.iN 0 (x:=w) ?_ rfl h3 h4) rfl ?_ ?_ h1) h0
 .exact (h5 n h2' hn z2.wf).mono λy h' hy=>⟨hy.1,jR hw z2.fr hy.2⟩
 .show aU c0 0 cs=cs;unfold aU;grind
 .rw[h2];omega
theorem abv w:∀(k:Nat) (i:Int),0<=i->5-i<=k->DM (k+1) x (Any:Unit⊕Bool->Prop) λn a=>cJ n (al a) w i:=by
 intro k
 induction k with
 |zero=>
  intro i hi hk;refine DM.succ (m:=λn a=>cV (cJ n) n (al a) w i) (λ_ _=>rfl) ?_;unfold cV;exact DM.ite (λh1=>by simp at h1;omega) λ_=>DM.pure trivial
 |succ k ih=>
  intro i hi hk;refine DM.succ (m:=λn a=>cV (cJ n) n (al a) w i) (λ_ _=>rfl) ?_;unfold cV;refine DM.ite (λh1=>?_) λ_=>DM.pure trivial;simp at h1;have e1:IntKind.i64.wrap (i+1)=i+1:=xG (by omega) (by omega);have e3:IntKind.i64.wrap (i+3)=i+3:=xG (by omega) (by omega);rw[e1,e3];have hix:∃v:Int,[vi w.1,vi w.2.1,vi w.2.2.1,vi w.2.2.2.1,vi w.2.2.2.2][i.toNat]?=some (vi v):=by
   have:i.toNat=0\/i.toNat=1\/i.toNat=2\/i.toNat=3\/i.toNat=4:=by omega
   rcases this with h|h|h|h|h<;>rw[h]<;>exact⟨_,rfl⟩
  obtain⟨v,hv⟩:=hix;refine DM.dd (P:=λy:Int=>y=v) ⟨v,rfl,λn h _ hw=>aai hi (by omega) hv rfl ⟨rfl,Fr.refl hw⟩⟩ λy _=>DM.ck (by simp;omega) (DM.ld (l:=li) (o:=1+(i+3).toNat) (λb=>?_) (Rp (by omega)) rfl (DM.ite (λ_=>DM.pure trivial) λ_=>ih _ (by omega) (by omega)));simp[Addr.plus]
theorem Rq:DM 20 x (Any:Bool->Prop) λn a=>dK n (al a):=by
 unfold dK;refine DM.arr (ls:=[li,li,li,li,li]) (w:=(23,59,59,23,59)) rfl rfl rfl rfl rfl (DM.bind ((abv _ 5 0 (by omega) (by omega)).le (by omega)) λy _=>?_);cases y with
 |inl v=>exact DM.pure trivial
 |inr v=>exact DM.pure trivial
theorem IC:DD 20 (Any:Bool->Prop) λn=>fj n x:=by
 unfold fj;refine DM.run ?_;refine DM.ld (λ_=>rfl) rfl rfl (DM.ite (λ_=>DM.ck (by decide) (DM.ld (o:=1) (λ_=>rfl) rfl rfl (DM.ck (by decide) (DM.ld (o:=2) (λ_=>rfl) rfl rfl (DM.ck (by decide) (DM.ld (o:=3) (λ_=>rfl) rfl rfl (DM.dd (Rl _ _ _) λy _=>DM.ite (λ_=>DM.pure trivial) λ_=>Rq))))))) λ_=>Rq)
theorem P4:DD 20 (Any:Int->Prop) λn=>fR n x:=by
 unfold fR;refine DM.run ?_;exact DM.ck (by decide) (DM.ld (o:=1) (λ_=>rfl) rfl rfl (DM.ck (by decide) (DM.ld (o:=2) (λ_=>rfl) rfl rfl (DM.ck (by decide) (DM.ld (o:=3) (λ_=>rfl) rfl rfl (DM.dd (Rl _ _ _) λy _=>
  DM.ck (by decide) (DM.ld (o:=4) (λ_=>rfl) rfl rfl (DM.ck (by decide) (DM.ld (o:=5) (λ_=>rfl) rfl rfl (DM.ck (by decide) (DM.ld (o:=6) (λ_=>rfl) rfl rfl (DM.ck (by decide) (DM.ld (o:=7) (λ_=>rfl) rfl rfl (DM.ck (by decide) (DM.ld (o:=8) (λ_=>rfl) rfl rfl
   (DM.ld (o:=10) (λ_=>rfl) rfl rfl (DM.ite (λ_=>DM.pure trivial) λ_=>DM.pure trivial)))))))))))))))))
theorem ahp (a:Int):G8 (a.tmod 60):=by
 grind
theorem Yb {a0 a1 a2}(h0:G8 a0):DD 10020 (Any:ζ×Int->Prop) λn=>fI n a0 a1 a2:=by
 unfold fI;have h90:(ofBytes [90]).size=1:=rfl;refine (abq a1).bind λy hy=>DD.ite (λ_=>DD.pure trivial) λ_=>(DD.ck (by decide)).bind λ_ _=>(DD.ck (by decide)).bind λ_ _=>(DD.ck (by decide)).bind λ_ _=>(DD.ck (by decide)).bind λ_ _=>?_;refine DD.arr (w:=((3,y.1,y.2.1,y.2.2.1,IntKind.i64.wrap (a2.tdiv 3600),(IntKind.i64.wrap (a2.tdiv 60)).tmod 60,a2.tmod 60,0,0,a0,0):Mo)) rfl rfl rfl rfl rfl ?_;exact (Ro ⟨hy.1,hy.2.1,hy.2.2,X9 _,ahp _,ahp _,h0⟩).bind λz hz=>(DD.cat (by omega)).bind λ_ _=>DD.pure trivial
theorem afv {a0 a1}:DD 10020 (Any:ζ×Int->Prop) λn=>j7 n a0 a1:=by
 unfold j7;refine DD.ite (λ_=>DD.pure trivial) λg1=>DD.ite (λ_=>DD.pure trivial) λg2=>DD.ite (λ_=>DD.pure trivial) λ_=>DD.ite (λ_=>DD.pure trivial) λ_=>?_;simp only[acu] at g1 g2;have h0:G8 a1:=by constructor<;>omega
 unfold jJ;exact (DD.ck (by decide)).bind λ_ _=>(DD.ck (by decide)).bind λ_ _=>DD.ite (λ_=>Yb h0) λ_=>Yb h0
theorem DM.afw {P:α->Prop}{m}(hm:DM N x P m):DD N P λn=>sh (aF none bQ (mv mo0)) λb=>sh (bh (al b) (mv x)) λ_=>m n b:=by
 obtain⟨r,hr,h1⟩:=hm;exact⟨r,hr,λn h hn hw=>(Z.start hw).new λb h1' z1 f1=>z1.st 0 (λh2' z2=>(h1 n h h2' b hn z2).mono λy h2 h3=>⟨h3.1,h3.2.fr⟩) rfl rfl (abi 11)⟩
theorem abw (hx:BQ x):DM 10020 x (Any:ζ×Int->Prop) λn a=>ji n (al a):=by
 unfold ji;refine DM.iN (DM.dd (IC.le (by omega)) λy _=>DM.ite (λ_=>DM.pure trivial) λ_=>DM.iN (DM.ld (l:=li) (o:=9) (λ_=>rfl) rfl rfl (DM.ddc (ads:=λa=>[some ((al a).plus 9)]) (P4.le (by omega)) (λb a hm c hc=>?_) λz _=>DM.dd afv λw _=>DM.pure trivial)));subst hc;simp[Addr.plus] at hm;subst hm;rfl
theorem P5 {s}(hs:s.size<=1000000):DD 10020 (Any:ζ×Int->Prop) λn=>kq n s:=by
 unfold kq;refine ((Lq hs).le (by omega)).bind λy hy=>DM.afw (DM.ite (λ_=>DM.pure trivial) λ_=>DM.ld (o:=10) (λ_=>rfl) rfl rfl (DM.ite (λ_=>DM.pure trivial) λ_=>abw hy))
theorem Yc {s}(hs:s.size<=1000000):DD 10020 (Any:ζ×Int->Prop) λn=>pq n s:=by
 unfold pq;exact ((Lq hs).le (by omega)).bind λy hy=>DM.afw (DM.ite (λ_=>DM.pure trivial) λ_=>DM.ld (o:=10) (λ_=>rfl) rfl rfl (DM.ite (λ_=>DM.pure trivial) λ_=>DM.iN (DM.dd (IC.le (by omega)) λz _=>DM.ite (λ_=>DM.pure trivial) λ_=>DM.iN (DM.dd (Ro hy) λw _=>DM.pure trivial))))
theorem Yd {s}(hs:s.size<=1000000):DD 10020 (Any:Int->Prop) λn=>nB n s:=by
 unfold nB;exact (Yc hs).bind λy _=>DD.ite (λ_=>DD.pure trivial) λ_=>DD.ite (λ_=>DD.pure trivial) λ_=>((Lq hs).le (by omega)).bind λz hz=>DM.afw (DM.ld (λ_=>rfl) rfl rfl (DM.pure trivial))
end
end Go.Sh
