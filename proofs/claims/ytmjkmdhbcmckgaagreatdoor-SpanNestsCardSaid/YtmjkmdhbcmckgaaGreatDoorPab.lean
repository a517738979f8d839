
import Derived.Test.YtmjkmdhbcmckgaaGreatDoorBnPa
set_option linter.all false
namespace Go.Sh
open Go Go.Ago Go.Proofs
variable {α β:Type}{h h' h0:AHeap}{L:List Own}{Q:β→AHeap→Prop}{N M':Nat}
def DD (N:Nat)(P:α→Prop)(m:Nat→M α):Prop:=∃ x,P x∧∀ n h,N≤n→WF h→Wp (m n) h fun y h'=>y=x∧Fr (fun _=>False) h h'
theorem PP.dd {P:α→Prop}{m:Nat→M α}(hm:PP P m):DD N P m:=by
 obtain⟨x,hx,h1⟩:=hm
 exact⟨x,hx,fun n h _ hw=>⟨x,h,h1 n h,rfl,Fr.refl hw⟩⟩
theorem DD.pure {P:α→Prop}{x:α}(hx:P x):DD N P fun _=>M.pure x:=(PP.pure hx).dd
theorem DD.bind {P:α→Prop}{R:β→Prop}{m:Nat→M α}{f:Nat→α→M β}(hm:DD N P m)(hf:∀ x,P x→DD N R fun n=>f n x):DD N R fun n=>M.bind (m n) (f n):=by
 obtain⟨x,hx,h1⟩:=hm
 obtain⟨y,hy,h2⟩:=hf x hx
 refine⟨y,hy,fun n h hn hw=>?_⟩
 show Wp (M.bind (m n) (f n)) h _
 rw [Wp_bind]
 refine (h1 n h hn hw).mono fun z h3 hz=>?_
 obtain⟨rfl,f3⟩:=hz
 exact (h2 n h3 hn f3.wf).mono fun w h4 hw4=>⟨hw4.1,fr_trans hw f3 hw4.2⟩
theorem DD.ite {P:α→Prop}{c:Prop}[Decidable c]{a b:Nat→M α}(ha:c→DD N P a)(hb:¬ c→DD N P b):DD N P fun n=>if c then a n else b n:=by
 by_cases hc:c
 ·obtain⟨x,hx,h1⟩:=ha hc;exact⟨x,hx,fun n h hn hw=>by show Wp (if c then a n else b n) h _;rw [if_pos hc];exact h1 n h hn hw⟩
 ·obtain⟨x,hx,h1⟩:=hb hc;exact⟨x,hx,fun n h hn hw=>by show Wp (if c then a n else b n) h _;rw [if_neg hc];exact h1 n h hn hw⟩
theorem DD.mono {P P':α→Prop}{m:Nat→M α}(hm:DD N P m)(hp:∀ x,P x→P' x):DD N P' m:=let ⟨x,hx,h1⟩:=hm;⟨x,hp x hx,h1⟩
theorem DD.le {P:α→Prop}{m:Nat→M α}(hm:DD N P m)(hl:N≤M'):DD M' P m:=let ⟨x,hx,h1⟩:=hm;⟨x,hx,fun n h hn hw=>h1 n h (by omega) hw⟩
theorem DD.ck {b:Bool}(hb:b=true):DD N (Any:Unit→Prop) fun _=>ckM b:=(PP.ck hb).dd
def leapP (y:Int):Bool:=decide (y.tmod 4=0) && (!decide (y.tmod 100=0) || decide (y.tmod 400=0))
def monL:List Int:=[0,31,28,31,30,31,30,31,31,30,31,30,31]
def lenP (y m:Int):Int:=if m=2∧leapP y=true then 29 else monL.getD m.toNat 0
def firstP (y:Int):Int:=IntKind.i64.wrap (IntKind.i64.wrap (IntKind.i64.wrap (IntKind.i64.wrap (365 * y)+IntKind.i64.wrap ((IntKind.i64.wrap (y+3)).tdiv 4)) - IntKind.i64.wrap ((IntKind.i64.wrap (y+99)).tdiv 100))+IntKind.i64.wrap ((IntKind.i64.wrap (y+399)).tdiv 400))
theorem leap_dd (y:Int):DD N (fun b=>b=leapP y) fun n=>civil_Leap n y:=by
 unfold civil_Leap leapP
 refine (DD.ck (by decide)).bind fun _ _=>DD.ite (fun h1=>(DD.ck (by decide)).bind fun _ _=>DD.ite (fun h2=>DD.pure ?_) fun h2=>(DD.ck (by decide)).bind fun _ _=>DD.pure ?_) fun h1=>DD.pure ?_
 ·simp only [decide_eq_true_eq] at h1;simp [h1] at h2 ⊢;exact .inl h2
 ·simp only [decide_eq_true_eq] at h1;simp [h1] at h2 ⊢;simp [h2]
 ·simp only [decide_eq_true_eq] at h1;simp [h1]
theorem length_dd {y m:Int}(h1:1≤m)(h2:m≤12):DD N (fun r=>r=lenP y m) fun n=>civil_length n y m:=by
 refine⟨lenP y m,rfl,fun n h hn hw=>?_⟩
 obtain⟨lb,hlb,hl⟩:=leap_dd (N:=N) y
 unfold civil_length
 refine (Z.start hw).new fun x0 h1' z1 f1=>?_
 refine z1.st 0 (cs':=monL.map vi) fun h2' z2=>?_
 have tail:∀ {h3} (z3:Z h h3 [.blk x0 (monL.map vi) T_ar13_i64]),¬ (m=2∧leapP y=true)→Wp (M.bind (ckM (decide (0≤m∧m<((13:Nat):Int)))) fun _=>M.bind (ldL li ((adr x0).plus (m.toNat * 1))) fun (x4:Int)=>M.pure x4) h3 fun y' h'=>y'=lenP y m∧Fr (fun _=>False) h h':=by
  intro h3 z3 hne
  rw [Wp_bind,Wp_ckM]
  refine⟨by simp only [decide_eq_true_eq];omega,?_⟩
  have hlt:m.toNat<monL.length:=by show m.toNat<13;omega
  have e1:(monL.map vi)[m.toNat]?=some (vi (monL.getD m.toNat 0)):=by
   rw [List.getElem?_map,List.getElem?_eq_getElem hlt,List.getD_eq_getElem?_getD,List.getElem?_eq_getElem hlt];rfl
  have e2:((adr x0).plus (m.toNat * 1))=⟨x0,m.toNat,none⟩:=by simp [Addr.plus]
  rw [e2]
  refine z3.ld 0 (l:=li) (x:=monL.getD m.toNat 0) ?_ rfl e1 rfl
  refine Wp_pure.2 ⟨?_,z3.fr⟩
  unfold lenP
  rw [if_neg hne]
 by_cases hm:m=2
 ·rw [if_pos (by simpa using hm),Wp_bind]
  refine (hl n h2' hn z2.wf).mono fun b h3 hb=>?_
  obtain⟨rfl,f3⟩:=hb
  have z3:=z2.pure f3
  cases hlp:leapP y with
  | true =>
   rw [hlb,if_pos hlp,Wp_pure]
   exact⟨by unfold lenP;rw [if_pos ⟨hm,hlp⟩],z3.fr⟩
  | false =>
   rw [hlb,if_neg (by rw [hlp];decide)]
   exact tail z3 fun x=>by rw [hlp] at x;exact absurd x.2 (by decide)
 ·rw [if_neg (by simpa using hm)]
  exact tail z2 fun x=>hm x.1
theorem first_pp (y:Int):PP (fun r=>r=firstP y) fun n=>civil_first n y:=(PP.ck (by decide)).bind fun _ _=>(PP.ck (by decide)).bind fun _ _=>(PP.ck (by decide)).bind fun _ _=>PP.pure rfl
theorem days_L0 (y m:Int)(hm:m≤12):∀ (k:Nat) (c d:Int),1≤d→m - d≤k→DD (k+1) (Any:Int→Prop) fun n=>civil_Days_L0 n y m c d:=by
 intro k
 induction k with
 | zero =>
  intro c d hd hk
  refine⟨c,trivial,fun n h hn hw=>?_⟩
  obtain⟨n,rfl⟩:∃ m,n=m+1:=⟨n - 1,by omega⟩
  show Wp (civil_Days_L0 (n+1) y m c d) h _
  rw [civil_Days_L0_succ]
  unfold civil_Days_L0_B
  rw [if_neg (by simp only [decide_eq_true_eq];omega),Wp_pure]
  exact⟨rfl,Fr.refl hw⟩
 | succ k ih =>
  intro c d hd hk
  by_cases hdm:d<m
  ·obtain⟨l,_,hl⟩:=length_dd (N:=0) (y:=y) (m:=d) hd (by omega)
   have ew:IntKind.i64.wrap (d+1)=d+1:=w64 (by omega) (by omega)
   obtain⟨x,_,hx⟩:=ih (IntKind.i64.wrap (c+l)) (d+1) (by omega) (by omega)
   refine⟨x,trivial,fun n h hn hw=>?_⟩
   obtain⟨n,rfl⟩:∃ m,n=m+1:=⟨n - 1,by omega⟩
   show Wp (civil_Days_L0 (n+1) y m c d) h _
   rw [civil_Days_L0_succ]
   unfold civil_Days_L0_B
   rw [if_pos (by simpa using hdm),Wp_bind]
   refine (hl n h (by omega) hw).mono fun r h1 hr=>?_
   obtain⟨rfl,f1⟩:=hr
   rw [ew]
   exact (hx n h1 (by omega) f1.wf).mono fun w h4 hw4=>⟨hw4.1,fr_trans hw f1 hw4.2⟩
  ·refine⟨c,trivial,fun n h hn hw=>?_⟩
   obtain⟨n,rfl⟩:∃ m,n=m+1:=⟨n - 1,by omega⟩
   show Wp (civil_Days_L0 (n+1) y m c d) h _
   rw [civil_Days_L0_succ]
   unfold civil_Days_L0_B
   rw [if_neg (by simp only [decide_eq_true_eq];omega),Wp_pure]
   exact⟨rfl,Fr.refl hw⟩
theorem days_dd (y m d:Int):DD 20 (Any:Int×Int→Prop) fun n=>civil_Days n y m d:=by
 refine DD.ite (fun _=>DD.pure trivial) fun _=>DD.ite (fun _=>DD.pure trivial) fun _=>DD.ite (fun _=>DD.pure trivial) fun h1=>DD.ite (fun _=>DD.pure trivial) fun h2=>DD.ite (fun _=>DD.pure trivial) fun _=>?_
 simp only [decide_eq_true_eq] at h1 h2
 refine (length_dd (by omega) (by omega)).bind fun x _=>DD.ite (fun _=>DD.pure trivial) fun _=>(first_pp y).dd.bind fun f _=>((days_L0 y m (by omega) 12 _ 1 (by omega) (by omega)).le (by omega)).bind fun r _=>DD.pure trivial
theorem first_eq {y:Int}(h1:0≤y)(h2:y≤20000):firstP y=365 * y+(y+3) / 4 - (y+99) / 100+(y+399) / 400:=by
 unfold firstP
 rw [w64 (x:=y+3) (by omega) (by omega),w64 (x:=y+99) (by omega) (by omega),w64 (x:=y+399) (by omega) (by omega),
  Int.tdiv_eq_ediv_of_nonneg (by omega),Int.tdiv_eq_ediv_of_nonneg (by omega),Int.tdiv_eq_ediv_of_nonneg (by omega)]
 rw [w64 (x:=365 * y) (by omega) (by omega),w64 (x:=(y+3) / 4) (by omega) (by omega),w64 (x:=(y+99) / 100) (by omega) (by omega),w64 (x:=(y+399) / 400) (by omega) (by omega)]
 rw [w64 (x:=365 * y+(y+3) / 4) (by omega) (by omega),w64 (x:=365 * y+(y+3) / 4 - (y+99) / 100) (by omega) (by omega),w64 (by omega) (by omega)]
theorem leap_eq {y:Int}(h1:0≤y):leapP y=true↔(y % 4=0∧(y % 100≠0∨y % 400=0)):=by
 unfold leapP
 rw [Int.tmod_eq_emod_of_nonneg h1,Int.tmod_eq_emod_of_nonneg h1,Int.tmod_eq_emod_of_nonneg h1]
 simp
def remP (y:Int):Nat→Int
 | 0=>0
 | k+1=>lenP y (12 - k)+remP y k
theorem rem12 {y:Int}(h1:0≤y)(h2:y≤10020):firstP (y+1) - firstP y=remP y 12:=by
 rw [first_eq (by omega) (by omega),first_eq (by omega) (by omega)]
 have hl:=leap_eq h1
 have tab:∀ m:Int,m≠2→lenP y m=monL.getD m.toNat 0:=fun m hm=>by unfold lenP;rw [if_neg (fun x=>hm x.1)]
 have e:remP y 12=337+lenP y 2:=by
  show lenP y 1+(lenP y 2+(lenP y 3+(lenP y 4+(lenP y 5+(lenP y 6+(lenP y 7+(lenP y 8+(lenP y 9+(lenP y 10+(lenP y 11+(lenP y 12+0)))))))))))=_
  have l1:lenP y 1=31:=(tab 1 (by decide)).trans rfl
  have l3:lenP y 3=31:=(tab 3 (by decide)).trans rfl
  have l4:lenP y 4=30:=(tab 4 (by decide)).trans rfl
  have l5:lenP y 5=31:=(tab 5 (by decide)).trans rfl
  have l6:lenP y 6=30:=(tab 6 (by decide)).trans rfl
  have l7:lenP y 7=31:=(tab 7 (by decide)).trans rfl
  have l8:lenP y 8=31:=(tab 8 (by decide)).trans rfl
  have l9:lenP y 9=30:=(tab 9 (by decide)).trans rfl
  have l10:lenP y 10=31:=(tab 10 (by decide)).trans rfl
  have l11:lenP y 11=30:=(tab 11 (by decide)).trans rfl
  have l12:lenP y 12=31:=(tab 12 (by decide)).trans rfl
  omega
 rw [e]
 by_cases hlp:leapP y=true
 ·have:=hl.1 hlp
  have e2:lenP y 2=29:=by unfold lenP;rw [if_pos ⟨rfl,hlp⟩]
  rw [e2];omega
 ·have hn:¬ (y % 4=0∧(y % 100≠0∨y % 400=0)):=fun x=>hlp (hl.2 x)
  have e2:lenP y 2=28:=by unfold lenP;rw [if_neg (fun x=>hlp x.2)];rfl
  rw [e2];omega
theorem date_L0 (d:Int)(hd:d≤3652424):∀ (k:Nat) (y:Int),0≤y→y≤10009→firstP y≤d→10009 - y≤k→DD (k+1) (fun r:Int=>0≤r∧r≤10009∧firstP r≤d∧d<firstP (r+1)) fun n=>civil_Date_L0 n d y:=by
 intro k
 induction k with
 | zero =>
  intro y h1 h0 h2 h3
  exfalso
  rw [first_eq h1 (by omega)] at h2;omega
 | succ k ih =>
  intro y h1 h0 h2 h3
  have hy:y<10009:=by rw [first_eq h1 (by omega)] at h2;omega
  have ew:IntKind.i64.wrap (y+1)=y+1:=w64 (by omega) (by omega)
  obtain⟨f,hf,hf2⟩:=(first_pp (y+1)).dd (N:=0)
  subst hf
  by_cases hle:firstP (y+1)≤d
  ·obtain⟨x,hx,hx2⟩:=ih (y+1) (by omega) (by omega) hle (by omega)
   refine⟨x,hx,fun n h hn hw=>?_⟩
   obtain⟨n,rfl⟩:∃ m,n=m+1:=⟨n - 1,by omega⟩
   show Wp (civil_Date_L0 (n+1) d y) h _
   rw [civil_Date_L0_succ]
   unfold civil_Date_L0_B
   rw [ew,Wp_bind]
   refine (hf2 n h (by omega) hw).mono fun r h1 hr=>?_
   obtain⟨rfl,f1⟩:=hr
   rw [if_pos (by simpa using hle)]
   exact (hx2 n h1 (by omega) f1.wf).mono fun w h4 hw4=>⟨hw4.1,fr_trans hw f1 hw4.2⟩
  ·refine⟨y,⟨h1,by omega,h2,by omega⟩,fun n h hn hw=>?_⟩
   obtain⟨n,rfl⟩:∃ m,n=m+1:=⟨n - 1,by omega⟩
   show Wp (civil_Date_L0 (n+1) d y) h _
   rw [civil_Date_L0_succ]
   unfold civil_Date_L0_B
   rw [ew,Wp_bind]
   refine (hf2 n h (by omega) hw).mono fun r h1 hr=>?_
   obtain⟨rfl,f1⟩:=hr
   rw [if_neg (by simpa using hle),Wp_pure]
   exact⟨rfl,f1⟩
theorem lenP_lo {y m:Int}(h1:1≤m)(h2:m≤12):0≤lenP y m∧lenP y m≤31:=by
 unfold lenP
 split
 ·omega
 ·have:∀ k:Nat,k≤12→0≤monL.getD k 0∧monL.getD k 0≤31:=by decide
  exact this m.toNat (by omega)
abbrev I64 (x:Int):Prop:=-9223372036854775808≤x∧x≤9223372036854775807
theorem date_L1 (y:Int):∀ (k:Nat) (r:Int),1≤k→k≤12→0≤r→r≤400→r<remP y k→DD (k+1) (fun x:Int×Int=>I64 x.2) fun n=>civil_Date_L1 n r y (13 - k):=by
 intro k
 induction k with
 | zero=>intro r h;omega
 | succ k ih =>
  intro r h1 h2 h3 h4 h5
  have hr:remP y (k+1)=lenP y (12 - k)+remP y k:=rfl
  obtain⟨l,hl,hl2⟩:=length_dd (N:=0) (y:=y) (m:=13 - ((k+1:Nat):Int)) (by omega) (by omega)
  have em:13 - ((k+1:Nat):Int)=12 - k:=by omega
  rw [em] at hl hl2
  have hlo:=lenP_lo (y:=y) (m:=12 - k) (by omega) (by omega)
  rw [← hl] at hlo hr
  rw [em]
  by_cases hle:l≤r
  ·by_cases hk:k=0
   ·subst hk
    have:remP y 0=0:=rfl
    omega
   have ew:IntKind.i64.wrap (r - l)=r - l:=w64 (by omega) (by omega)
   have ew2:IntKind.i64.wrap (12 - (k:Int)+1)=13 - k:=by rw [w64 (by omega) (by omega)];omega
   obtain⟨x,hxi,hx2⟩:=ih (r - l) (by omega) (by omega) (by omega) (by omega) (by omega)
   refine⟨x,hxi,fun n h hn hw=>?_⟩
   obtain⟨n,rfl⟩:∃ m,n=m+1:=⟨n - 1,by omega⟩
   show Wp (civil_Date_L1 (n+1) r y (12 - k)) h _
   rw [civil_Date_L1_succ]
   unfold civil_Date_L1_B
   rw [Wp_bind]
   refine (hl2 n h (by omega) hw).mono fun v h1 hv=>?_
   obtain⟨rfl,f1⟩:=hv
   rw [if_pos (by simpa using hle),Wp_bind]
   refine (hl2 n h1 (by omega) f1.wf).mono fun v h2 hv=>?_
   obtain⟨rfl,f2⟩:=hv
   rw [ew,ew2]
   exact (hx2 n h2 (by omega) f2.wf).mono fun w h4 hw4=>⟨hw4.1,fr_trans hw f1 (fr_trans f1.wf f2 hw4.2)⟩
  ·refine⟨(r,12 - k),by constructor <;> simp only <;> omega,fun n h hn hw=>?_⟩
   obtain⟨n,rfl⟩:∃ m,n=m+1:=⟨n - 1,by omega⟩
   show Wp (civil_Date_L1 (n+1) r y (12 - k)) h _
   rw [civil_Date_L1_succ]
   unfold civil_Date_L1_B
   rw [Wp_bind]
   refine (hl2 n h (by omega) hw).mono fun v h1 hv=>?_
   obtain⟨rfl,f1⟩:=hv
   rw [if_neg (by simpa using hle),Wp_pure]
   exact⟨rfl,f1⟩
theorem date_dd (d:Int):DD 10020 (fun x:Int×Int×Int×Int=>I64 x.1∧I64 x.2.1∧I64 x.2.2.1) fun n=>civil_Date n d:=by
 refine DD.ite (fun _=>DD.pure (by decide)) fun h1=>DD.ite (fun _=>DD.pure (by decide)) fun h2=>?_
 simp only [decide_eq_true_eq] at h1 h2
 have ew:IntKind.i64.wrap (d+719528)=d+719528:=w64 (by omega) (by omega)
 have ew2:IntKind.i64.wrap ((d+719528).tdiv 366)=(d+719528) / 366:=by
  rw [Int.tdiv_eq_ediv_of_nonneg (by omega),w64 (by omega) (by omega)]
 unfold civil_Date_J0
 rw [ew,ew2]
 refine (DD.ck (by decide)).bind fun _ _=>((date_L0 (d+719528) (by omega) 10009 ((d+719528) / 366) (by omega) (by omega) (by rw [first_eq (by omega) (by omega)];omega) (by omega)).le (by omega)).bind fun y hy=>(first_pp y).dd.bind fun f hf=>?_
 have hr:=rem12 hy.1 (by omega)
 have hfl:0≤firstP y:=by rw [first_eq hy.1 (by omega)];omega
 have h400:firstP (y+1) - firstP y≤400:=by rw [first_eq hy.1 (by omega),first_eq (by omega) (by omega)];omega
 subst hf
 rw [w64 (x:=d+719528 - firstP y) (by omega) (by omega)]
 exact ((date_L1 y 12 (d+719528 - firstP y) (by omega) (by omega) (by omega) (by omega) (by omega)).le (by omega)).bind fun x hx=>DD.pure ⟨⟨by simp only;omega,by simp only;omega⟩,hx,i64_lo _⟩
end Go.Sh
set_option linter.all false
namespace Go.Sh
open Go Go.Ago Go.Proofs
variable {α β:Type}{h h' h0:AHeap}{L:List Own}{Q:β→AHeap→Prop}{N M':Nat}
abbrev Mo:=Int×Int×Int×Int×Int×Int×Int×Int×Int×Int×Int
abbrev moL:List Leaf:=[li,li,li,li,li,li,li,li,li,li,.int .u8]
def mv (x:Mo):List Value:=[vi x.1,vi x.2.1,vi x.2.2.1,vi x.2.2.2.1,vi x.2.2.2.2.1,vi x.2.2.2.2.2.1,vi x.2.2.2.2.2.2.1,vi x.2.2.2.2.2.2.2.1,vi x.2.2.2.2.2.2.2.2.1,vi x.2.2.2.2.2.2.2.2.2.1,v8 x.2.2.2.2.2.2.2.2.2.2]
def DM (N:Nat)(x:Mo)(P:α→Prop)(m:Nat→Nat→M α):Prop:=∃ r,P r∧∀ n h0 h b,N≤n→Z h0 h [.blk b (mv x) T_instant_moment]→Wp (m n b) h fun y h'=>y=r∧Z h0 h' [.blk b (mv x) T_instant_moment]
variable {x:Mo}
theorem DM.pure {P:α→Prop}{r:α}(hr:P r):DM N x P fun _ _=>M.pure r:=⟨r,hr,fun n h0 h b _ z=>Wp_pure.2 ⟨rfl,z⟩⟩
theorem DM.ite {P:α→Prop}{c:Prop}[Decidable c]{f g:Nat→Nat→M α}(ha:c→DM N x P f)(hb:¬ c→DM N x P g):DM N x P fun n a=>if c then f n a else g n a:=by
 by_cases hc:c
 ·obtain⟨r,hr,h1⟩:=ha hc;exact⟨r,hr,fun n h0 h b hn z=>by show Wp (if c then f n b else g n b) h _;rw [if_pos hc];exact h1 n h0 h b hn z⟩
 ·obtain⟨r,hr,h1⟩:=hb hc;exact⟨r,hr,fun n h0 h b hn z=>by show Wp (if c then f n b else g n b) h _;rw [if_neg hc];exact h1 n h0 h b hn z⟩
theorem DM.dd {P:α→Prop}{R:β→Prop}{m:Nat→M α}{f:Nat→Nat→α→M β}(hm:DD N P m)(hf:∀ y,P y→DM N x R fun n a=>f n a y):DM N x R fun n a=>M.bind (m n) (f n a):=by
 obtain⟨y,hy,h1⟩:=hm
 obtain⟨r,hr,h2⟩:=hf y hy
 refine⟨r,hr,fun n h0 h b hn z=>?_⟩
 show Wp (M.bind (m n) (f n b)) h _
 rw [Wp_bind]
 refine (h1 n h hn z.wf).mono fun w h3 hw=>?_
 obtain⟨rfl,f3⟩:=hw
 exact h2 n h0 h3 b hn (z.pure f3)
theorem DM.ddc {P:α→Prop}{R:β→Prop}{m:Nat→M α}{f:Nat→Nat→α→M β}{ads:Nat→List (Option Addr)}(hm:DD N P m)(ha:∀ b,∀ a ∈ ads b,∀ c,a=some c→c.block=b)(hf:∀ y,P y→DM N x R fun n a=>f n a y) :
  DM N x R fun n a=>M.bind (Ago.chk (ads a) (m n)) (f n a):=by
 obtain⟨y,hy,h1⟩:=hm
 obtain⟨r,hr,h2⟩:=hf y hy
 refine⟨r,hr,fun n h0 h b hn z=>?_⟩
 show Wp (M.bind (Ago.chk (ads b) (m n)) (f n b)) h _
 rw [Wp_bind]
 have l:LB h b _ _:=z.get 0 rfl
 refine chk_Wp ((h1 n h hn z.wf).mono fun w h3 hw=>?_)
 obtain⟨rfl,f3⟩:=hw
 refine⟨fun a hma=>?_,h2 n h0 h3 b hn (z.pure f3)⟩
 rw [ha b _ hma a rfl,l.get]
 exact f3.cells _ _ _ _ _ l.get fun x=>x.elim
theorem DM.ld {R:β→Prop}{o:Nat}{l:Leaf}{g:Nat→Addr}{v:Value}{w:l.den}{f:Nat→Nat→l.den→M β}(hg:∀ b,g b=⟨b,o,none⟩)(hv:(mv x)[o]?=some v)(hw:unL l v=some w)(hf:DM N x R fun n a=>f n a w):DM N x R fun n a=>M.bind (ldL l (g a)) (f n a):=by
 obtain⟨r,hr,h2⟩:=hf
 refine⟨r,hr,fun n h0 h b hn z=>?_⟩
 show Wp (M.bind (ldL l (g b)) (f n b)) h _
 rw [hg b]
 exact z.ld 0 (h2 n h0 h b hn z) rfl hv hw
theorem DM.lds {R:β→Prop}{f:Nat→Nat→Mo→M β}(hf:DM N x R fun n a=>f n a x):DM N x R fun n a=>M.bind (ldLs moL (adr a)) (f n a):=by
 obtain⟨r,hr,h2⟩:=hf
 refine⟨r,hr,fun n h0 h b hn z=>?_⟩
 show Wp (M.bind (ldLs moL (adr b)) (f n b)) h _
 exact z.lds 0 (ls:=moL) (x:=x) (h2 n h0 h b hn z)
theorem DM.ck {R:β→Prop}{c:Bool}{f:Nat→Nat→Unit→M β}(hc:c=true)(hf:DM N x R fun n a=>f n a ()):DM N x R fun n a=>M.bind (ckM c) (f n a):=DM.dd (DD.ck hc) fun _ _=>hf
theorem DM.run {P:α→Prop}{m:Nat→Nat→M α}(hm:DM N x P m):DD N P fun n=>M.bind (newB none T_instant_moment (mv x)) fun b=>m n b:=by
 obtain⟨r,hr,h1⟩:=hm
 exact⟨r,hr,fun n h hn hw=>(Z.start hw).new fun b h1' z1 f1=>(h1 n h h1' b hn z1).mono fun y h2 h3=>⟨h3.1,h3.2.fr⟩⟩
theorem DM.le {P:α→Prop}{m:Nat→Nat→M α}(hm:DM N x P m)(hl:N≤M'):DM M' x P m:=let ⟨r,hr,h1⟩:=hm;⟨r,hr,fun n h0 h b hn z=>h1 n h0 h b (by omega) z⟩
theorem DD.cat {x y:ByteArray}(hs:x.size+y.size≤1000000):DD N (fun z:ByteArray=>z.size=x.size+y.size) fun _=>catS x y:=(PP.cat (by unfold bigN;omega)).dd
theorem rep_len:∀ (l:List UInt8) (c:Nat),(Lib.repeatL l c).length=c * l.length:=fun l c=>Lib.repeatL_length l c
theorem pad_dd {a w:Int}(ha:I64 a)(hw:0≤w∧w≤9):DD N (fun x:ByteArray=>x.size≤30) fun n=>instant_pad n a w:=by
 unfold instant_pad
 refine (it_pp ha.1 ha.2).dd.bind fun x0 h0=>?_
 have hc:0≤(if 0<IntKind.i64.wrap (w - (x0.size:Int)) then IntKind.i64.wrap (w - (x0.size:Int)) else 0)∧(if 0<IntKind.i64.wrap (w - (x0.size:Int)) then IntKind.i64.wrap (w - (x0.size:Int)) else 0)≤9:=by
  rw [w64 (by omega) (by omega)]
  split <;> omega
 generalize (if 0<IntKind.i64.wrap (w - (x0.size:Int)) then IntKind.i64.wrap (w - (x0.size:Int)) else 0)=c at hc ⊢
 refine DD.bind (P:=fun x:ByteArray=>x.size≤9) ?_ fun x1 h1=>(DD.cat (by omega)).bind fun x2 h2=>DD.pure (by omega)
 unfold strings_Repeat
 have h48:(ofBytes [48]).size=1:=rfl
 refine (PP.ite (fun _=>PP.pure ?_) fun hn=>absurd ⟨hc.1,by omega,by omega⟩ hn).dd
 show (Lib.repeatL [48] c.toNat).toArray.size≤9
 rw [List.size_toArray,rep_len]
 simp;omega
def MoOK (x:Mo):Prop:=I64 x.2.1∧I64 x.2.2.1∧I64 x.2.2.2.1∧I64 x.2.2.2.2.1∧I64 x.2.2.2.2.2.1∧I64 x.2.2.2.2.2.2.1∧I64 x.2.2.2.2.2.2.2.2.2.1
theorem tr_len (l:List UInt8)(c:UInt8):(Lib.trimRightB l c).length≤l.length:=by
 unfold Lib.trimRightB
 have:=(List.dropWhile_sublist (l:=l.reverse) (fun x=>x == c)).length_le
 simp at this ⊢
 exact this
theorem text_J1 (hx:MoOK x){s:ByteArray}(hs:s.size≤200):DM N x (fun r:ByteArray=>r.size≤300) fun n a=>instant_moment_text_J1 n (adr a) s:=by
 unfold instant_moment_text_J1
 have h46:(ofBytes [46]).size=1:=rfl
 refine DM.ld (o:=9) (fun _=>rfl) rfl rfl (DM.ite (fun _=>DM.ld (o:=9) (fun _=>rfl) rfl rfl (DM.dd (pad_dd hx.2.2.2.2.2.2 (by omega)) fun x2 h2=>DM.dd (P:=fun y:ByteArray=>y.size≤30) ?_ fun x3 h3=>DM.dd (DD.cat (by omega)) fun x4 h4=>DM.dd (DD.cat (by omega)) fun x5 h5=>DM.pure (by omega))) fun _=>DM.pure (by omega))
 refine⟨⟨(Lib.trimRightB x2.data.toList 48).toArray⟩,?_,fun n h _ hw=>?_⟩
 ·show (Lib.trimRightB x2.data.toList 48).toArray.size≤30
  have:=tr_len x2.data.toList 48
  have h5:x2.data.toList.length=x2.size:=rfl
  rw [List.size_toArray];omega
 ·show Wp (strings_TrimRight n x2 (ofBytes [48])) h _
  unfold strings_TrimRight
  show Wp (if (48:UInt8).toNat<128∧x2.size≤9223372036854775807 then M.pure (⟨(Lib.trimRightB x2.data.toList 48).toArray⟩:ByteArray) else M.fail) h _
  rw [if_pos ⟨by decide,by omega⟩]
  exact Wp_pure.2 ⟨rfl,Fr.refl hw⟩
theorem text_J0 (hx:MoOK x){s:ByteArray}(hs:s.size≤100):DM N x (fun r:ByteArray=>r.size≤300) fun n a=>instant_moment_text_J0 n (adr a) s:=by
 unfold instant_moment_text_J0
 have h58:(ofBytes [58]).size=1:=rfl
 refine DM.ld (o:=0) (fun _=>rfl) rfl rfl (DM.ite (fun _=>DM.ck (by decide) (DM.ck (by decide) (DM.ck (by decide) (DM.ld (o:=4) (fun _=>rfl) rfl rfl (DM.ld (o:=5) (fun _=>rfl) rfl rfl (DM.ld (o:=6) (fun _=>rfl) rfl rfl ?_)))))) fun _=>text_J1 hx (by omega))
 refine DM.ddc (ads:=fun a=>[some (((adr a).plus 1).plus 4),some (((adr a).plus 1).plus 5)]) (pad_dd hx.2.2.2.1 (by omega)) (fun b a hm c hc=>by subst hc;simp [Addr.plus] at hm;rcases hm with rfl | rfl <;> rfl) fun x7 h7=>DM.dd (DD.cat (by omega)) fun x8 h8=>?_
 refine DM.ddc (ads:=fun a=>[some (((adr a).plus 1).plus 5)]) (pad_dd hx.2.2.2.2.1 (by omega)) (fun b a hm c hc=>by subst hc;simp [Addr.plus] at hm;subst hm;rfl) fun x9 h9=>DM.dd (DD.cat (by omega)) fun x10 h10=>DM.dd (DD.cat (by omega)) fun x11 h11=>?_
 exact DM.dd (pad_dd hx.2.2.2.2.2.1 (by omega)) fun x12 h12=>DM.dd (DD.cat (by omega)) fun x13 h13=>DM.dd (DD.cat (by omega)) fun x14 h14=>text_J1 hx (by omega)
theorem text_dd (hx:MoOK x):DD N (fun r:ByteArray=>r.size≤300) fun n=>instant_moment_text n x:=by
 unfold instant_moment_text
 refine DM.run ?_
 have h45:(ofBytes [45]).size=1:=rfl
 have h84:(ofBytes [84]).size=1:=rfl
 have h00:(ofBytes []).size=0:=rfl
 refine DM.ld (o:=0) (fun _=>rfl) rfl rfl (DM.ite (fun _=>DM.ck (by decide) (DM.ck (by decide) (DM.ck (by decide) (DM.ld (o:=1) (fun _=>rfl) rfl rfl (DM.ld (o:=2) (fun _=>rfl) rfl rfl (DM.ld (o:=3) (fun _=>rfl) rfl rfl ?_)))))) fun _=>?_)
 ·refine DM.ddc (ads:=fun a=>[some (((adr a).plus 1).plus 1),some (((adr a).plus 1).plus 2)]) (pad_dd hx.1 (by omega)) (fun b a hm c hc=>by subst hc;simp [Addr.plus] at hm;rcases hm with rfl | rfl <;> rfl) fun x8 h8=>DM.dd (DD.cat (by omega)) fun x9 h9=>?_
  refine DM.ddc (ads:=fun a=>[some (((adr a).plus 1).plus 2)]) (pad_dd hx.2.1 (by omega)) (fun b a hm c hc=>by subst hc;simp [Addr.plus] at hm;subst hm;rfl) fun x10 h10=>DM.dd (DD.cat (by omega)) fun x11 h11=>DM.dd (DD.cat (by omega)) fun x12 h12=>?_
  refine DM.dd (pad_dd hx.2.2.1 (by omega)) fun x13 h13=>DM.dd (DD.cat (by omega)) fun x14 h14=>DM.ld (o:=0) (fun _=>rfl) rfl rfl (DM.ite (fun _=>DM.dd (DD.cat (by omega)) fun x16 h16=>text_J0 hx (by omega)) fun _=>text_J0 hx (by omega))
 ·exact DM.ld (o:=0) (fun _=>rfl) rfl rfl (DM.ite (fun _=>DM.dd (DD.cat (by omega)) fun x16 h16=>text_J0 hx (by omega)) fun _=>text_J0 hx (by omega))
end Go.Sh
set_option linter.all false
namespace Go.Sh
open Go Go.Ago Go.Proofs
variable {α β:Type}{h h' h0:AHeap}{L:List Own}{Q:β→AHeap→Prop}{N M':Nat}
structure Bk where
 b0:Nat
 b1:Nat
 b2:Nat
 b3:Nat
 b5:Nat
structure Sg where
 x:Mo
 pos:Int
 y:Mo
abbrev numV (B:Bk):Value:=Value.func (Fn.func F_instant_read_1) #[] #[Value.pointer (some (adr B.b3)),Value.pointer (some (adr B.b0))]
abbrev SL (s:ByteArray)(B:Bk)(σ:Sg):List Own:=[.blk B.b5 [numV B] T_fn_i64__i64_bool,.blk B.b3 [vi σ.pos] T_i64,.blk B.b2 (mv σ.x) T_instant_moment,.blk B.b1 (mv σ.y) T_instant_moment,.blk B.b0 [.string s] T_string]
def DS (N:Nat)(s:ByteArray)(σ:Sg)(P:α→Sg→Prop)(m:Nat→Bk→M α):Prop:=∃ r σ',P r σ'∧∀ n B h0 h,N≤n→Z h0 h (SL s B σ)→Wp (m n B) h fun y h'=>y=r∧Z h0 h' (SL s B σ')
variable {s:ByteArray}{σ:Sg}
theorem DS.pure {P:α→Sg→Prop}{r:α}(hr:P r σ):DS N s σ P fun _ _=>M.pure r:=⟨r,σ,hr,fun n B h0 h _ z=>Wp_pure.2 ⟨rfl,z⟩⟩
theorem DS.bind {P:α→Sg→Prop}{R:β→Sg→Prop}{m:Nat→Bk→M α}{f:Nat→Bk→α→M β}(hm:DS N s σ P m)(hf:∀ x σ',P x σ'→DS N s σ' R fun n B=>f n B x):DS N s σ R fun n B=>M.bind (m n B) (f n B):=by
 obtain⟨x,σ1,hx,h1⟩:=hm
 obtain⟨y,σ2,hy,h2⟩:=hf x σ1 hx
 refine⟨y,σ2,hy,fun n B h0 h hn z=>?_⟩
 show Wp (M.bind (m n B) (f n B)) h _
 rw [Wp_bind]
 refine (h1 n B h0 h hn z).mono fun w h3 hw=>?_
 obtain⟨rfl,z3⟩:=hw
 exact h2 n B h0 h3 hn z3
theorem DS.ite {P:α→Sg→Prop}{c:Prop}[Decidable c]{a b:Nat→Bk→M α}(ha:c→DS N s σ P a)(hb:¬ c→DS N s σ P b):DS N s σ P fun n B=>if c then a n B else b n B:=by
 by_cases hc:c
 ·obtain⟨x,σ1,hx,h1⟩:=ha hc;exact⟨x,σ1,hx,fun n B h0 h hn z=>by show Wp (if c then a n B else b n B) h _;rw [if_pos hc];exact h1 n B h0 h hn z⟩
 ·obtain⟨x,σ1,hx,h1⟩:=hb hc;exact⟨x,σ1,hx,fun n B h0 h hn z=>by show Wp (if c then a n B else b n B) h _;rw [if_neg hc];exact h1 n B h0 h hn z⟩
theorem DS.mono {P P':α→Sg→Prop}{m:Nat→Bk→M α}(hm:DS N s σ P m)(hp:∀ x σ',P x σ'→P' x σ'):DS N s σ P' m:=let ⟨x,σ1,hx,h1⟩:=hm;⟨x,σ1,hp _ _ hx,h1⟩
theorem DS.le {P:α→Sg→Prop}{m:Nat→Bk→M α}(hm:DS N s σ P m)(hl:N≤M'):DS M' s σ P m:=let ⟨x,σ1,hx,h1⟩:=hm;⟨x,σ1,hx,fun n B h0 h hn z=>h1 n B h0 h (by omega) z⟩
theorem DS.succ {P:α→Sg→Prop}{l m:Nat→Bk→M α}(he:∀ n B,l (n+1) B=m n B)(hm:DS N s σ P m):DS (N+1) s σ P l:=by
 obtain⟨x,σ1,hx,h1⟩:=hm
 refine⟨x,σ1,hx,fun n B h0 h hn z=>?_⟩
 obtain⟨n,rfl⟩:∃ m,n=m+1:=⟨n - 1,by omega⟩
 rw [he]
 exact h1 n B h0 h (by omega) z
theorem DS.ldP {R:β→Sg→Prop}{f:Nat→Bk→Int→M β}(hf:DS N s σ R fun n B=>f n B σ.pos):DS N s σ R fun n B=>M.bind (ldL li (adr B.b3)) (f n B):=by
 obtain⟨r,σ1,hr,h2⟩:=hf
 exact⟨r,σ1,hr,fun n B h0 h hn z=>z.ld 1 (h2 n B h0 h hn z)⟩
theorem DS.stP {R:β→Sg→Prop}{v:Int}{f:Nat→Bk→Unit→M β}(hf:DS N s { σ with pos:=v } R fun n B=>f n B ()):DS N s σ R fun n B=>M.bind (stN (adr B.b3) [vi v]) (f n B):=by
 obtain⟨r,σ1,hr,h2⟩:=hf
 exact⟨r,σ1,hr,fun n B h0 h hn z=>z.st 1 (cs':=[vi v]) fun h' z'=>h2 n B h0 h' hn z'⟩
theorem DS.ldS {R:β→Sg→Prop}{f:Nat→Bk→ByteArray→M β}(hf:DS N s σ R fun n B=>f n B s):DS N s σ R fun n B=>M.bind (ldL .str (adr B.b0)) (f n B):=by
 obtain⟨r,σ1,hr,h2⟩:=hf
 exact⟨r,σ1,hr,fun n B h0 h hn z=>z.ld 4 (h2 n B h0 h hn z)⟩
theorem DS.ldF {R:β→Sg→Prop}{f:Nat→Bk→Value→M β}(hf:DS N s σ R fun n B=>f n B (numV B)):DS N s σ R fun n B=>M.bind (ldL .raw (adr B.b5)) (f n B):=by
 obtain⟨r,σ1,hr,h2⟩:=hf
 exact⟨r,σ1,hr,fun n B h0 h hn z=>z.ld 0 (h2 n B h0 h hn z)⟩
theorem DS.ix {R:β→Sg→Prop}{i:Int}{f:Nat→Bk→UInt8→M β}(h1:0≤i)(h2:i<s.size)(hf:∀ c,DS N s σ R fun n B=>f n B c):DS N s σ R fun n B=>M.bind (idxS s i) (f n B):=by
 have hlt:i.toNat<s.size:=by omega
 obtain⟨r,σ1,hr,h3⟩:=hf s[i.toNat]
 refine⟨r,σ1,hr,fun n B h0 h hn z=>?_⟩
 show Wp (M.bind (idxS s i) (f n B)) h _
 rw [Wp_bind,Wp_idxS]
 exact⟨_,h1,getElem?_pos s i.toNat hlt,h3 n B h0 h hn z⟩
theorem DS.fn {ts:List Ty}{R:β→Sg→Prop}{v:Bk→Value}{c:Bk→TsDen ts}{f:Nat→Bk→TsDen ts→M β}(hx:∀ B,unTs ts (capsOf (v B))=some (c B))(hf:DS N s σ R fun n B=>f n B (c B)):DS N s σ R fun n B=>M.bind (asFn ts (v B)) (f n B):=by
 obtain⟨r,σ1,hr,h2⟩:=hf
 refine⟨r,σ1,hr,fun n B h0 h hn z=>?_⟩
 show Wp (M.bind (asFn ts (v B)) (f n B)) h _
 rw [Wp_bind]
 exact Wp_asFn (hx B) (h2 n B h0 h hn z)
def putM (x:Mo)(j:Nat)(v:Int):Mo :=
 match j with
 | 0=>(v,x.2)
 | 1=>(x.1,v,x.2.2)
 | 2=>(x.1,x.2.1,v,x.2.2.2)
 | 3=>(x.1,x.2.1,x.2.2.1,v,x.2.2.2.2)
 | 4=>(x.1,x.2.1,x.2.2.1,x.2.2.2.1,v,x.2.2.2.2.2)
 | 5=>(x.1,x.2.1,x.2.2.1,x.2.2.2.1,x.2.2.2.2.1,v,x.2.2.2.2.2.2)
 | 6=>(x.1,x.2.1,x.2.2.1,x.2.2.2.1,x.2.2.2.2.1,x.2.2.2.2.2.1,v,x.2.2.2.2.2.2.2)
 | 7=>(x.1,x.2.1,x.2.2.1,x.2.2.2.1,x.2.2.2.2.1,x.2.2.2.2.2.1,x.2.2.2.2.2.2.1,v,x.2.2.2.2.2.2.2.2)
 | 8=>(x.1,x.2.1,x.2.2.1,x.2.2.2.1,x.2.2.2.2.1,x.2.2.2.2.2.1,x.2.2.2.2.2.2.1,x.2.2.2.2.2.2.2.1,v,x.2.2.2.2.2.2.2.2.2)
 | _=>(x.1,x.2.1,x.2.2.1,x.2.2.2.1,x.2.2.2.2.1,x.2.2.2.2.2.1,x.2.2.2.2.2.2.1,x.2.2.2.2.2.2.2.1,x.2.2.2.2.2.2.2.2.1,v,x.2.2.2.2.2.2.2.2.2.2)
def getM (x:Mo)(j:Nat):Int :=
 match j with
 | 0=>x.1 | 1=>x.2.1 | 2=>x.2.2.1 | 3=>x.2.2.2.1 | 4=>x.2.2.2.2.1 | 5=>x.2.2.2.2.2.1 | 6=>x.2.2.2.2.2.2.1 | 7=>x.2.2.2.2.2.2.2.1 | 8=>x.2.2.2.2.2.2.2.2.1 | _=>x.2.2.2.2.2.2.2.2.2.1
theorem lt10 {j:Nat}(h:j≤9):j=0∨j=1∨j=2∨j=3∨j=4∨j=5∨j=6∨j=7∨j=8∨j=9:=by omega
theorem putM_spl {x:Mo}{j:Nat}{v:Int}(hj:j≤9):splice (mv x) j [vi v]=mv (putM x j v):=by
 rcases lt10 hj with rfl | rfl | rfl | rfl | rfl | rfl | rfl | rfl | rfl | rfl <;> rfl
theorem getM_mv {x:Mo}{j:Nat}(hj:j≤9):(mv x)[j]?=some (vi (getM x j)):=by
 rcases lt10 hj with rfl | rfl | rfl | rfl | rfl | rfl | rfl | rfl | rfl | rfl <;> rfl
theorem putM_ok {x:Mo}{j:Nat}{v:Int}(hj:j≤9)(hx:MoOK x)(hv:I64 v):MoOK (putM x j v):=by
 obtain⟨h1,h2,h3,h4,h5,h6,h7⟩:=hx
 rcases lt10 hj with rfl | rfl | rfl | rfl | rfl | rfl | rfl | rfl | rfl | rfl <;> (unfold putM MoOK;simp only;exact⟨by assumption,by assumption,by assumption,by assumption,by assumption,by assumption,by assumption⟩)
theorem DS.ldX {R:β→Sg→Prop}{j:Nat}{g:Bk→Addr}{f:Nat→Bk→Int→M β}(hg:∀ B,g B=⟨B.b2,j,none⟩)(hj:j≤9)(hf:DS N s σ R fun n B=>f n B (getM σ.x j)):DS N s σ R fun n B=>M.bind (ldL li (g B)) (f n B):=by
 obtain⟨r,σ1,hr,h2⟩:=hf
 refine⟨r,σ1,hr,fun n B h0 h hn z=>?_⟩
 show Wp (M.bind (ldL li (g B)) (f n B)) h _
 rw [hg]
 exact z.ld 2 (h2 n B h0 h hn z) rfl (getM_mv hj) rfl
theorem DS.stX {R:β→Sg→Prop}{j:Nat}{v:Int}{g:Bk→Addr}{f:Nat→Bk→Unit→M β}(hg:∀ B,g B=⟨B.b2,j,none⟩)(hj:j≤9)(hf:DS N s { σ with x:=putM σ.x j v } R fun n B=>f n B ()):DS N s σ R fun n B=>M.bind (stN (g B) [vi v]) (f n B):=by
 obtain⟨r,σ1,hr,h2⟩:=hf
 refine⟨r,σ1,hr,fun n B h0 h hn z=>?_⟩
 show Wp (M.bind (stN (g B) [vi v]) (f n B)) h _
 rw [hg]
 exact z.st 2 (fun h' z'=>h2 n B h0 h' hn z') rfl (putM_spl hj) (by show j+1≤11;omega)
def putZ (x:Mo)(v:Int):Mo:=(x.1,x.2.1,x.2.2.1,x.2.2.2.1,x.2.2.2.2.1,x.2.2.2.2.2.1,x.2.2.2.2.2.2.1,x.2.2.2.2.2.2.2.1,x.2.2.2.2.2.2.2.2.1,x.2.2.2.2.2.2.2.2.2.1,v)
theorem DS.ldZ {R:β→Sg→Prop}{f:Nat→Bk→Int→M β}(hf:DS N s σ R fun n B=>f n B σ.x.2.2.2.2.2.2.2.2.2.2):DS N s σ R fun n B=>M.bind (ldL (.int .u8) ((adr B.b2).plus 10)) (f n B):=by
 obtain⟨r,σ1,hr,h2⟩:=hf
 exact⟨r,σ1,hr,fun n B h0 h hn z=>z.ld 2 (o:=10) (h2 n B h0 h hn z)⟩
theorem DS.stZ {R:β→Sg→Prop}{v:Int}{f:Nat→Bk→Unit→M β}(hf:DS N s { σ with x:=putZ σ.x v } R fun n B=>f n B ()):DS N s σ R fun n B=>M.bind (stN ((adr B.b2).plus 10) [v8 v]) (f n B):=by
 obtain⟨r,σ1,hr,h2⟩:=hf
 exact⟨r,σ1,hr,fun n B h0 h hn z=>z.st 2 (o:=10) (cs':=mv (putZ σ.x v)) (fun h' z'=>h2 n B h0 h' hn z') rfl rfl (Nat.le_refl 11)⟩
theorem DS.lds {R:β→Sg→Prop}{f:Nat→Bk→Mo→M β}(hf:DS N s σ R fun n B=>f n B σ.x):DS N s σ R fun n B=>M.bind (ldLs moL (adr B.b2)) (f n B):=by
 obtain⟨r,σ1,hr,h2⟩:=hf
 exact⟨r,σ1,hr,fun n B h0 h hn z=>z.lds 2 (ls:=moL) (x:=σ.x) (h2 n B h0 h hn z)⟩
theorem DS.ldsY {R:β→Sg→Prop}{f:Nat→Bk→Mo→M β}(hf:DS N s σ R fun n B=>f n B σ.y):DS N s σ R fun n B=>M.bind (ldLs moL (adr B.b1)) (f n B):=by
 obtain⟨r,σ1,hr,h2⟩:=hf
 exact⟨r,σ1,hr,fun n B h0 h hn z=>z.lds 3 (ls:=moL) (x:=σ.y) (h2 n B h0 h hn z)⟩
theorem DS.stY {R:β→Sg→Prop}{x:Mo}{f:Nat→Bk→Unit→M β}(hf:DS N s { σ with y:=x } R fun n B=>f n B ()):DS N s σ R fun n B=>M.bind (stN (adr B.b1) (mv x)) (f n B):=by
 obtain⟨r,σ1,hr,h2⟩:=hf
 exact⟨r,σ1,hr,fun n B h0 h hn z=>z.st 3 (cs':=mv x) (fun h' z'=>h2 n B h0 h' hn z') rfl rfl (Nat.le_refl _)⟩
theorem DS.stYc {R:β→Sg→Prop}{x:Mo}{f:Nat→Bk→Unit→M β}(hf:DS N s { σ with y:=x } R fun n B=>f n B ()):DS N s σ R fun n B=>M.bind (Ago.chk [some (adr B.b3),some (adr B.b0)] (stN (adr B.b1) (mv x))) (f n B):=by
 obtain⟨r,σ1,hr,h2⟩:=hf
 refine⟨r,σ1,hr,fun n B h0 h hn z=>?_⟩
 show Wp (M.bind (Ago.chk [some (adr B.b3),some (adr B.b0)] (stN (adr B.b1) (mv x))) (f n B)) h _
 rw [Wp_bind]
 refine chk_Wp ?_
 have l0:LB h B.b0 _ _:=z.get 4 rfl
 have l3:LB h B.b3 _ _:=z.get 1 rfl
 have key:Wp (M.bind (stN (adr B.b1) (mv x)) M.pure) h fun y h'=>Z h0 h' (SL s B { σ with y:=x }):=z.st 3 (cs':=mv x) (fun h' z'=>Wp_pure.2 z') rfl rfl (Nat.le_refl _)
 rw [Wp_bind] at key
 refine key.mono fun y h' hz=>?_
 have z':=Wp_pure.1 hz
 have m0:LB h' B.b0 _ _:=z'.get 4 rfl
 have m3:LB h' B.b3 _ _:=z'.get 1 rfl
 refine⟨fun a hm=>?_,h2 n B h0 h' hn z'⟩
 simp only [List.mem_cons,Option.some.injEq,List.not_mem_nil,or_false] at hm
 rcases hm with rfl | rfl
 ·show h'.get B.b3=h.get B.b3;rw [l3.get,m3.get]
 ·show h'.get B.b0=h.get B.b0;rw [l0.get,m0.get]
def OKr (r:Mo×Bool)(_:Sg):Prop:=MoOK r.1
structure RdI (s:ByteArray) (σ:Sg):Prop where
 lo:0≤σ.pos
 hi:σ.pos≤s.size
 ok:MoOK σ.x
theorem i64w (x:Int):I64 (IntKind.i64.wrap x):=i64_lo x
theorem RdI.fwd (i:RdI s σ)(hs:s.size≤1000000)(h:σ.pos<s.size):RdI s { σ with pos:=IntKind.i64.wrap (σ.pos+1) }:=by
 have:=i.lo
 refine⟨?_,?_,i.ok⟩ <;> simp only <;> rw [w64 (by omega) (by omega)] <;> omega
def NumR (s:ByteArray)(r:Int ⊕ (Int×Bool))(σ:Sg):Prop:=RdI s σ∧(match r with | .inl v=>I64 v | .inr p=>I64 p.1)
theorem num_L0 (hs:s.size≤1000000):∀ (k:Nat) (c v i:Int) (σ:Sg),RdI s σ→0≤i→c - i≤k→c≤100→I64 v→DS (k+1) s σ (NumR s) fun n B=>instant_read_1_L0 n (adr B.b3) (adr B.b0) v c i:=by
 intro k
 induction k with
 | zero =>
  intro c v i σ iv hi hk hc hv
  refine DS.succ (m:=fun n B=>instant_read_1_L0_B (instant_read_1_L0 n) n (adr B.b3) (adr B.b0) v c i) (fun _ _=>rfl) ?_
  unfold instant_read_1_L0_B
  exact DS.ite (fun h1=>by simp only [decide_eq_true_eq] at h1;omega) fun _=>DS.pure ⟨iv,hv⟩
 | succ k ih =>
  intro c v i σ iv hi hk hc hv
  refine DS.succ (m:=fun n B=>instant_read_1_L0_B (instant_read_1_L0 n) n (adr B.b3) (adr B.b0) v c i) (fun _ _=>rfl) ?_
  unfold instant_read_1_L0_B
  have z64:I64 0:=by constructor <;> omega
  refine DS.ite (fun h1=>DS.ldP (DS.ldS (DS.ite (fun _=>DS.pure ⟨iv,z64⟩) fun h2=>?_))) fun _=>DS.pure ⟨iv,hv⟩
  simp only [decide_eq_true_eq] at h1 h2
  have h3:σ.pos<s.size:=by omega
  refine DS.ldS (DS.ldP (DS.ix iv.lo h3 fun c1=>DS.ite (fun _=>DS.pure ⟨iv,z64⟩) fun _=>DS.ldS (DS.ldP (DS.ix iv.lo h3 fun c2=>DS.ite (fun _=>DS.pure ⟨iv,z64⟩) fun _=>?_))))
  unfold instant_read_1_L0_J0_B
  have e:IntKind.i64.wrap (i+1)=i+1:=w64 (by omega) (by omega)
  refine DS.ldS (DS.ldP (DS.ix iv.lo h3 fun c3=>DS.ldP (DS.stP ?_)))
  rw [e]
  exact ih _ _ _ _ (iv.fwd hs h3) (by omega) (by omega) hc (i64w _)
theorem num_ds (hs:s.size≤1000000){c:Int}(h1:0≤c)(h2:c≤9){σ:Sg}(iv:RdI s σ):DS 10 s σ (fun (r:Int×Bool) σ'=>RdI s σ'∧I64 r.1) fun n B=>instant_read_2_D38 n (numV B) c:=by
 have he:∀ n B,instant_read_2_D38 n (numV B) c=M.bind (asFn [tyA,tyA] (numV B)) fun (x:Addr×Addr)=>instant_read_1 n c x.1 x.2:=fun n B=>by
  unfold instant_read_2_D38
  rw [if_pos (show isFn F_instant_read_1 (numV B)=true from rfl)]
 suffices hh:DS 10 s σ (fun (r:Int×Bool) σ'=>RdI s σ'∧I64 r.1) fun n B=>M.bind (asFn [tyA,tyA] (numV B)) fun (x:Addr×Addr)=>instant_read_1 n c x.1 x.2 by
  obtain⟨r,σ1,hr,h3⟩:=hh
  exact⟨r,σ1,hr,fun n B h0 h hn z=>by show Wp (instant_read_2_D38 n (numV B) c) h _;rw [he];exact h3 n B h0 h hn z⟩
 refine DS.fn (c:=fun B=>(adr B.b3,adr B.b0)) (fun B=>rfl) ?_
 unfold instant_read_1
 refine DS.bind ((num_L0 hs 9 c 0 0 σ iv (by omega) (by omega) (by omega) (by constructor <;> omega)).le (by omega)) fun r σ1 hr=>?_
 cases r with
 | inl v=>exact DS.pure ⟨hr.1,hr.2⟩
 | inr p=>exact DS.pure ⟨hr.1,hr.2⟩
abbrev sl2 (B:Bk)(lo len cap:Nat):Sl:=⟨some ⟨B.b2,lo,none⟩,len,cap⟩
theorem DS.ixA {R:β→Sg→Prop}{i:Int}{lo len cap:Nat}{f:Nat→Bk→Addr→M β}(h1:0≤i)(h2:i<(len:Int))(hf:DS N s σ R fun n B=>f n B ⟨B.b2,lo+i.toNat,none⟩):DS N s σ R fun n B=>M.bind (idxA (sl2 B lo len cap) i 1) (f n B):=by
 obtain⟨r,σ1,hr,h3⟩:=hf
 refine⟨r,σ1,hr,fun n B h0 h hn z=>?_⟩
 show Wp (M.bind (idxA (sl2 B lo len cap) i 1) (f n B)) h _
 rw [Wp_bind,Wp_idxA]
 refine⟨_,rfl,h1,h2,?_⟩
 have e:(Addr.plus ⟨B.b2,lo,none⟩ (i.toNat * 1))=⟨B.b2,lo+i.toNat,none⟩:=by simp [Addr.plus]
 rw [e]
 exact h3 n B h0 h hn z
def FldR (s:ByteArray)(_:Unit ⊕ Bool)(σ:Sg):Prop:=RdI s σ
theorem fld_L0 (hs:s.size≤1000000){lo len cap:Nat}(hl:lo+len≤10)(fst sep:Int)(hf:0≤fst∧fst≤9):∀ (k:Nat) (i:Int) (σ:Sg),RdI s σ→0≤i→(len:Int) - i≤k→DS (k+11) s σ (FldR s) fun n B=>instant_read_2_L0 n (sl2 B lo len cap) fst sep (adr B.b3) (adr B.b0) (adr B.b5) len i:=by
 intro k
 induction k with
 | zero =>
  intro i σ iv hi hk
  refine DS.succ (N:=10) (m:=fun n B=>instant_read_2_L0_B (instant_read_2_L0 n) n (sl2 B lo len cap) fst sep (adr B.b3) (adr B.b0) (adr B.b5) len i) (fun _ _=>rfl) ?_
  unfold instant_read_2_L0_B
  exact DS.ite (fun h1=>by simp only [decide_eq_true_eq] at h1;omega) fun _=>DS.pure iv
 | succ k ih =>
  intro i σ iv hi hk
  have e:IntKind.i64.wrap (i+1)=i+1∨¬ (i<len):=by
   by_cases h:i<len
   ·exact .inl (w64 (by omega) (by omega))
   ·exact .inr h
  have tail:∀ {σ:Sg} (w:Int),RdI s σ→0≤w∧w≤9→i<(len:Int)→DS (k+11) s σ (FldR s) fun n B=>instant_read_2_L0_J0_B (instant_read_2_L0 n) n (sl2 B lo len cap) fst sep (adr B.b3) (adr B.b0) (adr B.b5) i w len i:=by
   intro σ w iv hw hlt
   unfold instant_read_2_L0_J0_B
   refine DS.ldF (DS.bind ((num_ds hs hw.1 hw.2 iv).le (by omega)) fun r σ1 hr=>DS.ite (fun _=>DS.pure hr.1) fun _=>DS.ixA hi hlt (DS.stX (j:=lo+i.toNat) (fun _=>rfl) (by omega) ?_))
   rw [e.resolve_right fun h=>h hlt]
   exact ih (i+1) _ ⟨hr.1.lo,hr.1.hi,putM_ok (by omega) hr.1.ok hr.2⟩ (by omega) (by omega)
  refine DS.succ (N:=k+11) (m:=fun n B=>instant_read_2_L0_B (instant_read_2_L0 n) n (sl2 B lo len cap) fst sep (adr B.b3) (adr B.b0) (adr B.b5) len i) (fun _ _=>rfl) ?_
  unfold instant_read_2_L0_B
  refine DS.ite (fun h1=>?_) fun _=>DS.pure iv
  simp only [decide_eq_true_eq] at h1
  refine DS.ite (fun h2=>DS.ldP (DS.ldS (DS.ite (fun _=>DS.pure iv) fun h3=>?_))) fun h2=>?_
  ·simp only [decide_eq_true_eq] at h2 h3
   have h4:σ.pos<s.size:=by omega
   refine DS.ldS (DS.ldP (DS.ix iv.lo h4 fun c=>DS.ite (fun _=>DS.pure iv) fun _=>DS.ldP (DS.stP ?_)))
   have iv2:=iv.fwd hs h4
   exact DS.ite (fun _=>tail fst iv2 hf h1) fun _=>tail 2 iv2 (by omega) h1
  ·exact DS.ite (fun _=>tail fst iv hf h1) fun _=>tail 2 iv (by omega) h1
abbrev fldV (B:Bk):Value:=Value.func (Fn.func F_instant_read_2) #[] #[Value.pointer (some (adr B.b3)),Value.pointer (some (adr B.b0)),Value.pointer (some (adr B.b5))]
theorem fld_ds (hs:s.size≤1000000){lo len cap:Nat}(hl:lo+len≤10)(fst sep:Int)(hf:0≤fst∧fst≤9){σ:Sg}(iv:RdI s σ):DS 30 s σ (fun (_:Bool) σ'=>RdI s σ') fun n B=>instant_read_2 n (sl2 B lo len cap) fst sep (adr B.b3) (adr B.b0) (adr B.b5):=by
 unfold instant_read_2
 refine DS.bind ((fld_L0 hs hl fst sep hf 10 0 σ iv (by omega) (by omega)).le (by omega)) fun r σ1 hr=>?_
 cases r with
 | inl v=>exact DS.pure hr
 | inr p=>exact DS.pure hr
theorem fld_as (hs:s.size≤1000000){lo len cap:Nat}(hl:lo+len≤10)(fst sep:Int)(hf:0≤fst∧fst≤9){σ:Sg}(iv:RdI s σ){D:Nat→Value→Sl→Int→Int→M Bool}
  (hd:∀ n B a,D n (fldV B) a fst sep=M.bind (asFn [tyA,tyA,tyA] (fldV B)) fun (c:Addr×Addr×Addr)=>instant_read_2 n a fst sep (c.1) (c.2.1) (c.2.2)) :
  DS 30 s σ (fun (_:Bool) σ'=>RdI s σ') fun n B=>D n (fldV B) (sl2 B lo len cap) fst sep:=by
 suffices hh:DS 30 s σ (fun (_:Bool) σ'=>RdI s σ') fun n B=>M.bind (asFn [tyA,tyA,tyA] (fldV B)) fun (c:Addr×Addr×Addr)=>instant_read_2 n (sl2 B lo len cap) fst sep (c.1) (c.2.1) (c.2.2) by
  obtain⟨r,σ1,hr,h3⟩:=hh
  exact⟨r,σ1,hr,fun n B h0 h hn z=>by show Wp (D n (fldV B) (sl2 B lo len cap) fst sep) h _;rw [hd];exact h3 n B h0 h hn z⟩
 exact DS.fn (c:=fun B=>(adr B.b3,adr B.b0,adr B.b5)) (fun B=>rfl) (fld_ds hs hl fst sep hf iv)
theorem DS.slA {R:β→Sg→Prop}{lo hi:Nat}{f:Nat→Bk→Sl→M β}(h1:lo≤hi)(h2:hi≤8)(hf:DS N s σ R fun n B=>f n B (sl2 B (1+lo) (hi - lo) (8 - lo+1))):DS N s σ R fun n B=>M.bind (sliceA ((adr B.b2).plus 1) 8 lo hi 1) (f n B):=by
 obtain⟨r,σ1,hr,h3⟩:=hf
 refine⟨r,σ1,hr,fun n B h0 h hn z=>?_⟩
 show Wp (M.bind (sliceA ((adr B.b2).plus 1) 8 lo hi 1) (f n B)) h _
 obtain⟨y,h',e1,e2⟩:=h3 n B h0 h hn z
 refine⟨y,h',?_,e2⟩
 have e0:sliceA ((adr B.b2).plus 1) 8 lo hi 1 h=some (sl2 B (1+lo) (hi - lo) (8 - lo+1),h):=by
  unfold sliceA
  rw [if_pos ⟨by omega,by omega,by omega⟩]
  simp [Addr.plus]
 unfold M.bind
 rw [e0]
 exact e1
theorem nano_L0 (hs:s.size≤1000000)(v:Bk→Value):∀ (k:Nat) (i:Int) (σ:Sg),RdI s σ→0≤i→9 - i≤k→DS (k+1) s σ (fun (r:Int) σ'=>RdI s σ'∧0≤r) fun n B=>instant_read_L0 n (adr B.b0) (adr B.b1) (adr B.b2) (adr B.b3) (v B) i:=by
 intro k
 induction k with
 | zero =>
  intro i σ iv hi hk
  refine DS.succ (m:=fun n B=>instant_read_L0_B (instant_read_L0 n) n (adr B.b0) (adr B.b1) (adr B.b2) (adr B.b3) (v B) i) (fun _ _=>rfl) ?_
  unfold instant_read_L0_B
  exact DS.ite (fun h1=>by simp only [decide_eq_true_eq] at h1;omega) fun _=>DS.pure ⟨iv,hi⟩
 | succ k ih =>
  intro i σ iv hi hk
  refine DS.succ (m:=fun n B=>instant_read_L0_B (instant_read_L0 n) n (adr B.b0) (adr B.b1) (adr B.b2) (adr B.b3) (v B) i) (fun _ _=>rfl) ?_
  unfold instant_read_L0_B
  refine DS.ite (fun h1=>DS.ldP (DS.ldS (DS.ite (fun h2=>?_) fun _=>DS.pure ⟨iv,hi⟩))) fun _=>DS.pure ⟨iv,hi⟩
  simp only [decide_eq_true_eq] at h1 h2
  refine DS.ldS (DS.ldP (DS.ix iv.lo h2 fun c1=>DS.ite (fun _=>DS.ldS (DS.ldP (DS.ix iv.lo h2 fun c2=>DS.ite (fun _=>?_) fun _=>DS.pure ⟨iv,hi⟩))) fun _=>DS.pure ⟨iv,hi⟩))
  unfold instant_read_L0_J0_B
  have e:IntKind.i64.wrap (i+1)=i+1:=w64 (by omega) (by omega)
  refine DS.ldX (j:=9) (fun _=>rfl) (by omega) (DS.ldS (DS.ldP (DS.ix iv.lo h2 fun c3=>DS.stX (j:=9) (fun _=>rfl) (by omega) (DS.ldP (DS.stP ?_)))))
  rw [e]
  exact ih _ _ (RdI.fwd (σ:={ σ with x:=putM σ.x 9 _ }) ⟨iv.lo,iv.hi,putM_ok (by omega) iv.ok (i64w _)⟩ hs h2) (by omega) (by omega)
theorem nano_L1 (v:Bk→Value):∀ (k:Nat) (i:Int) (σ:Sg),RdI s σ→0≤i→9 - i≤k→DS (k+1) s σ (fun (_:Unit) σ'=>RdI s σ') fun n B=>instant_read_L1 n (adr B.b0) (adr B.b1) (adr B.b2) (adr B.b3) (v B) i:=by
 intro k
 induction k with
 | zero =>
  intro i σ iv hi hk
  refine DS.succ (m:=fun n B=>instant_read_L1_B (instant_read_L1 n) n (adr B.b0) (adr B.b1) (adr B.b2) (adr B.b3) (v B) i) (fun _ _=>rfl) ?_
  unfold instant_read_L1_B
  exact DS.ite (fun h1=>by simp only [decide_eq_true_eq] at h1;omega) fun _=>DS.pure iv
 | succ k ih =>
  intro i σ iv hi hk
  refine DS.succ (m:=fun n B=>instant_read_L1_B (instant_read_L1 n) n (adr B.b0) (adr B.b1) (adr B.b2) (adr B.b3) (v B) i) (fun _ _=>rfl) ?_
  unfold instant_read_L1_B
  refine DS.ite (fun h1=>?_) fun _=>DS.pure iv
  simp only [decide_eq_true_eq] at h1
  have e:IntKind.i64.wrap (i+1)=i+1:=w64 (by omega) (by omega)
  refine DS.ldX (j:=9) (fun _=>rfl) (by omega) (DS.stX (j:=9) (fun _=>rfl) (by omega) ?_)
  rw [e]
  exact ih _ _ ⟨iv.lo,iv.hi,putM_ok (by omega) iv.ok (i64w _)⟩ (by omega) (by omega)
theorem putZ_ok {x:Mo}{v:Int}(hx:MoOK x):MoOK (putZ x v):=hx
theorem fin1 {b:Bool}{σ:Sg}(hx:MoOK σ.x):DS N s σ OKr fun n B=>M.bind (ldLs moL (adr B.b2)) fun (x:Mo)=>M.bind (stN (adr B.b1) (mv x)) fun _=>M.bind (ldLs moL (adr B.b1)) fun (y:Mo)=>M.pure (y,b) :=
 DS.lds (DS.stY (DS.ldsY (DS.pure hx)))
theorem fin2 {σ:Sg}(hx:MoOK σ.x):DS N s σ OKr fun n B=>M.bind (ldLs moL (adr B.b2)) fun (x:Mo)=>M.bind (ldL li (adr B.b3)) fun (p:Int)=>M.bind (ldL .str (adr B.b0)) fun (t:ByteArray)=>M.bind (Ago.chk [some (adr B.b3),some (adr B.b0)] (stN (adr B.b1) (mv x))) fun _=>M.bind (ldLs moL (adr B.b1)) fun (y:Mo)=>M.pure (y,decide (p=(t.size:Int))) :=
 DS.lds (DS.ldP (DS.ldS (DS.stYc (DS.ldsY (DS.pure hx)))))
theorem ird_J4 (hs:s.size≤1000000)(iv:RdI s σ)(hp:σ.pos<s.size):DS 30 s σ OKr fun n B=>instant_read_J4 n (adr B.b0) (adr B.b1) (adr B.b2) (adr B.b3) (fldV B):=by
 unfold instant_read_J4
 have iv2:∀ c,RdI s { x:=putZ σ.x c,pos:=IntKind.i64.wrap (σ.pos+1),y:=σ.y }:=fun c=>⟨(iv.fwd hs hp).lo,(iv.fwd hs hp).hi,putZ_ok iv.ok⟩
 refine DS.ldS (DS.ldP (DS.ix iv.lo hp fun c=>DS.stZ (DS.ldP (DS.stP (DS.ldZ (DS.ite (fun _=>fin2 (putZ_ok iv.ok)) fun _=>DS.ldZ (DS.ite (fun _=>DS.ldZ (DS.ite (fun _=>fin1 (putZ_ok iv.ok)) fun _=>?_)) fun _=>?_)))))))
 ·exact DS.slA (lo:=6) (hi:=8) (by omega) (by omega) (DS.bind (fld_as hs (by omega) 2 58 (by omega) (iv2 _) (D:=instant_read_D143) fun n B a=>if_pos (show isFn F_instant_read_2 (fldV B)=true from rfl)) fun r σ1 iv3=>DS.ite (fun _=>fin1 iv3.ok) fun _=>fin2 iv3.ok)
 ·exact DS.slA (lo:=6) (hi:=8) (by omega) (by omega) (DS.bind (fld_as hs (by omega) 2 58 (by omega) (iv2 _) (D:=instant_read_D143) fun n B a=>if_pos (show isFn F_instant_read_2 (fldV B)=true from rfl)) fun r σ1 iv3=>DS.ite (fun _=>fin1 iv3.ok) fun _=>fin2 iv3.ok)
theorem ird_J3 (hs:s.size≤1000000)(iv:RdI s σ):DS 30 s σ OKr fun n B=>instant_read_J3 n (adr B.b0) (adr B.b1) (adr B.b2) (adr B.b3) (fldV B):=by
 unfold instant_read_J3
 exact DS.ldP (DS.ldS (DS.ite (fun hp=>DS.ldX (j:=0) (fun _=>rfl) (by omega) (DS.ite (fun _=>ird_J4 hs iv (by simpa using hp)) fun _=>fin2 iv.ok)) fun _=>fin2 iv.ok))
theorem ird_J2 (hs:s.size≤1000000)(iv:RdI s σ)(hp:σ.pos<s.size):DS 30 s σ OKr fun n B=>instant_read_J2 n (adr B.b0) (adr B.b1) (adr B.b2) (adr B.b3) (fldV B):=by
 unfold instant_read_J2
 refine DS.ldP (DS.stP (DS.bind ((nano_L0 hs fldV 9 0 _ (iv.fwd hs hp) (by omega) (by omega)).le (by omega)) fun r σ1 hr=>DS.ite (fun _=>fin1 hr.1.ok) fun _=>DS.bind ((nano_L1 fldV 9 r σ1 hr.1 hr.2 (by omega)).le (by omega)) fun _ σ2 iv2=>ird_J3 hs iv2))
theorem ird_J1 (hs:s.size≤1000000)(iv:RdI s σ):DS 30 s σ OKr fun n B=>instant_read_J1 n (adr B.b0) (adr B.b1) (adr B.b2) (adr B.b3) (fldV B):=by
 unfold instant_read_J1
 refine DS.slA (lo:=3) (hi:=6) (by omega) (by omega) (DS.bind (fld_as hs (by omega) 2 58 (by omega) iv (D:=instant_read_D44) fun n B a=>if_pos (show isFn F_instant_read_2 (fldV B)=true from rfl)) fun r σ1 iv3=>DS.ite (fun _=>fin1 iv3.ok) fun _=>DS.ldX (j:=0) (fun _=>rfl) (by omega) (DS.stX (j:=0) (fun _=>rfl) (by omega) ?_))
 have iv4:RdI s { σ1 with x:=putM σ1.x 0 (IntKind.i64.wrap (getM σ1.x 0+2)) }:=⟨iv3.lo,iv3.hi,putM_ok (by omega) iv3.ok (i64w _)⟩
 exact DS.ldP (DS.ldS (DS.ite (fun hp=>DS.ldS (DS.ldP (DS.ix iv3.lo (by simpa using hp) fun c=>DS.ite (fun _=>ird_J2 hs iv4 (by simpa using hp)) fun _=>ird_J3 hs iv4))) fun _=>ird_J3 hs iv4))
theorem ird_J0 (hs:s.size≤1000000)(iv:RdI s σ):DS 30 s σ OKr fun n B=>instant_read_J0 n (adr B.b0) (adr B.b1) (adr B.b2) (adr B.b3) (fldV B):=by
 unfold instant_read_J0
 refine DS.slA (lo:=0) (hi:=3) (by omega) (by omega) (DS.bind (fld_as hs (by omega) 4 45 (by omega) iv (D:=instant_read_D19) fun n B a=>if_pos (show isFn F_instant_read_2 (fldV B)=true from rfl)) fun r σ1 iv3=>DS.ite (fun _=>fin1 iv3.ok) fun _=>DS.stX (j:=0) (fun _=>rfl) (by omega) ?_)
 have iv4:RdI s { σ1 with x:=putM σ1.x 0 1 }:=⟨iv3.lo,iv3.hi,putM_ok (by omega) iv3.ok (by constructor <;> omega)⟩
 refine DS.ldP (DS.ldS (DS.ite (fun _=>fin1 iv4.ok) fun hp=>?_))
 have h5:σ1.pos<s.size:=by have:=iv3.hi;simp only [decide_eq_true_eq] at hp;omega
 have iv5:=iv4.fwd hs h5
 exact DS.ldS (DS.ldP (DS.ix iv3.lo h5 fun c=>DS.ite (fun _=>DS.ldS (DS.ldP (DS.ix iv3.lo h5 fun c=>DS.ite (fun _=>fin1 iv4.ok) fun _=>DS.ldP (DS.stP (ird_J1 hs iv5))))) fun _=>DS.ldP (DS.stP (ird_J1 hs iv5))))
abbrev mo0:Mo:=(0,0,0,0,0,0,0,0,0,0,0)
theorem read_body (hs:s.size≤1000000):DS 30 s ⟨mo0,0,mo0⟩ OKr fun n B=>M.bind (ldL .str (adr B.b0)) fun (x7:ByteArray) =>
  if decide (2<(↑(ByteArray.size x7):Int)) then
   M.bind (ldL .str (adr B.b0)) fun (x8:ByteArray) =>
   M.bind (idxS x8 2) fun x9 =>
   if !decide ((↑x9.toNat:Int)=58) then
    instant_read_J0 n (adr B.b0) (adr B.b1) (adr B.b2) (adr B.b3) (fldV B)
   else
    instant_read_J1 n (adr B.b0) (adr B.b1) (adr B.b2) (adr B.b3) (fldV B)
  else
   instant_read_J1 n (adr B.b0) (adr B.b1) (adr B.b2) (adr B.b3) (fldV B):=by
 have iv:RdI s ⟨mo0,0,mo0⟩:=⟨by show (0:Int)≤0;omega,by show (0:Int)≤_;omega,by unfold MoOK;decide⟩
 exact DS.ldS (DS.ite (fun hp=>DS.ldS (DS.ix (by omega) (by simpa using hp) fun c=>DS.ite (fun _=>ird_J0 hs iv) fun _=>ird_J1 hs iv)) fun _=>ird_J1 hs iv)
theorem read_dd (hs:s.size≤1000000):DD 30 (fun r:Mo×Bool=>MoOK r.1) fun n=>instant_read n s:=by
 obtain⟨r,σ1,hr,h1⟩:=read_body (s:=s) hs
 refine⟨r,hr,fun n h hn hw=>?_⟩
 show Wp (instant_read n s) h _
 unfold instant_read
 refine (Z.start hw).new fun x0 h1' z1 _=>z1.new (fun x1 h2' z2 _=>z2.new (fun x2 h3' z3 _=>z3.new fun x3 h4' z4 _=>z4.st 0 (cs':=[vi 0]) fun h5' z5=>z5.new fun x5 h6' z6 _=>z6.st 0 (cs':=[numV ⟨x0,x1,x2,x3,x5⟩]) fun h7' z7=>?_))
 refine (h1 n ⟨x0,x1,x2,x3,x5⟩ h h7' hn z7).mono fun y h8 h9=>⟨h9.1,h9.2.fr⟩
end Go.Sh
set_option linter.all false
namespace Go.Sh
open Go Go.Ago Go.Proofs
variable {α β:Type}{h h' h0:AHeap}{L:List Own}{Q:β→AHeap→Prop}{N M':Nat}{x:Mo}
theorem DM.succ {P:α→Prop}{l m:Nat→Nat→M α}(he:∀ n a,l (n+1) a=m n a)(hm:DM N x P m):DM (N+1) x P l:=by
 obtain⟨r,hr,h1⟩:=hm
 refine⟨r,hr,fun n h0 h b hn z=>?_⟩
 obtain⟨n,rfl⟩:∃ m,n=m+1:=⟨n - 1,by omega⟩
 rw [he]
 exact h1 n h0 h b (by omega) z
theorem DM.bind {P:α→Prop}{R:β→Prop}{m:Nat→Nat→M α}{f:Nat→Nat→α→M β}(hm:DM N x P m)(hf:∀ y,P y→DM N x R fun n a=>f n a y):DM N x R fun n a=>M.bind (m n a) (f n a):=by
 obtain⟨y,hy,h1⟩:=hm
 obtain⟨r,hr,h2⟩:=hf y hy
 refine⟨r,hr,fun n h0 h b hn z=>?_⟩
 show Wp (M.bind (m n b) (f n b)) h _
 rw [Wp_bind]
 refine (h1 n h0 h b hn z).mono fun w h3 hw=>?_
 obtain⟨rfl,f3⟩:=hw
 exact h2 n h0 h3 b hn f3
theorem DM.arr {R:β→Prop}{e:TypeId}{c0 cs:List Value}{ls:List Leaf}{w:LsDen ls}{f:Nat→Nat→LsDen ls→M β}(h0:c0.all scal=true)(h1:cs.all scal=true)(h2:c0.length=cs.length)(h3:unLs ls cs=some w)(h4:ls.length=cs.length)
  (hf:DM N x R fun n a=>f n a w):DM N x R fun n a=>M.bind (newB none e c0) fun b=>M.bind (stN (adr b) cs) fun _=>M.bind (ldLs ls (adr b)) (f n a):=by
 obtain⟨r,hr,h5⟩:=hf
 refine⟨r,hr,fun n g0 h a hn z=>?_⟩
 refine z.new (fun b h1' z1 _=>z1.st 0 (cs':=cs) (fun h2' z2=>z2.lds 0 (x:=w) (h5 n g0 h2' a hn z2.drop) rfl h3 h4) rfl ?_ ?_ h1) h0
 ·show splice c0 0 cs=cs
  unfold splice;rw [Nat.zero_add,← h2];simp
 ·rw [h2];omega
theorem DD.arr {R:β→Prop}{e:TypeId}{c0 cs:List Value}{ls:List Leaf}{w:LsDen ls}{f:Nat→LsDen ls→M β}(h0:c0.all scal=true)(h1:cs.all scal=true)(h2:c0.length=cs.length)(h3:unLs ls cs=some w)(h4:ls.length=cs.length)
  (hf:DD N R fun n=>f n w):DD N R fun n=>M.bind (newB none e c0) fun b=>M.bind (stN (adr b) cs) fun _=>M.bind (ldLs ls (adr b)) (f n):=by
 obtain⟨r,hr,h5⟩:=hf
 refine⟨r,hr,fun n h hn hw=>?_⟩
 refine (Z.start hw).new (fun b h1' z1 _=>z1.st 0 (cs':=cs) (fun h2' z2=>z2.lds 0 (x:=w) ?_ rfl h3 h4) rfl ?_ ?_ h1) h0
 ·exact (h5 n h2' hn z2.wf).mono fun y h' hy=>⟨hy.1,fr_trans hw z2.fr hy.2⟩
 ·show splice c0 0 cs=cs
  unfold splice;rw [Nat.zero_add,← h2];simp
 ·rw [h2];omega
theorem mrng_L0 (w:Int×Int×Int×Int×Int):∀ (k:Nat) (i:Int),0≤i→5 - i≤k→DM (k+1) x (Any:Unit ⊕ Bool→Prop) fun n a=>instant_moment_ranges_L0 n (adr a) w i:=by
 intro k
 induction k with
 | zero =>
  intro i hi hk
  refine DM.succ (m:=fun n a=>instant_moment_ranges_L0_B (instant_moment_ranges_L0 n) n (adr a) w i) (fun _ _=>rfl) ?_
  unfold instant_moment_ranges_L0_B
  exact DM.ite (fun h1=>by simp only [decide_eq_true_eq] at h1;omega) fun _=>DM.pure trivial
 | succ k ih =>
  intro i hi hk
  refine DM.succ (m:=fun n a=>instant_moment_ranges_L0_B (instant_moment_ranges_L0 n) n (adr a) w i) (fun _ _=>rfl) ?_
  unfold instant_moment_ranges_L0_B
  refine DM.ite (fun h1=>?_) fun _=>DM.pure trivial
  simp only [decide_eq_true_eq] at h1
  have e1:IntKind.i64.wrap (i+1)=i+1:=w64 (by omega) (by omega)
  have e3:IntKind.i64.wrap (i+3)=i+3:=w64 (by omega) (by omega)
  rw [e1,e3]
  have hix:∃ v:Int,[vi w.1,vi w.2.1,vi w.2.2.1,vi w.2.2.2.1,vi w.2.2.2.2][i.toNat]?=some (vi v):=by
   have:i.toNat=0∨i.toNat=1∨i.toNat=2∨i.toNat=3∨i.toNat=4:=by omega
   rcases this with h | h | h | h | h <;> rw [h] <;> exact⟨_,rfl⟩
  obtain⟨v,hv⟩:=hix
  refine DM.dd (P:=fun y:Int=>y=v) ⟨v,rfl,fun n h _ hw=>Wp_idxC hi (by omega) hv rfl ⟨rfl,Fr.refl hw⟩⟩ fun y _=>DM.ck (by simp;omega) (DM.ld (l:=li) (o:=1+(i+3).toNat) (fun b=>?_) (getM_mv (by omega)) rfl (DM.ite (fun _=>DM.pure trivial) fun _=>ih _ (by omega) (by omega)))
  simp [Addr.plus]
theorem mrng_J0:DM 20 x (Any:Bool→Prop) fun n a=>instant_moment_ranges_J0 n (adr a):=by
 unfold instant_moment_ranges_J0
 refine DM.arr (ls:=[li,li,li,li,li]) (w:=(23,59,59,23,59)) rfl rfl rfl rfl rfl (DM.bind ((mrng_L0 _ 5 0 (by omega) (by omega)).le (by omega)) fun y _=>?_)
 cases y with
 | inl v=>exact DM.pure trivial
 | inr v=>exact DM.pure trivial
theorem ranges_dd:DD 20 (Any:Bool→Prop) fun n=>instant_moment_ranges n x:=by
 unfold instant_moment_ranges
 refine DM.run (x:=x) ?_
 refine DM.ld (o:=0) (fun _=>rfl) rfl rfl (DM.ite (fun _=>DM.ck (by decide) (DM.ld (o:=1) (fun _=>rfl) rfl rfl (DM.ck (by decide) (DM.ld (o:=2) (fun _=>rfl) rfl rfl (DM.ck (by decide) (DM.ld (o:=3) (fun _=>rfl) rfl rfl (DM.dd (days_dd _ _ _) fun y _=>DM.ite (fun _=>DM.pure trivial) fun _=>mrng_J0))))))) fun _=>mrng_J0)
theorem seconds_dd:DD 20 (Any:Int→Prop) fun n=>instant_moment_seconds n x:=by
 unfold instant_moment_seconds
 refine DM.run (x:=x) ?_
 exact DM.ck (by decide) (DM.ld (o:=1) (fun _=>rfl) rfl rfl (DM.ck (by decide) (DM.ld (o:=2) (fun _=>rfl) rfl rfl (DM.ck (by decide) (DM.ld (o:=3) (fun _=>rfl) rfl rfl (DM.dd (days_dd _ _ _) fun y _ =>
  DM.ck (by decide) (DM.ld (o:=4) (fun _=>rfl) rfl rfl (DM.ck (by decide) (DM.ld (o:=5) (fun _=>rfl) rfl rfl (DM.ck (by decide) (DM.ld (o:=6) (fun _=>rfl) rfl rfl (DM.ck (by decide) (DM.ld (o:=7) (fun _=>rfl) rfl rfl (DM.ck (by decide) (DM.ld (o:=8) (fun _=>rfl) rfl rfl
   (DM.ld (l:=.int .u8) (o:=10) (fun _=>rfl) rfl rfl (DM.ite (fun _=>DM.pure trivial) fun _=>DM.pure trivial)))))))))))))))))
theorem tm60 (a:Int):I64 (a.tmod 60):=by
 have h1:=Int.tmod_lt_of_pos a (b:=60) (by decide)
 have h2:=Int.lt_tmod_of_pos a (b:=60) (by decide)
 constructor <;> omega
theorem ofs_J1 {a0 a1 a2:Int}(h0:I64 a0):DD 10020 (Any:ByteArray×Int→Prop) fun n=>instant_OfSeconds_J1 n a0 a1 a2:=by
 unfold instant_OfSeconds_J1
 have h90:(ofBytes [90]).size=1:=rfl
 refine (date_dd a1).bind fun y hy=>DD.ite (fun _=>DD.pure trivial) fun _=>(DD.ck (by decide)).bind fun _ _=>(DD.ck (by decide)).bind fun _ _=>(DD.ck (by decide)).bind fun _ _=>(DD.ck (by decide)).bind fun _ _=>?_
 refine DD.arr (ls:=moL) (w:=((3,y.1,y.2.1,y.2.2.1,IntKind.i64.wrap (a2.tdiv 3600),(IntKind.i64.wrap (a2.tdiv 60)).tmod 60,a2.tmod 60,0,0,a0,0):Mo)) rfl rfl rfl rfl rfl ?_
 exact (text_dd (x:=(3,y.1,y.2.1,y.2.2.1,IntKind.i64.wrap (a2.tdiv 3600),(IntKind.i64.wrap (a2.tdiv 60)).tmod 60,a2.tmod 60,0,0,a0,0)) ⟨hy.1,hy.2.1,hy.2.2,i64w _,tm60 _,tm60 _,h0⟩).bind fun z hz=>(DD.cat (by omega)).bind fun _ _=>DD.pure trivial
theorem ofs_dd {a0 a1:Int}:DD 10020 (Any:ByteArray×Int→Prop) fun n=>instant_OfSeconds n a0 a1:=by
 unfold instant_OfSeconds
 refine DD.ite (fun _=>DD.pure trivial) fun g1=>DD.ite (fun _=>DD.pure trivial) fun g2=>DD.ite (fun _=>DD.pure trivial) fun _=>DD.ite (fun _=>DD.pure trivial) fun _=>?_
 simp only [decide_eq_true_eq] at g1 g2
 have h0:I64 a1:=by constructor <;> omega
 unfold instant_OfSeconds_J0
 exact (DD.ck (by decide)).bind fun _ _=>(DD.ck (by decide)).bind fun _ _=>DD.ite (fun _=>ofs_J1 h0) fun _=>ofs_J1 h0
theorem DM.run0 {P:α→Prop}{m:Nat→Nat→M α}(hm:DM N x P m):DD N P fun n=>M.bind (newB none T_instant_moment (mv mo0)) fun b=>M.bind (stN (adr b) (mv x)) fun _=>m n b:=by
 obtain⟨r,hr,h1⟩:=hm
 exact⟨r,hr,fun n h hn hw=>(Z.start hw).new fun b h1' z1 f1=>z1.st 0 (cs':=mv x) (fun h2' z2=>(h1 n h h2' b hn z2).mono fun y h2 h3=>⟨h3.1,h3.2.fr⟩) rfl rfl (Nat.le_refl 11)⟩
theorem inst_J0 (hx:MoOK x):DM 10020 x (Any:ByteArray×Int→Prop) fun n a=>instant_Instant_J0 n (adr a):=by
 unfold instant_Instant_J0
 refine DM.lds (DM.dd (ranges_dd.le (by omega)) fun y _=>DM.ite (fun _=>DM.pure trivial) fun _=>DM.lds (DM.ld (l:=li) (o:=9) (fun _=>rfl) rfl rfl (DM.ddc (ads:=fun a=>[some ((adr a).plus 9)]) (seconds_dd.le (by omega)) (fun b a hm c hc=>?_) fun z _=>DM.dd ofs_dd fun w _=>DM.pure trivial)))
 subst hc;simp [Addr.plus] at hm;subst hm;rfl
theorem Instant_dd {s:ByteArray}(hs:s.size≤1000000):DD 10020 (Any:ByteArray×Int→Prop) fun n=>instant_Instant n s:=by
 unfold instant_Instant
 refine ((read_dd hs).le (by omega)).bind fun y hy=>DM.run0 (x:=y.1) (DM.ite (fun _=>DM.pure trivial) fun _=>DM.ld (l:=.int .u8) (o:=10) (fun _=>rfl) rfl rfl (DM.ite (fun _=>DM.pure trivial) fun _=>inst_J0 hy))
theorem Local_dd {s:ByteArray}(hs:s.size≤1000000):DD 10020 (Any:ByteArray×Int→Prop) fun n=>instant_Local n s:=by
 unfold instant_Local
 exact ((read_dd hs).le (by omega)).bind fun y hy=>DM.run0 (x:=y.1) (DM.ite (fun _=>DM.pure trivial) fun _=>DM.ld (l:=.int .u8) (o:=10) (fun _=>rfl) rfl rfl (DM.ite (fun _=>DM.pure trivial) fun _=>DM.lds (DM.dd (ranges_dd.le (by omega)) fun z _=>DM.ite (fun _=>DM.pure trivial) fun _=>DM.lds (DM.dd (text_dd hy) fun w _=>DM.pure trivial))))
theorem Shape_dd {s:ByteArray}(hs:s.size≤1000000):DD 10020 (Any:Int→Prop) fun n=>instant_Shape n s:=by
 unfold instant_Shape
 exact (Local_dd hs).bind fun y _=>DD.ite (fun _=>DD.pure trivial) fun _=>DD.ite (fun _=>DD.pure trivial) fun _=>((read_dd hs).le (by omega)).bind fun z hz=>DM.run0 (x:=z.1) (DM.ld (l:=li) (o:=0) (fun _=>rfl) rfl rfl (DM.pure trivial))
end Go.Sh
