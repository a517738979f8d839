
import Derived.Test.YthcljaholofonaaGreatDoorGc
import Derived.Test.YthcljaholofonaaGreatDoorPab
set_option linter.all false
namespace Go.Sh
open Go Go.Ago Go.Proofs
variable {α β:Type}{h h' h0:aj}{L:List bA}{Q:β->aj->Prop}{N M':Nat}
def DD.succ {P:α->Prop}{l m}(he:∀n,l (n+1)=m n)(hm:DD N P m):DD (N+1) P l:=by
 obtain⟨r,hr,h1⟩:=hm;refine⟨r,hr,λn h hn hw=>?_⟩;obtain⟨n,rfl⟩:∃m,n=m+1:=⟨n-1,by omega⟩;rw[he];exact h1 n h (by omega) hw
def ago {s}(hs:s.size<=65536):∀(k:Nat) (i:Int),0<=i->s.size-i<=k->DD (k+1) (Any:Unit⊕Bool->Prop) λn=>sQ n s (s.size:Int) i:=by
 intro k
 induction k with
 |zero=>
  intro i hi hk;refine DD.succ (m:=λn=>qh (sQ n) n s (s.size:Int) i) (λ_=>rfl) ?_;unfold qh;exact DD.ite (λh1=>by grind) λ_=>DD.pure trivial
 |succ k ih=>
  intro i hi hk;refine DD.succ (m:=λn=>qh (sQ n) n s (s.size:Int) i) (λ_=>rfl) ?_;unfold qh;refine DD.ite (λh1=>?_) λ_=>DD.pure trivial;simp at h1;have e:IntKind.i64.wrap (i+1)=i+1:=vw (by omega) (by omega);have hlt:i.toNat<s.size:=by omega
  have ih':=ih (i+1) (by omega) (by omega);rw[<-e] at ih';refine DD.bind (P:=Any) ⟨s[i.toNat],trivial,λn h _ hw=>fA.2 ⟨_,hi,getElem?_pos s i.toNat hlt,rfl,Fr.refl hw⟩⟩ λc _=>?_;clear ih;generalize (c.toNat:Int)=C
  repeat' first|exact ih' | exact DD.pure trivial|refine DD.ite (λ_=>?_) (λ_=>?_)
def Ol {s}(hs:s.size<=65536):DD 65538 (Any:Bool->Prop) λn=>Bg n s:=by
 unfold Bg;refine ((ago hs s.size 0 (by omega) (by omega)).le (by omega)).bind λy _=>?_;cases y with
 |inl v=>exact DD.ite (λ_=>DD.pure trivial) λ_=>DD.pure trivial
 |inr v=>exact DD.pure trivial
def U1 {s}(hs:s.size<=65536):DD 10020 (Any:Bool->Prop) λn=>sh (qu n s) λx0=>if decide (x0.2=0) then AI (oG x0.1 s) else AI false:=
 (Tr (by omega)).bind λy _=>DD.ite (λ_=>DD.pure trivial) λ_=>DD.pure trivial
def ack {s}(hs:s.size<=65536):DD 10020 (Any:Bool->Prop) λn=>sh (sW n s) λx0=>AI !decide (x0=0):=
 (acj (by omega)).bind λy _=>DD.pure trivial
noncomputable def aix (s:ζ):Bool:=if hs:s.size<=65536 then (Ol hs).choose else false
noncomputable def aiy (s:ζ):Bool:=if hs:s.size<=65536 then (U1 hs).choose else false
noncomputable def aoD (s:ζ):Bool:=if hs:s.size<=65536 then (ack hs).choose else false
noncomputable def KW (k:Int)(t:ζ):Option Bool:=
 if k=0 then some (oG t (ofBytes []))
 else if k=1 then some (oG t (ofBytes [116,114,117,101])||oG t (ofBytes [102,97,108,115,101]))
 else if k=2 then some (qe t)
 else if k=5 then some (decide (Uv (rY t (t.size+1) 0)=0))
 else if k=6 then some true
 else if k=3 then some (KL t)
 else if k=4 then some (alX t)
 else if k=7 then some (aiy t)
 else if k=8 then some (aoD t)
 else some false
noncomputable def ji (x:ao):Option Bool:=
 if x.kind=9 then some (oG x.text (ofBytes [])&&!x.ord&&decide (x.keys.length=0))
 else if x.kind=10 then some (oG x.text (ofBytes [])&&decide (x.keys.length=x.items.length))
 else if x.kind=11 then some (aix x.text&&!x.ord&&decide (x.keys.length=0)&&decide (x.items.length=1))
 else if x.ord=false/\x.keys.length=0/\x.items.length=0 then KW x.kind x.text else some false
def Ts k t:∃r,KW k t=some r:=by
 unfold KW
 repeat' split
 all_goals exact⟨_,rfl⟩
def Tt x:∃r,ji x=some r:=by
 unfold ji
 repeat' split
 all_goals first|exact⟨_,rfl⟩|exact Ts _ _
def Yn {k}{t}{n}(z:Z h0 h L)(hs:t.size<=65536)(hn:65538<=n){r}(hr:KW k t=some r):Wp (uR n k t) h λx h'=>x=r/\Z h0 h' L:=by
 unfold uR;unfold KW at hr;by_cases h0:k=0
 .rw[By h0] at hr;cases hr;rw[By (by grind),ag];grind
 rw[AT h0] at hr;rw[AT (by grind)];by_cases h1:k=1
 .rw[By h1] at hr;cases hr;rw[By (by grind)];cases he:oG t (ofBytes [116,114,117,101]) with
  |true=>rw[By rfl,ag];grind
  |false=>rw[AT (by simp),ag];grind
 rw[AT h1] at hr;rw[AT (by grind)];by_cases h2:k=2
 .rw[By h2] at hr;cases hr;rw[By (by grind),ah];refine (AK hs (by omega) z.wf).mono λx h' hx=>?_;rw[ag];exact⟨hx.1,z.pure hx.2⟩
 rw[AT h2] at hr;rw[AT (by grind)];by_cases h5:k=5
 .rw[By h5] at hr;cases hr;subst h5;rw[AT (by decide),AT (by decide),By (by decide)];unfold tf;rw[ah,ag,ag];grind
 rw[AT h5] at hr;by_cases h6:k=6
 .rw[By h6] at hr;cases hr;subst h6;rw[AT (by decide),AT (by decide),AT (by decide),By (by decide),ag]
  grind
 rw[AT h6] at hr;by_cases h3:k=3
 .rw[By h3] at hr;cases hr;rw[By (by grind),ah];refine (HI hs (by omega) z.wf).mono λx h' hx=>?_;rw[ag];exact⟨hx.1,z.pure hx.2⟩
 rw[AT h3] at hr;rw[AT (by grind)];by_cases h4:k=4
 .rw[By h4] at hr;cases hr;rw[By (by grind),ah];refine (I8 hs z.wf).mono λx h' hx=>?_;rw[ag];exact⟨hx.1,z.pure hx.2⟩
 rw[AT h4] at hr;rw[AT (by grind),AT (by grind),AT (by grind)];by_cases h7:k=7
 .rw[By h7] at hr;cases hr;rw[By (by grind)];unfold aiy;rw[dif_pos hs];exact ((U1 hs).choose_spec.2 n h (by omega) z.wf).mono λx h' hx=>⟨hx.1,z.pure hx.2⟩
 rw[AT h7] at hr;rw[AT (by grind)];by_cases h8:k=8
 .rw[By h8] at hr;cases hr;rw[By (by grind)];unfold aoD;rw[dif_pos hs];exact ((ack hs).choose_spec.2 n h (by omega) z.wf).mono λx h' hx=>⟨hx.1,z.pure hx.2⟩
 rw[AT h8] at hr;cases hr;rw[AT (by grind),ag]
 grind
def agp {x}{ks is}{n}(z:Z h0 h L)(ik:IL h0 ks x.keys)(ii:IL h0 is x.items)(hs:x.text.size<=65536)(hn:65538<=n){r}(hr:ji x=some r) :
  Wp (BC n (x.kind,x.text,x.ord,ks,is)) h λy h'=>y=r/\Z h0 h' L:=by
 unfold BC;unfold ji at hr;refine z.new λb h1 z f1=>?_;refine z.ld 0 (x:=x.kind) ?_;by_cases h9:x.kind=9
 .rw[By h9] at hr;cases hr;rw[By (by grind)];refine z.ld 0 (x:=x.text) ?_;cases he:oG x.text (ofBytes []) with
  |false=>rw[AT (by simp),ag];exact⟨by simp,z.drop⟩
  |true=>
   rw[By rfl];refine z.ld 0 (x:=x.ord) ?_;cases ho:x.ord with
   |true=>rw[AT (by simp),ag];exact⟨by simp,z.drop⟩
   |false=>
    rw[By (by simp)];refine z.ld 0 (x:=ks) ?_;rw[ag];exact⟨by simp[ik.len],z.drop⟩
 rw[AT h9] at hr;rw[AT (by grind)];by_cases h10:x.kind=10
 .rw[By h10] at hr;cases hr;rw[By (by grind)];refine z.ld 0 (x:=x.text) ?_;cases he:oG x.text (ofBytes []) with
  |false=>rw[AT (by simp),ag];exact⟨by simp,z.drop⟩
  |true=>
   rw[By rfl];refine z.ld 0 (x:=ks) ?_;refine z.ld 0 (x:=is) ?_;rw[ag];refine⟨?_,z.drop⟩;rw[ik.len,ii.len]
   grind
 rw[AT h10] at hr;rw[AT (by grind)];by_cases h11:x.kind=11
 .rw[By h11] at hr;cases hr;rw[By (by grind)];refine z.ld 0 (x:=x.text) ?_;rw[ah];unfold aix;rw[dif_pos hs];refine ((Ol hs).choose_spec.2 n _ hn z.wf).mono λy h' hy=>?_;obtain⟨rfl,f⟩:=hy;have z:=z.pure f;generalize (Ol hs).choose=y;cases y with
  |false=>rw[AT (by simp),ag];exact⟨by simp,z.drop⟩
  |true=>
   rw[By rfl];refine z.ld 0 (x:=x.ord) ?_;cases ho:x.ord with
   |true=>rw[AT (by simp),ag];exact⟨by simp,z.drop⟩
   |false=>
    rw[By (by simp)];refine z.ld 0 (x:=ks) ?_;by_cases hk:x.keys.length=0
    .rw[By (by simp[ik.len,hk])];refine z.ld 0 (x:=is) ?_;rw[ag];refine⟨?_,z.drop⟩;rw[ii.len]
     grind
    .rw[AT (by simp[ik.len];grind),ag];refine⟨by simp[hk],z.drop⟩
 rw[AT h11] at hr;rw[AT (by grind)];refine z.ld 0 (x:=x.ord) ?_;cases ho:x.ord with
 |true=>
  rw[ho,AT (by simp)] at hr;cases hr;rw[AT (by simp),ag];exact⟨rfl,z.drop⟩
 |false=>
  rw[ho] at hr;rw[By (by simp)];refine z.ld 0 (x:=ks) ?_;by_cases hk:x.keys.length=0
  .rw[By (by simp[ik.len,hk])];refine z.ld 0 (x:=is) ?_;by_cases hi:x.items.length=0
   .rw[By (by simp[ii.len,hi])];rw[By ⟨rfl,hk,hi⟩] at hr;refine z.ld 0 (x:=x.kind) ?_;refine z.ld 0 (x:=x.text) ?_;rw[ah];refine (Yn z hs hn hr).mono λy h' hy=>?_;rw[ag];exact⟨hy.1,hy.2.drop⟩
   .rw[AT (by simp[ii.len];grind),ag];rw[AT (λe=>hi e.2.2)] at hr;cases hr;exact⟨rfl,z.drop⟩
  .rw[AT (by simp[ik.len];grind),ag];rw[AT (λe=>hk e.2.1)] at hr;cases hr;exact⟨rfl,z.drop⟩
end Go.Sh
