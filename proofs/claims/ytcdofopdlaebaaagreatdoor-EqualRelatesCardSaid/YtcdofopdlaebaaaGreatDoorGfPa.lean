
import Derived.Test.YtcdofopdlaebaaaGreatDoorGc
import Derived.Test.YtcdofopdlaebaaaGreatDoorPab
set_option linter.all false
namespace Go.Sh
open Go Go.Ago Go.Proofs
variable {α β:Type}{h h' h0:af}{L:List bj}{Q:β->af->Prop}{N M':Nat}
theorem DD.succ {P:α->Prop}{l m:Nat->M α}(he:∀n,l (n+1)=m n)(hm:DD N P m):DD (N+1) P l:=by
 obtain⟨r,hr,h1⟩:=hm;refine⟨r,hr,λn h hn hw=>?_⟩;obtain⟨n,rfl⟩:∃m,n=m+1:=⟨n-1,by omega⟩;rw[he];exact h1 n h (by omega) hw
theorem YN {s:ByteArray}(hs:s.size<=65536):∀(k:Nat) (i:Int),0<=i->s.size-i<=k->DD (k+1) (Any:Unit⊕Bool->Prop) λn=>mB n s (s.size:Int) i:=by
 intro k
 induction k with
 |zero=>
  intro i hi hk;refine DD.succ (m:=λn=>mj (mB n) n s (s.size:Int) i) (λ_=>rfl) ?_;unfold mj;exact DD.ite (λh1=>by simp only[decide_eq_true_eq] at h1;omega) λ_=>DD.pure trivial
 |succ k ih=>
  intro i hi hk;refine DD.succ (m:=λn=>mj (mB n) n s (s.size:Int) i) (λ_=>rfl) ?_;unfold mj;refine DD.ite (λh1=>?_) λ_=>DD.pure trivial;simp only[decide_eq_true_eq] at h1;have e:IntKind.i64.wrap (i+1)=i+1:=sq (by omega) (by omega);have hlt:i.toNat<s.size:=by omega
  have ih':=ih (i+1) (by omega) (by omega);rw[<-e] at ih';refine DD.bind (P:=Any) ⟨s[i.toNat],trivial,λn h _ hw=>fl.2 ⟨_,hi,getElem?_pos s i.toNat hlt,rfl,Fr.refl hw⟩⟩ λc _=>?_;clear ih;generalize (c.toNat:Int)=C
  repeat' first|exact ih' | exact DD.pure trivial|refine DD.ite (λ_=>?_) (λ_=>?_)
theorem Jr {s:ByteArray}(hs:s.size<=65536):DD 65538 (Any:Bool->Prop) λn=>vZ n s:=by
 unfold vZ;refine ((YN hs s.size 0 (by omega) (by omega)).le (by omega)).bind λy _=>?_;cases y with
 |inl v=>exact DD.ite (λ_=>DD.pure trivial) λ_=>DD.pure trivial
 |inr v=>exact DD.pure trivial
theorem PZ {s:ByteArray}(hs:s.size<=65536):DD 10020 (Any:Bool->Prop) λn=>sh (mr n s) λx0=>if decide (x0.2=0) then AI (mI x0.1 s) else AI false:=
 (Oi (by omega)).bind λy _=>DD.ite (λ_=>DD.pure trivial) λ_=>DD.pure trivial
theorem VM {s:ByteArray}(hs:s.size<=65536):DD 10020 (Any:Bool->Prop) λn=>sh (oE n s) λx0=>AI !decide (x0=0):=
 (VL (by omega)).bind λy _=>DD.pure trivial
noncomputable def aaK (s:ByteArray):Bool:=if hs:s.size<=65536 then (Jr hs).choose else false
noncomputable def aaL (s:ByteArray):Bool:=if hs:s.size<=65536 then (PZ hs).choose else false
noncomputable def aeF (s:ByteArray):Bool:=if hs:s.size<=65536 then (VM hs).choose else false
noncomputable def CJ (k:Int)(t:ByteArray):Option Bool:=
 if k=0 then some (mI t (ofBytes []))
 else if k=1 then some (mI t (ofBytes [116,114,117,101])||mI t (ofBytes [102,97,108,115,101]))
 else if k=2 then some (oh t)
 else if k=5 then some (decide (Ue (sZ t (t.size+1) 0)=0))
 else if k=6 then some true
 else if k=3 then some (Fk t)
 else if k=4 then some (aco t)
 else if k=7 then some (aaL t)
 else if k=8 then some (aeF t)
 else some false
noncomputable def nI (x:an):Option Bool:=
 if x.kind=9 then some (mI x.text (ofBytes [])&&!x.ord&&decide (x.keys.length=0))
 else if x.kind=10 then some (mI x.text (ofBytes [])&&decide (x.keys.length=x.items.length))
 else if x.kind=11 then some (aaK x.text&&!x.ord&&decide (x.keys.length=0)&&decide (x.items.length=1))
 else if x.ord=false/\x.keys.length=0/\x.items.length=0 then CJ x.kind x.text else some false
theorem Oj (k:Int)(t:ByteArray):∃r,CJ k t=some r:=by
 unfold CJ
 repeat' split
 all_goals exact⟨_,rfl⟩
theorem Ok (x:an):∃r,nI x=some r:=by
 unfold nI
 repeat' split
 all_goals first|exact⟨_,rfl⟩|exact Oj _ _
theorem Sq {k:Int}{t:ByteArray}{n:Nat}(z:Z h0 h L)(hs:t.size<=65536)(hn:65538<=n){r:Bool}(hr:CJ k t=some r):Wp (s6 n k t) h λx h'=>x=r/\Z h0 h' L:=by
 unfold s6;unfold CJ at hr;by_cases h0:k=0
 .rw[if_pos h0] at hr;cases hr;rw[if_pos (by simpa using h0),ag];exact⟨rfl,z⟩
 rw[if_neg h0] at hr;rw[if_neg (by simpa using h0)];by_cases h1:k=1
 .rw[if_pos h1] at hr;cases hr;rw[if_pos (by simpa using h1)];cases he:mI t (ofBytes [116,114,117,101]) with
  |true=>rw[if_pos rfl,ag];exact⟨rfl,z⟩
  |false=>rw[if_neg (by simp),ag];exact⟨rfl,z⟩
 rw[if_neg h1] at hr;rw[if_neg (by simpa using h1)];by_cases h2:k=2
 .rw[if_pos h2] at hr;cases hr;rw[if_pos (by simpa using h2),ah];refine (vz hs (by omega) z.wf).mono λx h' hx=>?_;rw[ag];exact⟨hx.1,z.pure hx.2⟩
 rw[if_neg h2] at hr;rw[if_neg (by simpa using h2)];by_cases h5:k=5
 .rw[if_pos h5] at hr;cases hr;subst h5;rw[if_neg (by decide),if_neg (by decide),if_pos (by decide)];unfold oM;rw[ah,ag,ag];exact⟨rfl,z⟩
 rw[if_neg h5] at hr;by_cases h6:k=6
 .rw[if_pos h6] at hr;cases hr;subst h6;rw[if_neg (by decide),if_neg (by decide),if_neg (by decide),if_pos (by decide),ag];exact⟨rfl,z⟩
 rw[if_neg h6] at hr;by_cases h3:k=3
 .rw[if_pos h3] at hr;cases hr;rw[if_pos (by simpa using h3),ah];refine (B0 hs (by omega) z.wf).mono λx h' hx=>?_;rw[ag];exact⟨hx.1,z.pure hx.2⟩
 rw[if_neg h3] at hr;rw[if_neg (by simpa using h3)];by_cases h4:k=4
 .rw[if_pos h4] at hr;cases hr;rw[if_pos (by simpa using h4),ah];refine (Di hs z.wf).mono λx h' hx=>?_;rw[ag];exact⟨hx.1,z.pure hx.2⟩
 rw[if_neg h4] at hr;rw[if_neg (by simpa using h4),if_neg (by simpa using h5),if_neg (by simpa using h6)];by_cases h7:k=7
 .rw[if_pos h7] at hr;cases hr;rw[if_pos (by simpa using h7)];unfold aaL;rw[dif_pos hs];exact ((PZ hs).choose_spec.2 n h (by omega) z.wf).mono λx h' hx=>⟨hx.1,z.pure hx.2⟩
 rw[if_neg h7] at hr;rw[if_neg (by simpa using h7)];by_cases h8:k=8
 .rw[if_pos h8] at hr;cases hr;rw[if_pos (by simpa using h8)];unfold aeF;rw[dif_pos hs];exact ((VM hs).choose_spec.2 n h (by omega) z.wf).mono λx h' hx=>⟨hx.1,z.pure hx.2⟩
 rw[if_neg h8] at hr;cases hr;rw[if_neg (by simpa using h8),ag];exact⟨rfl,z⟩
theorem YO {x:an}{ks is:Sl}{n:Nat}(z:Z h0 h L)(ik:IL h0 ks x.keys)(ii:IL h0 is x.items)(hs:x.text.size<=65536)(hn:65538<=n){r:Bool}(hr:nI x=some r) :
  Wp (wj n (x.kind,x.text,x.ord,ks,is)) h λy h'=>y=r/\Z h0 h' L:=by
 unfold wj;unfold nI at hr;refine z.new λb h1 z f1=>?_;refine z.ld 0 (o:=0) (l:=li) (x:=x.kind) ?_;by_cases h9:x.kind=9
 .rw[if_pos h9] at hr;cases hr;rw[if_pos (by simpa using h9)];refine z.ld 0 (o:=1) (l:=.str) (x:=x.text) ?_;cases he:mI x.text (ofBytes []) with
  |false=>rw[if_neg (by simp),ag];exact⟨by simp,z.drop⟩
  |true=>
   rw[if_pos rfl];refine z.ld 0 (o:=2) (l:=.bool) (x:=x.ord) ?_;cases ho:x.ord with
   |true=>rw[if_neg (by simp),ag];exact⟨by simp,z.drop⟩
   |false=>
    rw[if_pos (by simp)];refine z.ld 0 (o:=3) (l:=.sl) (x:=ks) ?_;rw[ag];exact⟨by simp[ik.len],z.drop⟩
 rw[if_neg h9] at hr;rw[if_neg (by simpa using h9)];by_cases h10:x.kind=10
 .rw[if_pos h10] at hr;cases hr;rw[if_pos (by simpa using h10)];refine z.ld 0 (o:=1) (l:=.str) (x:=x.text) ?_;cases he:mI x.text (ofBytes []) with
  |false=>rw[if_neg (by simp),ag];exact⟨by simp,z.drop⟩
  |true=>
   rw[if_pos rfl];refine z.ld 0 (o:=3) (l:=.sl) (x:=ks) ?_;refine z.ld 0 (o:=4) (l:=.sl) (x:=is) ?_;rw[ag];refine⟨?_,z.drop⟩;rw[ik.len,ii.len];simp[Int.natCast_inj]
 rw[if_neg h10] at hr;rw[if_neg (by simpa using h10)];by_cases h11:x.kind=11
 .rw[if_pos h11] at hr;cases hr;rw[if_pos (by simpa using h11)];refine z.ld 0 (o:=1) (l:=.str) (x:=x.text) ?_;rw[ah];unfold aaK;rw[dif_pos hs];refine ((Jr hs).choose_spec.2 n _ hn z.wf).mono λy h' hy=>?_;obtain⟨rfl,f⟩:=hy;have z:=z.pure f;generalize (Jr hs).choose=y;cases y with
  |false=>rw[if_neg (by simp),ag];exact⟨by simp,z.drop⟩
  |true=>
   rw[if_pos rfl];refine z.ld 0 (o:=2) (l:=.bool) (x:=x.ord) ?_;cases ho:x.ord with
   |true=>rw[if_neg (by simp),ag];exact⟨by simp,z.drop⟩
   |false=>
    rw[if_pos (by simp)];refine z.ld 0 (o:=3) (l:=.sl) (x:=ks) ?_;by_cases hk:x.keys.length=0
    .rw[if_pos (by simp[ik.len,hk])];refine z.ld 0 (o:=4) (l:=.sl) (x:=is) ?_;rw[ag];refine⟨?_,z.drop⟩;rw[ii.len];simp only[hk,ag5,Bool.and_true,decide_true,agf];exact decide_eq_decide.2 (by omega)
    .rw[if_neg (by simp[ik.len];exact λe=>hk (by simp[e])),ag];refine⟨by simp[hk],z.drop⟩
 rw[if_neg h11] at hr;rw[if_neg (by simpa using h11)];refine z.ld 0 (o:=2) (l:=.bool) (x:=x.ord) ?_;cases ho:x.ord with
 |true=>
  rw[ho,if_neg (by simp)] at hr;cases hr;rw[if_neg (by simp),ag];exact⟨rfl,z.drop⟩
 |false=>
  rw[ho] at hr;rw[if_pos (by simp)];refine z.ld 0 (o:=3) (l:=.sl) (x:=ks) ?_;by_cases hk:x.keys.length=0
  .rw[if_pos (by simp[ik.len,hk])];refine z.ld 0 (o:=4) (l:=.sl) (x:=is) ?_;by_cases hi:x.items.length=0
   .rw[if_pos (by simp[ii.len,hi])];rw[if_pos ⟨rfl,hk,hi⟩] at hr;refine z.ld 0 (o:=0) (l:=li) (x:=x.kind) ?_;refine z.ld 0 (o:=1) (l:=.str) (x:=x.text) ?_;rw[ah];refine (Sq z hs hn hr).mono λy h' hy=>?_;rw[ag];exact⟨hy.1,hy.2.drop⟩
   .rw[if_neg (by simp[ii.len];exact λe=>hi (by simp[e])),ag];rw[if_neg (λe=>hi e.2.2)] at hr;cases hr;exact⟨rfl,z.drop⟩
  .rw[if_neg (by simp[ik.len];exact λe=>hk (by simp[e])),ag];rw[if_neg (λe=>hk e.2.1)] at hr;cases hr;exact⟨rfl,z.drop⟩
end Go.Sh
