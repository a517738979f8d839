
import Derived.Test.YtmjkmdhbcmckgaaGreatDoorGc
import Derived.Test.YtmjkmdhbcmckgaaGreatDoorPab
set_option linter.all false
namespace Go.Sh
open Go Go.Ago Go.Proofs
variable {α β:Type}{h h' h0:AHeap}{L:List Own}{Q:β→AHeap→Prop}{N M':Nat}
theorem DD.succ {P:α→Prop}{l m:Nat→M α}(he:∀ n,l (n+1)=m n)(hm:DD N P m):DD (N+1) P l:=by
 obtain⟨r,hr,h1⟩:=hm
 refine⟨r,hr,fun n h hn hw=>?_⟩
 obtain⟨n,rfl⟩:∃ m,n=m+1:=⟨n - 1,by omega⟩
 rw [he]
 exact h1 n h (by omega) hw
theorem name_L0 {s:ByteArray}(hs:s.size≤65536):∀ (k:Nat) (i:Int),0≤i→s.size - i≤k→DD (k+1) (Any:Unit ⊕ Bool→Prop) fun n=>graph_name_L0 n s (s.size:Int) i:=by
 intro k
 induction k with
 | zero =>
  intro i hi hk
  refine DD.succ (m:=fun n=>graph_name_L0_B (graph_name_L0 n) n s (s.size:Int) i) (fun _=>rfl) ?_
  unfold graph_name_L0_B
  exact DD.ite (fun h1=>by simp only [decide_eq_true_eq] at h1;omega) fun _=>DD.pure trivial
 | succ k ih =>
  intro i hi hk
  refine DD.succ (m:=fun n=>graph_name_L0_B (graph_name_L0 n) n s (s.size:Int) i) (fun _=>rfl) ?_
  unfold graph_name_L0_B
  refine DD.ite (fun h1=>?_) fun _=>DD.pure trivial
  simp only [decide_eq_true_eq] at h1
  have e:IntKind.i64.wrap (i+1)=i+1:=w64 (by omega) (by omega)
  have hlt:i.toNat<s.size:=by omega
  have ih':=ih (i+1) (by omega) (by omega)
  rw [← e] at ih'
  refine DD.bind (P:=Any) ⟨s[i.toNat],trivial,fun n h _ hw=>Wp_idxS.2 ⟨_,hi,getElem?_pos s i.toNat hlt,rfl,Fr.refl hw⟩⟩ fun c _=>?_
  clear ih
  generalize (c.toNat:Int)=C
  repeat' first | exact ih' | exact DD.pure trivial | refine DD.ite (fun _=>?_) (fun _=>?_)
theorem name_dd {s:ByteArray}(hs:s.size≤65536):DD 65538 (Any:Bool→Prop) fun n=>graph_name n s:=by
 unfold graph_name
 refine ((name_L0 hs s.size 0 (by omega) (by omega)).le (by omega)).bind fun y _=>?_
 cases y with
 | inl v=>exact DD.ite (fun _=>DD.pure trivial) fun _=>DD.pure trivial
 | inr v=>exact DD.pure trivial
theorem inst_dd {s:ByteArray}(hs:s.size≤65536):DD 10020 (Any:Bool→Prop) fun n=>M.bind (instant_Instant n s) fun x0=>if decide (x0.2=0) then M.pure (eqS x0.1 s) else M.pure false :=
 (Instant_dd (by omega)).bind fun y _=>DD.ite (fun _=>DD.pure trivial) fun _=>DD.pure trivial
theorem loc_dd {s:ByteArray}(hs:s.size≤65536):DD 10020 (Any:Bool→Prop) fun n=>M.bind (instant_Shape n s) fun x0=>M.pure !decide (x0=0) :=
 (Shape_dd (by omega)).bind fun y _=>DD.pure trivial
noncomputable def nameV (s:ByteArray):Bool:=if hs:s.size≤65536 then (name_dd hs).choose else false
noncomputable def instV (s:ByteArray):Bool:=if hs:s.size≤65536 then (inst_dd hs).choose else false
noncomputable def locV (s:ByteArray):Bool:=if hs:s.size≤65536 then (loc_dd hs).choose else false
noncomputable def scalP (k:Int)(t:ByteArray):Option Bool :=
 if k=0 then some (eqS t (ofBytes []))
 else if k=1 then some (eqS t (ofBytes [116,114,117,101]) || eqS t (ofBytes [102,97,108,115,101]))
 else if k=2 then some (intOK t)
 else if k=5 then some (decide (ckErr (ckAt t (t.size+1) 0)=0))
 else if k=6 then some true
 else if k=3 then some (decV t)
 else if k=4 then some (binV t)
 else if k=7 then some (instV t)
 else if k=8 then some (locV t)
 else some false
noncomputable def formP (x:NodeV):Option Bool :=
 if x.kind=9 then some (eqS x.text (ofBytes []) && !x.ord && decide (x.keys.length=0))
 else if x.kind=10 then some (eqS x.text (ofBytes []) && decide (x.keys.length=x.items.length))
 else if x.kind=11 then some (nameV x.text && !x.ord && decide (x.keys.length=0) && decide (x.items.length=1))
 else if x.ord=false∧x.keys.length=0∧x.items.length=0 then scalP x.kind x.text else some false
theorem scalP_some (k:Int)(t:ByteArray):∃ r,scalP k t=some r:=by
 unfold scalP
 repeat' split
 all_goals exact⟨_,rfl⟩
theorem formP_some (x:NodeV):∃ r,formP x=some r:=by
 unfold formP
 repeat' split
 all_goals first | exact⟨_,rfl⟩ | exact scalP_some _ _
theorem scalar_wp {k:Int}{t:ByteArray}{n:Nat}(z:Z h0 h L)(hs:t.size≤65536)(hn:65538≤n){r:Bool}(hr:scalP k t=some r):Wp (graph_scalar n k t) h fun x h'=>x=r∧Z h0 h' L:=by
 unfold graph_scalar
 unfold scalP at hr
 by_cases h0:k=0
 ·rw [if_pos h0] at hr;cases hr
  rw [if_pos (by simpa using h0),Wp_pure];exact⟨rfl,z⟩
 rw [if_neg h0] at hr
 rw [if_neg (by simpa using h0)]
 by_cases h1:k=1
 ·rw [if_pos h1] at hr;cases hr
  rw [if_pos (by simpa using h1)]
  cases he:eqS t (ofBytes [116,114,117,101]) with
  | true=>rw [if_pos rfl,Wp_pure];exact⟨rfl,z⟩
  | false=>rw [if_neg (by simp),Wp_pure];exact⟨rfl,z⟩
 rw [if_neg h1] at hr
 rw [if_neg (by simpa using h1)]
 by_cases h2:k=2
 ·rw [if_pos h2] at hr;cases hr
  rw [if_pos (by simpa using h2),Wp_bind]
  refine (integer_Valid_wp hs (by omega) z.wf).mono fun x h' hx=>?_
  rw [Wp_pure];exact⟨hx.1,z.pure hx.2⟩
 rw [if_neg h2] at hr
 rw [if_neg (by simpa using h2)]
 by_cases h5:k=5
 ·rw [if_pos h5] at hr;cases hr
  subst h5
  rw [if_neg (by decide),if_neg (by decide),if_pos (by decide)]
  unfold codepoint_Check
  rw [Wp_bind,Wp_pure,Wp_pure];exact⟨rfl,z⟩
 rw [if_neg h5] at hr
 by_cases h6:k=6
 ·rw [if_pos h6] at hr;cases hr
  subst h6
  rw [if_neg (by decide),if_neg (by decide),if_neg (by decide),if_pos (by decide),Wp_pure]
  exact⟨rfl,z⟩
 rw [if_neg h6] at hr
 by_cases h3:k=3
 ·rw [if_pos h3] at hr;cases hr
  rw [if_pos (by simpa using h3),Wp_bind]
  refine (decimal_Valid_wp hs (by omega) z.wf).mono fun x h' hx=>?_
  rw [Wp_pure];exact⟨hx.1,z.pure hx.2⟩
 rw [if_neg h3] at hr
 rw [if_neg (by simpa using h3)]
 by_cases h4:k=4
 ·rw [if_pos h4] at hr;cases hr
  rw [if_pos (by simpa using h4),Wp_bind]
  refine (binary_Valid_wp hs z.wf).mono fun x h' hx=>?_
  rw [Wp_pure];exact⟨hx.1,z.pure hx.2⟩
 rw [if_neg h4] at hr
 rw [if_neg (by simpa using h4),if_neg (by simpa using h5),if_neg (by simpa using h6)]
 by_cases h7:k=7
 ·rw [if_pos h7] at hr;cases hr
  rw [if_pos (by simpa using h7)]
  unfold instV
  rw [dif_pos hs]
  exact ((inst_dd hs).choose_spec.2 n h (by omega) z.wf).mono fun x h' hx=>⟨hx.1,z.pure hx.2⟩
 rw [if_neg h7] at hr
 rw [if_neg (by simpa using h7)]
 by_cases h8:k=8
 ·rw [if_pos h8] at hr;cases hr
  rw [if_pos (by simpa using h8)]
  unfold locV
  rw [dif_pos hs]
  exact ((loc_dd hs).choose_spec.2 n h (by omega) z.wf).mono fun x h' hx=>⟨hx.1,z.pure hx.2⟩
 rw [if_neg h8] at hr
 cases hr
 rw [if_neg (by simpa using h8),Wp_pure]
 exact⟨rfl,z⟩
theorem form_wp {x:NodeV}{ks is:Sl}{n:Nat}(z:Z h0 h L)(ik:IL h0 ks x.keys)(ii:IL h0 is x.items)(hs:x.text.size≤65536)(hn:65538≤n){r:Bool}(hr:formP x=some r) :
  Wp (graph_form n (x.kind,x.text,x.ord,ks,is)) h fun y h'=>y=r∧Z h0 h' L:=by
 unfold graph_form
 unfold formP at hr
 refine z.new fun b h1 z f1=>?_
 refine z.ld 0 (o:=0) (l:=li) (x:=x.kind) ?_
 by_cases h9:x.kind=9
 ·rw [if_pos h9] at hr;cases hr
  rw [if_pos (by simpa using h9)]
  refine z.ld 0 (o:=1) (l:=.str) (x:=x.text) ?_
  cases he:eqS x.text (ofBytes []) with
  | false=>rw [if_neg (by simp),Wp_pure];exact⟨by simp,z.drop⟩
  | true =>
   rw [if_pos rfl]
   refine z.ld 0 (o:=2) (l:=.bool) (x:=x.ord) ?_
   cases ho:x.ord with
   | true=>rw [if_neg (by simp),Wp_pure];exact⟨by simp,z.drop⟩
   | false =>
    rw [if_pos (by simp)]
    refine z.ld 0 (o:=3) (l:=.sl) (x:=ks) ?_
    rw [Wp_pure];exact⟨by simp [ik.len],z.drop⟩
 rw [if_neg h9] at hr
 rw [if_neg (by simpa using h9)]
 by_cases h10:x.kind=10
 ·rw [if_pos h10] at hr;cases hr
  rw [if_pos (by simpa using h10)]
  refine z.ld 0 (o:=1) (l:=.str) (x:=x.text) ?_
  cases he:eqS x.text (ofBytes []) with
  | false=>rw [if_neg (by simp),Wp_pure];exact⟨by simp,z.drop⟩
  | true =>
   rw [if_pos rfl]
   refine z.ld 0 (o:=3) (l:=.sl) (x:=ks) ?_
   refine z.ld 0 (o:=4) (l:=.sl) (x:=is) ?_
   rw [Wp_pure];refine⟨?_,z.drop⟩
   rw [ik.len,ii.len]
   simp [Int.natCast_inj]
 rw [if_neg h10] at hr
 rw [if_neg (by simpa using h10)]
 by_cases h11:x.kind=11
 ·rw [if_pos h11] at hr;cases hr
  rw [if_pos (by simpa using h11)]
  refine z.ld 0 (o:=1) (l:=.str) (x:=x.text) ?_
  rw [Wp_bind]
  unfold nameV
  rw [dif_pos hs]
  refine ((name_dd hs).choose_spec.2 n _ hn z.wf).mono fun y h' hy=>?_
  obtain⟨rfl,f⟩:=hy
  have z:=z.pure f
  generalize (name_dd hs).choose=y
  cases y with
  | false=>rw [if_neg (by simp),Wp_pure];exact⟨by simp,z.drop⟩
  | true =>
   rw [if_pos rfl]
   refine z.ld 0 (o:=2) (l:=.bool) (x:=x.ord) ?_
   cases ho:x.ord with
   | true=>rw [if_neg (by simp),Wp_pure];exact⟨by simp,z.drop⟩
   | false =>
    rw [if_pos (by simp)]
    refine z.ld 0 (o:=3) (l:=.sl) (x:=ks) ?_
    by_cases hk:x.keys.length=0
    ·rw [if_pos (by simp [ik.len,hk])]
     refine z.ld 0 (o:=4) (l:=.sl) (x:=is) ?_
     rw [Wp_pure];refine⟨?_,z.drop⟩
     rw [ii.len]
     simp only [hk,Bool.not_false,Bool.and_true,decide_true,Bool.true_and]
     exact decide_eq_decide.2 (by omega)
    ·rw [if_neg (by simp [ik.len];exact fun e=>hk (by simp [e])),Wp_pure]
     refine⟨by simp [hk],z.drop⟩
 rw [if_neg h11] at hr
 rw [if_neg (by simpa using h11)]
 refine z.ld 0 (o:=2) (l:=.bool) (x:=x.ord) ?_
 cases ho:x.ord with
 | true =>
  rw [ho,if_neg (by simp)] at hr;cases hr
  rw [if_neg (by simp),Wp_pure];exact⟨rfl,z.drop⟩
 | false =>
  rw [ho] at hr
  rw [if_pos (by simp)]
  refine z.ld 0 (o:=3) (l:=.sl) (x:=ks) ?_
  by_cases hk:x.keys.length=0
  ·rw [if_pos (by simp [ik.len,hk])]
   refine z.ld 0 (o:=4) (l:=.sl) (x:=is) ?_
   by_cases hi:x.items.length=0
   ·rw [if_pos (by simp [ii.len,hi])]
    rw [if_pos ⟨rfl,hk,hi⟩] at hr
    refine z.ld 0 (o:=0) (l:=li) (x:=x.kind) ?_
    refine z.ld 0 (o:=1) (l:=.str) (x:=x.text) ?_
    rw [Wp_bind]
    refine (scalar_wp z hs hn hr).mono fun y h' hy=>?_
    rw [Wp_pure];exact⟨hy.1,hy.2.drop⟩
   ·rw [if_neg (by simp [ii.len];exact fun e=>hi (by simp [e])),Wp_pure]
    rw [if_neg (fun e=>hi e.2.2)] at hr;cases hr
    exact⟨rfl,z.drop⟩
  ·rw [if_neg (by simp [ik.len];exact fun e=>hk (by simp [e])),Wp_pure]
   rw [if_neg (fun e=>hk e.2.1)] at hr;cases hr
   exact⟨rfl,z.drop⟩
end Go.Sh
