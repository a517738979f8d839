
import Derived.Test.YtmjkmdhbcmckgaaGreatDoorPaa
import Derived.Lib.ParseIntBCases
set_option linter.all false
namespace Go.Sh
open Go Go.Ago Go.Proofs
variable {α β:Type}{h h' h0:AHeap}{L:List Own}{Q:β→AHeap→Prop}
def PP (P:α→Prop)(m:Nat→M α):Prop:=∃ x,P x∧∀ n h,m n h=some (x,h)
abbrev Any:α→Prop:=fun _=>True
theorem PP.pure {P:α→Prop}{x:α}(hx:P x):PP P fun _=>M.pure x:=⟨x,hx,fun _ _=>rfl⟩
theorem PP.bind {P:α→Prop}{R:β→Prop}{m:Nat→M α}{f:Nat→α→M β}(hm:PP P m)(hf:∀ x,P x→PP R fun n=>f n x):PP R fun n=>M.bind (m n) (f n):=by
 obtain⟨x,hx,h1⟩:=hm
 obtain⟨y,hy,h2⟩:=hf x hx
 exact⟨y,hy,fun n h=>by simp only [M.bind,h1,h2]⟩
theorem PP.ite {P:α→Prop}{c:Prop}[Decidable c]{a b:Nat→M α}(ha:c→PP P a)(hb:¬ c→PP P b):PP P fun n=>if c then a n else b n:=by
 by_cases hc:c
 ·obtain⟨x,hx,h1⟩:=ha hc;exact⟨x,hx,fun n h=>by show (if c then a n else b n) h=_;rw [if_pos hc];exact h1 n h⟩
 ·obtain⟨x,hx,h1⟩:=hb hc;exact⟨x,hx,fun n h=>by show (if c then a n else b n) h=_;rw [if_neg hc];exact h1 n h⟩
theorem PP.mono {P P':α→Prop}{m:Nat→M α}(hm:PP P m)(hp:∀ x,P x→P' x):PP P' m:=let ⟨x,hx,h1⟩:=hm;⟨x,hp x hx,h1⟩
theorem PP.ck {b:Bool}(hb:b=true):PP (Any:Unit→Prop) fun _=>ckM b:=⟨(),trivial,fun _ h=>by rw [hb];rfl⟩
theorem PP.cat {x y:ByteArray}(hs:x.size+y.size≤bigN):PP (fun z:ByteArray=>z.size=x.size+y.size) fun _=>catS x y:=⟨x++y,by show (x++y).size=_;rw [ByteArray.size_append],fun _ h=>by show (if x.size+y.size≤bigN then some (x++y,h) else none)=_;rw [if_pos hs]⟩
def NaN (b:Nat):Bool:=(FloatKind.f64.format.read b).isNaN
theorem mul_ok {a b:Nat}(ha:NaN a=false)(hb:∃ s m p,FloatKind.f64.format.read b=.number s m p∧m≠0):PP (Any:Nat→Prop) fun _=>fMul a b:=by
 obtain⟨s,m,p,h1,h2⟩:=hb
 have:∃ r,FloatKind.f64.format.mul a b=some r:=by
  unfold Ieee.Format.mul
  rw [h1]
  unfold NaN at ha
  cases hr:FloatKind.f64.format.read a with
  | number t n q=>exact⟨_,rfl⟩
  | infinity t=>simp only [Ieee.Datum.product,if_neg h2,Option.map_some];exact⟨_,rfl⟩
  | nan t q=>rw [hr] at ha;cases ha
 obtain⟨r,hr⟩:=this
 exact⟨r,trivial,fun _ h=>by unfold fMul;rw [hr];rfl⟩
theorem mul_ok2 {a b:Nat}(hb:NaN b=false)(ha:∃ s m p,FloatKind.f64.format.read a=.number s m p∧m≠0):PP (Any:Nat→Prop) fun _=>fMul a b:=by
 obtain⟨s,m,p,h1,h2⟩:=ha
 have:∃ r,FloatKind.f64.format.mul a b=some r:=by
  unfold Ieee.Format.mul
  rw [h1]
  unfold NaN at hb
  cases hr:FloatKind.f64.format.read b with
  | number t n q=>exact⟨_,rfl⟩
  | infinity t=>simp only [Ieee.Datum.product,if_neg h2,Option.map_some];exact⟨_,rfl⟩
  | nan t q=>rw [hr] at hb;cases hb
 obtain⟨r,hr⟩:=this
 exact⟨r,trivial,fun _ h=>by unfold fMul;rw [hr];rfl⟩
theorem eq_num {a:Nat}(h:fEq a a=true):NaN a=false:=by
 unfold fEq Ieee.Format.order at h
 unfold NaN
 cases hr:FloatKind.f64.format.read a with
 | number t n q=>rfl
 | infinity t=>rfl
 | nan t q=>rw [hr] at h;simp [Ieee.Datum.order] at h
theorem rd_num {b:Nat}{s:Bool}{m:Nat}{p:Int}(h:FloatKind.f64.format.read b=.number s m p)(hm:m≠0):∃ s m p,FloatKind.f64.format.read b=.number s m p∧m≠0:=⟨s,m,p,h,hm⟩
theorem num_not {b:Nat}(h:b % 9223372036854775808<9218868437227405312):NaN b=false:=by
 unfold NaN FloatKind.format Ieee.Format.read
 have e1:Ieee.double.signWeight=9223372036854775808:=by decide +kernel
 have e2:Ieee.double.infRung=9218868437227405312:=by decide +kernel
 simp only [e1]
 rw [e2]
 split
 ·rfl
 ·rfl
theorem u64_id {x:Int}(h1:0≤x)(h2:x<18446744073709551616):IntKind.u64.wrap x=x:=by rw [IntKind.wrap_u64];omega
theorem u64_lo (x:Int):0≤IntKind.u64.wrap x∧IntKind.u64.wrap x<18446744073709551616:=by rw [IntKind.wrap_u64];omega
theorem i64_lo (x:Int):-9223372036854775808≤IntKind.i64.wrap x∧IntKind.i64.wrap x≤9223372036854775807:=by rw [IntKind.wrap_i64];omega
theorem field (a1:Int)(e:Nat)(he:e≤2046) :
  NaN (IntKind.u64.wrap ((BitVec.ofInt 64 (IntKind.u64.wrap ((BitVec.ofInt 64 a1 &&& ~~~BitVec.ofInt 64 9218868437227405312).toNat:Int)) ||| BitVec.ofInt 64 (IntKind.u64.wrap (IntKind.u64.wrap (e:Int) * 2 ^ 52))).toNat:Int)).toNat=false:=by
 have hA:(BitVec.ofInt 64 a1 &&& ~~~BitVec.ofInt 64 9218868437227405312).toNat % 9223372036854775808<4503599627370496:=by
  rw [BitVec.toNat_and]
  have hc:(~~~BitVec.ofInt 64 9218868437227405312).toNat=9227875636482146303:=by decide +kernel
  rw [hc,show (9223372036854775808:Nat)=2 ^ 63 from rfl,Nat.and_mod_two_pow,show 9227875636482146303 % 2 ^ 63=2 ^ 52 - 1 from rfl,Nat.and_two_pow_sub_one_eq_mod]
  exact Nat.mod_lt _ (by decide)
 have hlt:(BitVec.ofInt 64 a1 &&& ~~~BitVec.ofInt 64 9218868437227405312).toNat<18446744073709551616:=(BitVec.ofInt 64 a1 &&& ~~~BitVec.ofInt 64 9218868437227405312).isLt
 generalize (BitVec.ofInt 64 a1 &&& ~~~BitVec.ofInt 64 9218868437227405312).toNat=A at hA hlt ⊢
 rw [u64_id (x:=(A:Int)) (by omega) (by omega),u64_id (x:=(e:Int)) (by omega) (by omega),u64_id (x:=(e:Int) * 2 ^ 52) (by omega) (by omega),BitVec.toNat_or,BitVec.toNat_ofInt,BitVec.toNat_ofInt]
 have e1:((A:Int) % (2 ^ 64:Nat)).toNat=A:=by omega
 have e2:((e:Int) * 2 ^ 52 % (2 ^ 64:Nat)).toNat=e * 4503599627370496:=by omega
 rw [e1,e2]
 have hor:A ||| e * 4503599627370496<18446744073709551616:=Nat.or_lt_two_pow (n:=64) hlt (by omega)
 rw [u64_id (by omega) (by omega),Int.toNat_natCast]
 refine num_not ?_
 rw [show (9223372036854775808:Nat)=2 ^ 63 from rfl,Nat.or_mod_two_pow]
 have h1:A % 2 ^ 63<2 ^ 52:=hA
 have h2:e * 4503599627370496 % 2 ^ 63=e * 4503599627370496:=Nat.mod_eq_of_lt (by omega)
 rw [h2]
 have h3:A % 2 ^ 63 ||| e * 4503599627370496≤A % 2 ^ 63+e * 4503599627370496:=by
  rw [show e * 4503599627370496=e <<< 52 by rw [Nat.shiftLeft_eq],Nat.or_comm,← Nat.shiftLeft_add_eq_or_of_lt h1,Nat.add_comm]
  exact Nat.le_refl _
 omega
theorem tz_range (x:Int):0≤tzI x∧tzI x<64:=by
 unfold tzI
 have:=u64_lo (bits BinOp.and IntKind.u64 x (IntKind.u64.wrap (-x)) * 285870213051353865)
 omega
theorem deb_lt (i:Nat):debT i<64:=by
 unfold debT
 by_cases hi:i<64
 ·have h1:debL.all (·<64)=true:=by decide
  have h2:i<debL.length:=hi
  rw [List.getD_eq_getElem?_getD,List.getElem?_eq_getElem h2,Option.getD_some]
  simpa using List.all_eq_true.1 h1 _ (List.getElem_mem h2)
 ·have h2:debL.length≤i:=by have:debL.length=64:=rfl;omega
  rw [List.getD_eq_getElem?_getD,List.getElem?_eq_none h2]
  decide
theorem tz_pp (x:Int):PP (fun y:Int=>0≤y∧y≤64) fun n=>math_bits_TrailingZeros64 n x:=by
 unfold math_bits_TrailingZeros64
 refine PP.ite (fun _=>PP.pure (by omega)) fun _=>PP.ite (fun hc=>PP.pure ?_) fun hc=>absurd (tz_range x) hc
 have:=deb_lt (tzI x).toNat
 unfold Go.RowKit.wrap64;omega
theorem bits_pp (b:Nat):PP (fun y:Int=>y=b) fun n=>math_Float64bits n b:=PP.pure rfl
theorem from_pp (x:Int):PP (fun y:Nat=>y=x.toNat) fun n=>math_Float64frombits n x:=PP.pure rfl
theorem abs_pp (b:Nat):PP (Any:Nat→Prop) fun n=>math_Abs n b:=(bits_pp b).bind fun x _=>(from_pp _).bind fun y _=>PP.pure trivial
theorem inf_pp (x:Int):PP (Any:Nat→Prop) fun n=>math_Inf n x:=PP.ite (fun _=>(from_pp _).bind fun y _=>PP.pure trivial) fun _=>(from_pp _).bind fun y _=>PP.pure trivial
theorem nan_pp:PP (Any:Nat→Prop) fun n=>math_NaN n:=(from_pp _).bind fun y _=>PP.pure trivial
theorem copy_pp (a b:Nat):PP (Any:Nat→Prop) fun n=>math_Copysign n a b:=(bits_pp a).bind fun x _=>(bits_pp b).bind fun y _=>(from_pp _).bind fun y _=>PP.pure trivial
theorem isInf_pp (a:Nat)(x:Int):PP (Any:Bool→Prop) fun n=>math_IsInf n a x:=PP.ite (fun _=>(abs_pp a).bind fun y _=>PP.pure trivial) fun _=>PP.ite (fun _=>PP.pure trivial) fun _=>PP.pure trivial
theorem sign_pp (a:Nat):PP (Any:Bool→Prop) fun n=>math_Signbit n a:=(bits_pp a).bind fun x _=>PP.pure trivial
theorem normalize_pp {a:Nat}(ha:NaN a=false):PP (Any:Nat×Int→Prop) fun n=>math_normalize n a:=by
 refine (abs_pp a).bind fun y _=>PP.ite (fun _=>(mul_ok ha ?_).bind fun z _=>PP.pure trivial) fun _=>PP.pure trivial
 exact rd_num (s:=false) (m:=4503599627370496) (p:=0) (by decide +kernel) (by decide)
theorem J1_pp {e a1:Int}{c:Nat}(h1:-1022≤e)(h2:e≤1023)(hc:∃ s m p,FloatKind.f64.format.read c=.number s m p∧m≠0):PP (Any:Nat→Prop) fun n=>math_ldexp_J1 n e a1 c:=by
 refine (PP.ck (by decide)).bind fun _ _=>(from_pp _).bind fun y hy=>(mul_ok2 ?_ hc).bind fun z _=>PP.pure trivial
 rw [hy,w64 (by omega) (by omega)]
 obtain⟨k,hk⟩:∃ k:Nat,e+1023=k:=⟨(e+1023).toNat,by omega⟩
 rw [hk]
 exact field a1 k (by omega)
theorem ldexp_pp (a:Nat)(e:Int):PP (Any:Nat→Prop) fun n=>math_Ldexp n a e:=by
 refine PP.bind (P:=Any) ?_ fun y _=>PP.pure trivial
 refine PP.ite (fun _=>PP.pure trivial) fun _=>(isInf_pp a 0).bind fun b _=>PP.ite (fun _=>PP.pure trivial) fun _=>PP.bind (P:=fun b=>b=!fEq a a) (PP.pure rfl) fun b hb=>PP.ite (fun _=>PP.pure trivial) fun hn=>?_
 have ha:NaN a=false:=eq_num (by subst hb;simpa using hn)
 refine (normalize_pp ha).bind fun x _=>(bits_pp _).bind fun x1 _=>(PP.ck (by decide)).bind fun _ _=>?_
 generalize IntKind.i64.wrap (IntKind.i64.wrap (e+x.2)+IntKind.i64.wrap (IntKind.i64.wrap (↑(BitVec.ofInt 64 (IntKind.i64.wrap (Int.fdiv x1 (2 ^ 52))) &&& BitVec.ofInt 64 2047).toNat:Int) - 1023))=E
 refine PP.ite (fun _=>(copy_pp _ _).bind fun _ _=>PP.pure trivial) fun g1=>PP.ite (fun _=>PP.ite (fun _=>(inf_pp _).bind fun _ _=>PP.pure trivial) fun _=>(inf_pp _).bind fun _ _=>PP.pure trivial) fun g2=>PP.ite (fun g3=>?_) fun g3=>?_
 ·simp only [decide_eq_true_eq] at g1 g2 g3
  rw [w64 (by omega) (by omega)]
  exact J1_pp (by omega) (by omega) (rd_num (s:=false) (m:=4503599627370496) (p:=-105) (by decide +kernel) (by decide))
 ·simp only [decide_eq_true_eq] at g1 g2 g3
  exact J1_pp (by omega) (by omega) (rd_num (s:=false) (m:=4503599627370496) (p:=-52) (by decide +kernel) (by decide))
theorem split0_pp {m e:Int}(h1:0≤m)(h2:m<18446744073709551616):PP (fun x:Int×Int=>(0≤x.1∧x.1<18446744073709551616)∧(-9223372036854775808≤x.2∧x.2≤9223372036854775807)) fun n=>binary_split_J0 n m e:=by
 refine (tz_pp m).bind fun y hy=>(PP.ck (by simpa using hy.1)).bind fun _ _=>PP.pure ⟨?_,i64_lo _⟩
 have hp:(0:Int)<2 ^ min y.toNat 64:=Int.pow_pos (by decide)
 rw [Int.fdiv_eq_ediv_of_nonneg _ (Int.le_of_lt hp)]
 have h3:=Int.ediv_nonneg h1 (Int.le_of_lt hp)
 have h4:=Int.ediv_le_self (a:=m) (2 ^ min y.toNat 64) h1
 exact⟨h3,by omega⟩
theorem split_pp (a:Nat):PP (fun x:Int×Int=>(0≤x.1∧x.1<18446744073709551616)∧(-9223372036854775808≤x.2∧x.2≤9223372036854775807)) fun n=>binary_split n a :=
 (abs_pp a).bind fun x _=>(bits_pp x).bind fun y _=>(PP.ck (by decide)).bind fun _ _=>PP.ite (fun _=>split0_pp (u64_lo _).1 (u64_lo _).2) fun _=>split0_pp (u64_lo _).1 (u64_lo _).2
theorem itoa_le {e:Int}(h1:-9223372036854775808≤e)(h2:e<18446744073709551616):(Lib.itoa e).length≤21:=by
 unfold Lib.itoa
 split
 ·rw [List.length_cons,Lib.decDigits_length]
  have:=nDig_le 20 e.natAbs (by omega) (by omega)
  omega
 ·rw [Lib.decDigits_length]
  have:=nDig_le 20 e.toNat (by omega) (by omega)
  omega
theorem fu_pp {u:Int}(h1:0≤u)(h2:u<18446744073709551616):PP (fun x:ByteArray=>x.size≤21) fun n=>strconv_FormatUint n u 10:=by
 refine PP.bind (P:=fun x:ByteArray=>x.size≤21) ?_ fun x hx=>PP.pure hx
 unfold i_strconv_FormatUint
 refine PP.ite (fun _=>PP.pure ?_) fun hn=>absurd ⟨h1,h2,rfl⟩ hn
 show (Lib.itoa u).toArray.size≤21
 have:=itoa_le (e:=u) (by omega) h2
 simp;omega
theorem it_pp {e:Int}(h1:-9223372036854775808≤e)(h2:e≤9223372036854775807):PP (fun x:ByteArray=>x.size≤21) fun n=>strconv_Itoa n e:=by
 unfold strconv_Itoa
 refine PP.ite (fun _=>PP.pure ?_) fun hn=>absurd ⟨h1,h2⟩ hn
 show (Lib.itoa e).toArray.size≤21
 have:=itoa_le (e:=e) h1 (by omega)
 simp;omega
theorem text0_pp {a:Nat}{s:ByteArray}(hs:s.size≤1):PP (Any:ByteArray→Prop) fun n=>binary_text_J0 n a s:=by
 have h3:(ofBytes [105,110,102]).size=3:=rfl
 have h4:(ofBytes [48,112,48]).size=3:=rfl
 have h5:(ofBytes [112]).size=1:=rfl
 refine PP.ite (fun _=>PP.pure trivial) fun _=>(isInf_pp a 0).bind fun b _=>PP.ite (fun _=>(PP.cat (by unfold bigN;omega)).bind fun _ _=>PP.pure trivial) fun _=>PP.ite (fun _=>(PP.cat (by unfold bigN;omega)).bind fun _ _=>PP.pure trivial) fun _=>?_
 refine (split_pp a).bind fun x hx=>(fu_pp hx.1.1 hx.1.2).bind fun y hy=>(PP.cat (by unfold bigN;omega)).bind fun z hz=>(PP.cat (by unfold bigN;omega)).bind fun z2 hz2=>(it_pp hx.2.1 hx.2.2).bind fun z3 hz3=>(PP.cat (by unfold bigN;omega)).bind fun _ _=>PP.pure trivial
theorem ftext_pp (a:Nat):PP (Any:ByteArray→Prop) fun n=>binary_text n a :=
 (sign_pp a).bind fun b _=>PP.ite (fun _=>text0_pp (by decide)) fun _=>text0_pp (by decide)
theorem parse0_pp (s:ByteArray)(b:Bool)(m e:Int):PP (Any:Nat×Bool→Prop) fun n=>binary_parse_J0 n s b m e :=
 (ldexp_pp _ e).bind fun x _=>(ftext_pp x).bind fun y _=>PP.ite (fun _=>PP.pure trivial) fun _=>PP.ite (fun _=>(copy_pp _ _).bind fun _ _=>PP.pure trivial) fun _=>PP.pure trivial
theorem fits_pp {m e:Int}(h1:0≤m)(h2:m≤18446744073709551615):PP (Any:Bool→Prop) fun n=>binary_fits n m e:=by
 refine PP.bind (P:=Any) ?_ fun x _=>(PP.ck (by decide)).bind fun _ _=>PP.ite (fun _=>PP.ite (fun _=>PP.ite (fun _=>PP.ite (fun _=>PP.pure trivial) fun _=>PP.pure trivial) fun _=>PP.pure trivial) fun _=>PP.pure trivial) fun _=>PP.pure trivial
 unfold math_bits_Len64
 exact PP.ite (fun _=>PP.pure trivial) fun hn=>absurd ⟨h1,h2⟩ hn
theorem cut_pp {s:ByteArray}(hs:s.size≤65536):PP (fun r:ByteArray×ByteArray×Bool=>r.1.size≤65536∧r.2.1.size≤65536) fun n=>strings_Cut n s (ofBytes [112]):=by
 refine PP.bind (P:=fun r:ByteArray×ByteArray×Bool=>r.1.size≤65536∧r.2.1.size≤65536) ?_ fun x hx=>PP.pure hx
 unfold i_stringslite_Cut
 refine PP.bind (P:=fun x:Int=>x=Lib.indexByte s.data.toList 112) ⟨_,rfl,fun _ _=>rfl⟩ fun x hx=>?_
 subst hx
 refine PP.ite (fun hc=>?_) fun _=>PP.pure ⟨hs,by show 0≤65536;omega⟩
 rcases ixb s.data.toList 112 with hneg | ⟨i,hi,hg⟩
 ·simp only [decide_eq_true_eq] at hc;omega
 ·have hlt:i<s.size:=(List.getElem?_eq_some_iff.1 hg).1
  rw [hi]
  have h1:=ext_sz s 0 i
  have h2:=ext_sz s (i+1) s.size
  refine PP.bind (P:=fun x:ByteArray=>x.size≤65536) ⟨s.extract 0 i,by omega,fun _ h=>by show sliceS s 0 (i:Int) h=_;unfold sliceS;rw [if_pos (by omega)];simp⟩ fun x hx=>?_
  have ew:IntKind.i64.wrap ((i:Int)+((ofBytes [112]).size:Int))=((i+1:Nat):Int):=by
   have:(ofBytes [112]).size=1:=rfl
   rw [w64 (by omega) (by omega)];omega
  rw [ew]
  refine PP.bind (P:=fun x:ByteArray=>x.size≤65536) ⟨s.extract (i+1) s.size,by omega,fun _ h=>by show sliceS s ((i+1:Nat):Int) (s.size:Int) h=_;unfold sliceS;rw [if_pos (by omega)];simp⟩ fun y hy=>PP.pure ⟨hx,hy⟩
theorem uint_wp {s:ByteArray}{n:Nat}(hs:s.size≤65536)(hw:WF h):Wp (strconv_ParseUint n s 10 64) h fun r h'=>(match Lib.parseUintB 64 s.data.toList with | .ok v=>r=((v:Int),.nilIface) | _=>∃ t u,r.2=.iface t u)∧Fr (fun _=>False) h h':=by
 unfold strconv_ParseUint
 rw [if_pos ⟨by omega,rfl,rfl⟩]
 cases e:Lib.parseUintB 64 s.data.toList with
 | ok v=>exact Wp_pure.2 ⟨rfl,Fr.refl hw⟩
 | range =>
  show Wp (numE _) h _
  unfold numE
  rw [Wp_bind]
  exact Wp_opq fun h' f=>Wp_pure.2 ⟨⟨_,_,rfl⟩,f hw⟩
 | _ =>
  show Wp (numE 0) h _
  unfold numE
  rw [Wp_bind]
  exact Wp_opq fun h' f=>Wp_pure.2 ⟨⟨_,_,rfl⟩,f hw⟩
def One (m:Nat→M (Nat×Bool)):Prop:=∃ b,∀ n h,WF h→Wp (m n) h fun x h'=>x.2=b∧Fr (fun _=>False) h h'
theorem One.of {m:Nat→M (Nat×Bool)}(hm:PP (Any:Nat×Bool→Prop) m):One m:=by
 obtain⟨x,_,hx⟩:=hm
 exact⟨x.2,fun n h hw=>⟨x,h,hx n h,rfl,Fr.refl hw⟩⟩
theorem One.bind {P:α→Prop}{m:Nat→M α}{f:Nat→α→M (Nat×Bool)}(hm:PP P m)(hf:∀ x,P x→One fun n=>f n x):One fun n=>M.bind (m n) (f n):=by
 obtain⟨x,hx,h1⟩:=hm
 obtain⟨b,hb⟩:=hf x hx
 refine⟨b,fun n h hw=>?_⟩
 obtain⟨y,h',e,q⟩:=hb n h hw
 exact⟨y,h',by simp only [M.bind,h1,e],q⟩
theorem One.ite {c:Prop}[Decidable c]{a b:Nat→M (Nat×Bool)}(ha:c→One a)(hb:¬ c→One b):One fun n=>if c then a n else b n:=by
 by_cases hc:c
 ·obtain⟨x,h1⟩:=ha hc;exact⟨x,fun n h hw=>by show Wp (if c then a n else b n) h _;rw [if_pos hc];exact h1 n h hw⟩
 ·obtain⟨x,h1⟩:=hb hc;exact⟨x,fun n h hw=>by show Wp (if c then a n else b n) h _;rw [if_neg hc];exact h1 n h hw⟩
theorem fr_trans {h h1 h2:AHeap}(hw:WF h)(a:Fr (fun _=>False) h h1)(b:Fr (fun _=>False) h1 h2):Fr (fun _=>False) h h2:=a.trans hw b fun _ hx _=>hx.elim
theorem parse_one {s:ByteArray}(hs:s.size≤65536):One fun n=>binary_parse n s:=by
 unfold binary_parse
 refine One.bind (P:=fun x:ByteArray×Bool=>x.1.size≤65536) ⟨_,?_,fun _ _=>rfl⟩ fun x0 h0=>One.ite (fun _=>One.of (nan_pp.bind fun _ _=>PP.pure trivial)) fun _=>One.ite (fun _=>One.of ((inf_pp _).bind fun _ _=>PP.ite (fun _=>(copy_pp _ _).bind fun _ _=>PP.pure trivial) fun _=>PP.pure trivial)) fun _ =>
  One.ite (fun _=>One.of (PP.ite (fun _=>(copy_pp _ _).bind fun _ _=>PP.pure trivial) fun _=>PP.pure trivial)) fun _=>One.bind (cut_pp h0) fun r hr=>?_
 ·show (Lib.trimPrefix s.data.toList (ofBytes [45]).data.toList).toArray.size≤65536
  have:=trim_le s.data.toList (ofBytes [45]).data.toList
  have h2:s.data.toList.length=s.size:=rfl
  rw [List.size_toArray];omega
 ·obtain⟨t,u,found⟩:=r
  simp only at hr ⊢
  have tail:∀ (v:Nat) (e:Int),Lib.parseUintB 64 t.data.toList=.ok v→One fun n=>M.bind (binary_fits n (v:Int) e) fun x6=>if (!x6)=true then M.pure (0,false) else binary_parse_J0 n x0.1 x0.2 (v:Int) e:=fun v e hv=>by
   have hle:=Lib.parseUintB_le hv
   exact One.of ((fits_pp (by omega) (by omega)).bind fun _ _=>PP.ite (fun _=>PP.pure trivial) fun _=>parse0_pp _ _ _ _)
  have go:∃ b,∀ n (x2 x3:Int×Value) (h:AHeap),WF h→(match Lib.parseUintB 64 t.data.toList with | .ok v=>x2=((v:Int),.nilIface) | _=>∃ t u,x2.2=.iface t u)→(match Lib.atoiAll u.data.toList with | .ok v=>x3=(v,.nilIface) | _=>∃ t u,x3.2=.iface t u) →
    Wp (if (!found)=true then M.pure (0,false) else M.bind (isNilI x2.2) fun x4=>if (!x4)=true then M.pure (0,false) else M.bind (isNilI x3.2) fun x5=>if (!x5)=true then M.pure (0,false) else
     M.bind (binary_fits n x2.1 x3.1) fun x6=>if (!x6)=true then M.pure (0,false) else binary_parse_J0 n x0.1 x0.2 x2.1 x3.1) h fun x h'=>x.2=b∧Fr (fun _=>False) h h':=by
   cases found with
   | false=>exact⟨false,fun n x2 x3 h hw _ _=>by rw [if_pos (show (!false)=true from rfl)];exact Wp_pure.2 ⟨rfl,Fr.refl hw⟩⟩
   | true =>
    have bad2:∀ n (x2 x3:Int×Value) (h:AHeap),WF h→(∃ t u,x2.2=.iface t u)→Wp (if (!true)=true then M.pure (0,false) else M.bind (isNilI x2.2) fun x4=>if (!x4)=true then M.pure (0,false) else M.bind (isNilI x3.2) fun x5=>if (!x5)=true then M.pure (0,false) else
     M.bind (binary_fits n x2.1 x3.1) fun x6=>if (!x6)=true then M.pure (0,false) else binary_parse_J0 n x0.1 x0.2 x2.1 x3.1) h fun x h'=>x.2=false∧Fr (fun _=>False) h h':=fun n x2 x3 h hw hb=>by
     rw [if_neg (show ¬ ((!true)=true) by decide)]
     refine isNil_no hb ?_
     rw [if_pos (show (!false)=true from rfl)]
     exact Wp_pure.2 ⟨rfl,Fr.refl hw⟩
    cases e2:Lib.parseUintB 64 t.data.toList with
    | range=>exact⟨false,fun n x2 x3 h hw hb _=>bad2 n x2 x3 h hw hb⟩
    | ok v =>
     have bad3:∀ n (x2 x3:Int×Value) (h:AHeap),WF h→x2.2=.nilIface→(∃ t u,x3.2=.iface t u)→Wp (if (!true)=true then M.pure (0,false) else M.bind (isNilI x2.2) fun x4=>if (!x4)=true then M.pure (0,false) else M.bind (isNilI x3.2) fun x5=>if (!x5)=true then M.pure (0,false) else
      M.bind (binary_fits n x2.1 x3.1) fun x6=>if (!x6)=true then M.pure (0,false) else binary_parse_J0 n x0.1 x0.2 x2.1 x3.1) h fun x h'=>x.2=false∧Fr (fun _=>False) h h':=fun n x2 x3 h hw ha hb=>by
      rw [if_neg (show ¬ ((!true)=true) by decide)]
      refine isNil_ok ha ?_
      rw [if_neg (show ¬ ((!true)=true) by decide)]
      refine isNil_no hb ?_
      rw [if_pos (show (!false)=true from rfl)]
      exact Wp_pure.2 ⟨rfl,Fr.refl hw⟩
     cases e3:Lib.atoiAll u.data.toList with
     | range=>exact⟨false,fun n x2 x3 h hw ha hb=>bad3 n x2 x3 h hw (by rw [ha]) hb⟩
     | ok e =>
      obtain⟨b,hb⟩:=tail v e e2
      refine⟨b,fun n x2 x3 h hw h2 h3=>?_⟩
      simp only at h2 h3
      subst h2
      subst h3
      rw [if_neg (show ¬ ((!true)=true) by decide)]
      refine isNil_ok rfl ?_
      rw [if_neg (show ¬ ((!true)=true) by decide)]
      refine isNil_ok rfl ?_
      rw [if_neg (show ¬ ((!true)=true) by decide)]
      exact hb n h hw
     | _=>exact⟨false,fun n x2 x3 h hw ha hb=>bad3 n x2 x3 h hw (by rw [ha]) hb⟩
    | _=>exact⟨false,fun n x2 x3 h hw hb _=>bad2 n x2 x3 h hw hb⟩
  obtain⟨b,hb⟩:=go
  refine⟨b,fun n h hw=>?_⟩
  show Wp (M.bind (strconv_ParseUint n t 10 64) _) h _
  rw [Wp_bind]
  refine (uint_wp hr.1 hw).mono fun x2 h1 hx2=>?_
  rw [Wp_bind]
  refine (atoi_wp hr.2 hx2.2.wf).mono fun x3 h2 hx3=>?_
  refine (hb n x2 x3 h2 hx3.2.wf hx2.1 hx3.1).mono fun x h3 hx=>⟨hx.1,fr_trans hw hx2.2 (fr_trans hx2.2.wf hx3.2 hx.2)⟩
theorem bin_det (s:ByteArray)(hs:s.size≤65536):∃ b,∀ n h,WF h→Wp (binary_Valid n s) h fun x h'=>x=b∧Fr (fun _=>False) h h':=by
 obtain⟨b,hb⟩:=parse_one hs
 refine⟨b,fun n h hw=>?_⟩
 unfold binary_Valid
 rw [Wp_bind]
 exact (hb n h hw).mono fun x h1 hx=>Wp_pure.2 hx
open Classical in
noncomputable def binV (s:ByteArray):Bool:=if hs:s.size≤65536 then (bin_det s hs).choose else false
theorem binary_Valid_wp {s:ByteArray}{n:Nat}(hs:s.size≤65536)(hw:WF h):Wp (binary_Valid n s) h fun x h'=>x=binV s∧Fr (fun _=>False) h h':=by
 unfold binV
 rw [dif_pos hs]
 exact (bin_det s hs).choose_spec n h hw
end Go.Sh
