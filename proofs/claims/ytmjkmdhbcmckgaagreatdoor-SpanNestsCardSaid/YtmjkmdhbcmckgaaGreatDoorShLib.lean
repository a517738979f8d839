
import Derived.Test.YtmjkmdhbcmckgaaGreatDoorShT
import Derived.Test.YtmjkmdhbcmckgaaGreatDoorAgoL
import Derived.Test.YtmjkmdhbcmckgaaGreatDoorChk
import Derived.Test.YtmjkmdhbcmckgaaGreatDoorTz
import Derived.Test.YtmjkmdhbcmckgaaGreatDoorFu
import Derived.Lib.AtoiAllCases
import Derived.Lib.AppendIntMem
set_option linter.all false
namespace Go.Sh
open Go Go.Ago Go.Proofs Go.RowKit
def strings_IndexByte (_:Nat)(s:ByteArray)(c:Int):M Int:=M.pure (Lib.indexByte s.data.toList c.toNat.toUInt8)
def codepoint_Check (_:Nat)(s:ByteArray):M (Int×Int):=M.pure (ckPos (ckAt s (s.size+1) 0),ckErr (ckAt s (s.size+1) 0))
def isDig (b:UInt8):Bool:=Nat.ble 48 b.toNat && Nat.ble b.toNat 57
def decFrom (a:Nat)(D:List UInt8):Nat:=D.foldl (fun a b=>10 * a+(b.toNat - 48)) a
def decVal (D:List UInt8):Nat:=decFrom 0 D
def u8 (s:ByteArray):Bool:=(ckAt s (s.size+1) 0).isNone
def numE (v:Int):M (Int×Value):=M.bind opq fun b=>M.pure (v,.iface T_po_strconv_NumError (.pointer (some ⟨b,0,none⟩)))
def strconv_Atoi (_:Nat)(s:ByteArray):M (Int×Value) :=
 if s.size≤281474976710656 then (match Lib.atoiAll s.data.toList with
  | .ok v=>M.pure (v,.nilIface)
  |  Lib.NumEnd.syntax=>numE 0
  | .range=>numE (Lib.atoiSat s.data.toList))
 else M.fail
def strconv_ParseUint (_:Nat)(s:ByteArray)(base bits:Int):M (Int×Value) :=
 if s.size≤281474976710656∧base=10∧bits=64 then (match Lib.parseUintB 64 s.data.toList with
  | .ok v=>M.pure ((v:Int),.nilIface)
  |  Lib.NumEnd.syntax=>numE 0
  | .range=>numE 18446744073709551615)
 else M.fail
def strconv_Itoa (_:Nat)(n:Int):M ByteArray:=if -9223372036854775808≤n∧n≤9223372036854775807 then M.pure ⟨(Lib.itoa n).toArray⟩ else M.fail
def i_strconv_FormatUint (_:Nat)(u:Int)(base:Int):M ByteArray:=if 0≤u∧u<18446744073709551616∧base=10 then M.pure ⟨(Lib.itoa u).toArray⟩ else M.fail
def strings_Repeat (_:Nat)(s:ByteArray)(c:Int):M ByteArray:=if 0≤c∧c≤1048576∧s.size≤65536 then M.pure ⟨(Lib.repeatL s.data.toList c.toNat).toArray⟩ else M.fail
def strings_TrimRight (_:Nat)(s t:ByteArray):M ByteArray:=match t.data.toList with
 | [c]=>if c.toNat<128∧s.size≤9223372036854775807 then M.pure ⟨(Lib.trimRightB s.data.toList c).toArray⟩ else M.fail
 | _=>M.fail
def strings_TrimPrefix (_:Nat)(s p:ByteArray):M ByteArray:=M.pure ⟨(Lib.trimPrefix s.data.toList p.data.toList).toArray⟩
def strings_CutPrefix (_:Nat)(s p:ByteArray):M (ByteArray×Bool):=M.pure (⟨(Lib.trimPrefix s.data.toList p.data.toList).toArray⟩,Lib.hasPrefix s.data.toList p.data.toList)
def i_stringslite_Index (_:Nat)(s t:ByteArray):M Int:=match t.data.toList with
 | [c]=>M.pure (Lib.indexByte s.data.toList c)
 | _=>M.fail
def math_bits_Len64 (_:Nat)(x:Int):M Int:=if 0≤x∧x≤18446744073709551615 then M.pure (Lib.bitLen x.toNat) else M.fail
def math_bits_TrailingZeros64 (_:Nat)(x:Int):M Int:=if x=0 then M.pure 64 else if 0≤tzI x∧tzI x<64 then M.pure (wrap64 (debT (tzI x).toNat)) else M.fail
def math_Float64bits (_:Nat)(b:Nat):M Int:=M.pure (b:Int)
def math_Float64frombits (_:Nat)(n:Int):M Nat:=M.pure n.toNat
theorem two {P:Program}{ι:IMap}{a b a' b':Value}(ha:VRel P ι a a')(hb:VRel P ι b b'):VRel P ι (.tuple #[a,b]) (.tuple #[a',b']):=.tuple _ _ rfl fun i v v' q1 q2=>by
 match i,q1,q2 with
 | 0,q1,q2=>cases q1;cases q2;exact ha
 | 1,q1,q2=>cases q1;cases q2;exact hb
theorem str1 {t:ByteArray}{c:UInt8}(h:t.data.toList=[c]):t=⟨#[c]⟩:=by
 obtain⟨⟨l⟩⟩:=t
 have h:l=[c]:=h
 rw [h]
variable {h h1:AHeap}{n:Nat}
theorem tab_of {w : World} (L : LibFact w) : Lib.TabIs Tryz.prog w "internal/strconv.uint64pow10" .u64 Lib.pow10Tab := by
 obtain⟨t,fz,hp⟩:=L.pow
 show World.var? Tryz.prog w "internal/strconv.uint64pow10" = _
 unfold World.var?
 rw [show Tryz.prog.globalNamed "internal/strconv.uint64pow10" = some 7 by kernel_rfl]
 simp only [Option.bind_some,hp]
theorem rep_spec {s:ByteArray}{c:Int}{y:ByteArray}(hx:strings_Repeat n s c h=some (y,h1)):∃ m:Nat,c=m∧m≤1048576∧s.size * m≤140737488355328∧y=⟨(Lib.repeatL s.data.toList m).toArray⟩∧h1=h:=by
 unfold strings_Repeat at hx
 split at hx
 ·rename_i hc
  cases hx
  obtain⟨m,rfl⟩:∃ m:Nat,c=m:=⟨c.toNat,by omega⟩
  have hm:s.size * m≤65536 * 1048576:=Nat.mul_le_mul hc.2.2 (by omega)
  exact⟨m,rfl,by omega,by omega,rfl,rfl⟩
 ·simp [M.fail] at hx
theorem tr_spec {s t y:ByteArray}(hx:strings_TrimRight n s t h=some (y,h1)):∃ c:UInt8,t=⟨#[c]⟩∧c.toNat<128∧s.size≤9223372036854775807∧y=⟨(Lib.trimRightB s.data.toList c).toArray⟩∧h1=h:=by
 unfold strings_TrimRight at hx
 cases e:t.data.toList with
 | nil=>rw [e] at hx;cases hx
 | cons c r =>
  cases r with
  | cons d r=>rw [e] at hx;cases hx
  | nil =>
   rw [e] at hx
   have hx:(if c.toNat<128∧s.size≤9223372036854775807 then M.pure (⟨(Lib.trimRightB s.data.toList c).toArray⟩:ByteArray) else M.fail) h=some (y,h1):=hx
   split at hx
   ·rename_i hs
    cases hx
    exact⟨c,str1 e,hs.1,hs.2,rfl,rfl⟩
   ·simp [M.fail] at hx
theorem ix_spec {s t:ByteArray}{y:Int}(hx:i_stringslite_Index n s t h=some (y,h1)):∃ c:UInt8,t=⟨#[c]⟩∧y=Lib.indexByte s.data.toList c∧h1=h:=by
 unfold i_stringslite_Index at hx
 cases e:t.data.toList with
 | nil=>rw [e] at hx;cases hx
 | cons c r =>
  cases r with
  | cons d r=>rw [e] at hx;cases hx
  | nil=>rw [e] at hx;cases hx;exact⟨c,str1 e,rfl,rfl⟩
theorem at_spec {s:ByteArray}{y:Int×Value}(hx:strconv_Atoi n s h=some (y,h1)):s.size≤281474976710656∧((∃ v,Lib.atoiAll s.data.toList=.ok v∧y=(v,.nilIface)∧h1=h)∨(Lib.atoiAll s.data.toList= Lib.NumEnd.syntax∧numE 0 h=some (y,h1)) ∨
  (Lib.atoiAll s.data.toList=.range∧numE (Lib.atoiSat s.data.toList) h=some (y,h1))):=by
 unfold strconv_Atoi at hx
 split at hx
 ·rename_i hc
  refine⟨hc,?_⟩
  cases e:Lib.atoiAll s.data.toList with
  | ok v=>rw [e] at hx;cases hx;exact .inl ⟨v,rfl,rfl,rfl⟩
  | range=>rw [e] at hx;exact .inr (.inr ⟨rfl,hx⟩)
  | _=>rw [e] at hx;exact .inr (.inl ⟨rfl,hx⟩)
 ·simp [M.fail] at hx
theorem pu_spec {s:ByteArray}{b c:Int}{y:Int×Value}(hx:strconv_ParseUint n s b c h=some (y,h1)):(s.size≤281474976710656∧b=10∧c=64)∧((∃ v:Nat,Lib.parseUintB 64 s.data.toList=.ok v∧y=((v:Int),.nilIface)∧h1=h)∨(Lib.parseUintB 64 s.data.toList= Lib.NumEnd.syntax∧numE 0 h=some (y,h1)) ∨
  (Lib.parseUintB 64 s.data.toList=.range∧numE 18446744073709551615 h=some (y,h1))):=by
 unfold strconv_ParseUint at hx
 split at hx
 ·rename_i hc
  refine⟨hc,?_⟩
  cases e:Lib.parseUintB 64 s.data.toList with
  | ok v=>rw [e] at hx;cases hx;exact .inl ⟨v,rfl,rfl,rfl⟩
  | range=>rw [e] at hx;exact .inr (.inr ⟨rfl,hx⟩)
  | _=>rw [e] at hx;exact .inr (.inl ⟨rfl,hx⟩)
 ·simp [M.fail] at hx
theorem strings_IndexByte_ok (n:Nat):FnOK Tryz.prog ⟨87,[.one .str,.one (.int .u8)],[.one (.int .i64)],fun x=>strings_IndexByte n x.1 x.2⟩:=by
 intro x
 refine CallOK.of (fun args w=>enter_ok (fn:=Tryz.f87) (by kernel_rfl) (by kernel_rfl) (by kernel_rfl) args w) ?_
 intro F h y h1 hx ι w vs' R hl
 cases hx
 obtain rfl:=LRel.flatArr hl rfl
 exact call_pure R (.flat _ rfl) ((Tryz.strings_IndexByte x.1 x.2 w).mono fun e w' hx=>⟨hx.1,by rw [hx.2];exact Below.refl _ _⟩)
theorem codepoint_Check_ok (n:Nat):FnOK Tryz.prog ⟨57,[.one .str],[.one (.int .i64),.one (.int .i64)],fun x=>codepoint_Check n x⟩:=by
 intro x
 refine CallOK.of (fun args w=>enter_ok (fn:=Tryz.f57) (by kernel_rfl) (by kernel_rfl) (by kernel_rfl) args w) ?_
 intro F h y h1 hx ι w vs' R hl
 cases hx
 obtain rfl:=LRel.flatArr hl rfl
 have L:=R.lib w R.old
 exact call_pure R (two (.flat _ rfl) (.flat _ rfl)) (check_calls x w ⟨L.first,L.accept⟩)
theorem strconv_Itoa_ok (n:Nat):FnOK Tryz.prog ⟨119,[.one (.int .i64)],[.one .str],fun x=>strconv_Itoa n x⟩:=by
 intro x
 refine CallOK.of (fun args w=>enter_ok (fn:=Tryz.f119) (by kernel_rfl) (by kernel_rfl) (by kernel_rfl) args w) ?_
 intro F h y h1 hx ι w vs' R hl
 obtain rfl:=LRel.flatArr hl rfl
 have hx:strconv_Itoa n x h=some (y,h1):=hx
 unfold strconv_Itoa at hx
 split at hx
 ·rename_i hc
  cases hx
  have htab:=tab_of (R.lib w R.old)
  exact call_pure R (.flat _ rfl) ((Tryz.strconv_Itoa x hc.1 hc.2 w htab).mono fun e w' hx=>⟨hx.1,by
   obtain⟨_,k,os,rfl⟩:=hx
   exact Lib.below_grow _ _ (Nat.le_refl _) _ _⟩)
 ·simp [M.fail] at hx
theorem strings_Repeat_ok (n:Nat):FnOK Tryz.prog ⟨159,[.one .str,.one (.int .i64)],[.one .str],fun x=>strings_Repeat n x.1 x.2⟩:=by
 intro x
 refine CallOK.of (fun args w=>enter_ok (fn:=Tryz.f159) (by kernel_rfl) (by kernel_rfl) (by kernel_rfl) args w) ?_
 intro F h y h1 hx ι w vs' R hl
 obtain rfl:=LRel.flatArr hl rfl
 obtain⟨m,hm,h2,h3,rfl,rfl⟩:=rep_spec (n:=n) hx
 have e:x=(x.1,(m:Int)):=by rw [← hm]
 rw [e]
 exact call_pure R (.flat _ rfl) ((Tryz.strings_Repeat x.1 m w (by omega) h3).mono fun e w' hx=>⟨hx.1,hx.2⟩)
theorem strings_TrimRight_ok (n:Nat):FnOK Tryz.prog ⟨135,[.one .str,.one .str],[.one .str],fun x=>strings_TrimRight n x.1 x.2⟩:=by
 intro x
 refine CallOK.of (fun args w=>enter_ok (fn:=Tryz.f135) (by kernel_rfl) (by kernel_rfl) (by kernel_rfl) args w) ?_
 intro F h y h1 hx ι w vs' R hl
 obtain rfl:=LRel.flatArr hl rfl
 obtain⟨c,hm,h2,h3,rfl,rfl⟩:=tr_spec (n:=n) hx
 have e:x=(x.1,(⟨#[c]⟩:ByteArray)):=by rw [← hm]
 rw [e]
 exact call_pure R (.flat _ rfl) ((Tryz.strings_TrimRight_one x.1 c h2 w h3).mono fun e w' hx=>⟨hx.1,by rw [hx.2];exact Below.refl _ _⟩)
theorem strings_TrimPrefix_ok (n:Nat):FnOK Tryz.prog ⟨89,[.one .str,.one .str],[.one .str],fun x=>strings_TrimPrefix n x.1 x.2⟩:=by
 intro x
 refine CallOK.of (fun args w=>enter_ok (fn:=Tryz.f89) (by kernel_rfl) (by kernel_rfl) (by kernel_rfl) args w) ?_
 intro F h y h1 hx ι w vs' R hl
 cases hx
 obtain rfl:=LRel.flatArr hl rfl
 exact call_pure R (.flat _ rfl) ((Tryz.strings_TrimPrefix x.1 x.2 w).mono fun e w' hx=>⟨hx.1,by rw [hx.2];exact Below.refl _ _⟩)
theorem strings_CutPrefix_ok (n:Nat):FnOK Tryz.prog ⟨94,[.one .str,.one .str],[.one .str,.one .bool],fun x=>strings_CutPrefix n x.1 x.2⟩:=by
 intro x
 refine CallOK.of (fun args w=>enter_ok (fn:=Tryz.f94) (by kernel_rfl) (by kernel_rfl) (by kernel_rfl) args w) ?_
 intro F h y h1 hx ι w vs' R hl
 cases hx
 obtain rfl:=LRel.flatArr hl rfl
 exact call_pure R (two (.flat _ rfl) (.flat _ rfl)) ((Tryz.strings_CutPrefix x.1 x.2 w).mono fun e w' hx=>⟨hx.1,by rw [hx.2];exact Below.refl _ _⟩)
theorem i_stringslite_Index_ok (n:Nat):FnOK Tryz.prog ⟨150,[.one .str,.one .str],[.one (.int .i64)],fun x=>i_stringslite_Index n x.1 x.2⟩:=by
 intro x
 refine CallOK.of (fun args w=>enter_ok (fn:=Tryz.f150) (by kernel_rfl) (by kernel_rfl) (by kernel_rfl) args w) ?_
 intro F h y h1 hx ι w vs' R hl
 obtain rfl:=LRel.flatArr hl rfl
 obtain⟨c,hm,rfl,rfl⟩:=ix_spec (n:=n) hx
 have e:x=(x.1,(⟨#[c]⟩:ByteArray)):=by rw [← hm]
 rw [e]
 exact call_pure R (.flat _ rfl) ((Tryz.stringslite_Index_one x.1 c w).mono fun e w' hx=>⟨hx.1,by rw [hx.2];exact Below.refl _ _⟩)
theorem math_bits_Len64_ok (n:Nat):FnOK Tryz.prog ⟨124,[.one (.int .u64)],[.one (.int .i64)],fun x=>math_bits_Len64 n x⟩:=by
 intro x
 refine CallOK.of (fun args w=>enter_ok (fn:=Tryz.f124) (by kernel_rfl) (by kernel_rfl) (by kernel_rfl) args w) ?_
 intro F h y h1 hx ι w vs' R hl
 obtain rfl:=LRel.flatArr hl rfl
 have hx:math_bits_Len64 n x h=some (y,h1):=hx
 unfold math_bits_Len64 at hx
 split at hx
 ·rename_i hc
  cases hx
  exact call_pure R (.flat _ rfl) ((Tryz.bits_Len64 x w hc.1 hc.2).mono fun e w' hx=>⟨hx.1,by rw [hx.2];exact Below.refl _ _⟩)
 ·simp [M.fail] at hx
theorem num_err {F:Fz}{ι:IMap}{h h1:AHeap}{w:World}{f:FuncId}{vs:Array Value}{v:Int}{k:IntKind}{ev:Value}{nm s:ByteArray}{y:Int×Value}(R:Rel Tryz.prog F ι h w)(hx:numE v h=some (y,h1))
  (hc:Calls Tryz.prog f vs w fun e w'=>∃ N,e=.returned (.tuple #[.int k v,.iface T_po_strconv_NumError (.pointer (some ⟨N,0,none⟩))])∧w.heap.size≤N∧w'.heap[N]?=some (.cells #[.string nm,.string s,ev] T_strconv_NumError (0,0))∧Below w.heap.size w w') :
  Calls Tryz.prog f vs w fun e w'=>∃ v' ι',e=.returned v'∧VRel Tryz.prog ι' (.tuple #[.int k y.1,y.2]) v'∧Rel Tryz.prog F ι' h1 w'∧ι.le ι':=by
 simp only [numE,M.bind,opq,M.pure,Option.some.injEq,Prod.mk.injEq] at hx
 obtain⟨rfl,rfl⟩:=hx
 refine hc.mono fun e w' hx=>?_
 obtain⟨N,rfl,hN,hw,hb⟩:=hx
 obtain⟨ι',q1,q2,q3⟩:=(R.below hb).opq hw
 exact⟨_,ι',rfl,two (.flat _ rfl) (.iface _ _ _ (.ptr _ _ ⟨rfl,rfl,_,q2,rfl,rfl⟩)),q3,q1⟩
theorem strconv_Atoi_ok (n:Nat):FnOK Tryz.prog ⟨88,[.one .str],[.one (.int .i64),.one .raw],fun x=>strconv_Atoi n x⟩:=by
 intro x
 refine CallOK.of (fun args w=>enter_ok (fn:=Tryz.f88) (by kernel_rfl) (by kernel_rfl) (by kernel_rfl) args w) ?_
 intro F h y h1 hx ι w vs' R hl
 obtain rfl:=LRel.flatArr hl rfl
 have L:=R.lib w R.old
 obtain⟨hc,hv⟩:=at_spec (n:=n) hx
 rcases hv with ⟨v,hv,rfl,rfl⟩ | ⟨hv,hx⟩ | ⟨hv,hx⟩
 ·refine (Tryz.strconv_Atoi_ok x (by have:ByteArray.size x≤281474976710656:=hc;omega) _ hv w).mono fun e w' hx=>?_
  obtain⟨rfl,hw⟩:=hx
  refine⟨_,ι,rfl,two (.flat _ rfl) (.flat _ rfl),?_,.refl _⟩
  rcases hw with rfl | ⟨t,rfl⟩
  ·exact R
  ·exact R.below (Lib.bytesWorld_below _ _ _)
 ·obtain⟨ev,e1,e2⟩:=L.esyn
  exact num_err R hx (Tryz.strconv_Atoi_syntax x hc hv ev w e1 e2)
 ·obtain⟨ev,e1,e2⟩:=L.erng
  exact num_err R hx (Tryz.strconv_Atoi_range x hc hv ev w e1 e2)
theorem strconv_ParseUint_ok (n:Nat):FnOK Tryz.prog ⟨98,[.one .str,.one (.int .i64),.one (.int .i64)],[.one (.int .u64),.one .raw],fun x=>strconv_ParseUint n x.1 x.2.1 x.2.2⟩:=by
 intro x
 refine CallOK.of (fun args w=>enter_ok (fn:=Tryz.f98) (by kernel_rfl) (by kernel_rfl) (by kernel_rfl) args w) ?_
 intro F h y h1 hx ι w vs' R hl
 obtain rfl:=LRel.flatArr hl rfl
 have L:=R.lib w R.old
 obtain⟨⟨hc,hb,hd⟩,hv⟩:=pu_spec (n:=n) hx
 have e:x=(x.1,(10:Int),(64:Int)):=by rw [← hb,← hd]
 rw [e]
 rcases hv with ⟨v,hv,rfl,rfl⟩ | ⟨hv,hx⟩ | ⟨hv,hx⟩
 ·refine (Tryz.strconv_ParseUint_10_at64_ok x.1 (by have:ByteArray.size x.1≤281474976710656:=hc;omega) _ hv w).mono fun e w' hx=>?_
  obtain⟨rfl,hw⟩:=hx
  refine⟨_,ι,rfl,two (.flat _ rfl) (.flat _ rfl),?_,.refl _⟩
  rcases hw with rfl | rfl
  ·exact R
  ·exact R.below (Lib.bytesWorld_below _ _ _)
 ·obtain⟨ev,e1,e2⟩:=L.esyn
  exact num_err R hx (Tryz.strconv_ParseUint_10_at64_syntax x.1 hc hv ev w e1 e2)
 ·obtain⟨ev,e1,e2⟩:=L.erng
  exact num_err R hx (Tryz.strconv_ParseUint_10_at64_range x.1 hc hv ev w e1 e2)
theorem math_Float64bits_ok (n:Nat):FnOK Tryz.prog ⟨131,[.one .f64],[.one (.int .u64)],fun x=>math_Float64bits n x⟩:=by
 intro x
 refine⟨.inr ?_,fun he=>?_⟩
 ·intro F h y h1 hx ι w vs' R hl
  cases hx
  obtain rfl:=LRel.flatArr hl rfl
  exact⟨.int .u64 ((show Nat from x):Int),w,ι,bits_run x w,.flat _ rfl,R,.refl _⟩
 ·intro F h y h1 hx ι w vs' R hl
  have:=(he #[.float .f64 0] w).symm.trans (bits_run 0 w)
  cases this
theorem math_Float64frombits_ok (n:Nat):FnOK Tryz.prog ⟨121,[.one (.int .u64)],[.one .f64],fun x=>math_Float64frombits n x⟩:=by
 intro x
 refine⟨.inr ?_,fun he=>?_⟩
 ·intro F h y h1 hx ι w vs' R hl
  cases hx
  obtain rfl:=LRel.flatArr hl rfl
  exact⟨.float .f64 ((show Int from x).toNat),w,ι,from_run x w,.flat _ rfl,R,.refl _⟩
 ·intro F h y h1 hx ι w vs' R hl
  have:=(he #[.int .u64 0] w).symm.trans (from_run 0 w)
  cases this
theorem tzs_spec {x y:Int}(hx:math_bits_TrailingZeros64 n x h=some (y,h1)):(x=0∧y=64∧h1=h)∨(x≠0∧(0≤tzI x∧tzI x<64)∧y=wrap64 (debT (tzI x).toNat)∧h1=h):=by
 unfold math_bits_TrailingZeros64 at hx
 split at hx
 ·cases hx;exact .inl ⟨‹_›,rfl,rfl⟩
 ·split at hx
  ·cases hx;exact .inr ⟨‹_›,‹_›,rfl,rfl⟩
  ·simp [M.fail] at hx
theorem math_bits_TrailingZeros64_ok (n:Nat):FnOK Tryz.prog ⟨156,[.one (.int .u64)],[.one (.int .i64)],fun x=>math_bits_TrailingZeros64 n x⟩:=by
 intro x
 refine CallOK.of (fun args w=>enter_ok (fn:=Tryz.f156) (by kernel_rfl) (by kernel_rfl) (by kernel_rfl) args w) ?_
 intro F h y h1 hx ι w vs' R hl
 obtain rfl:=LRel.flatArr hl rfl
 have L:=R.lib w R.old
 rcases tzs_spec (n:=n) hx with ⟨h0,rfl,rfl⟩ | ⟨h0,h2,rfl,rfl⟩
 ·have e:x=(0:Int):=h0
  rw [e]
  exact call_pure R (.flat _ rfl) ((tz_zero w).mono fun e w' hx=>⟨hx.1,by rw [hx.2];exact Below.refl _ _⟩)
 ·exact call_pure R (.flat _ rfl) ((tz_calls x w h0 h2 L.deb).mono fun e w' hx=>⟨hx.1,by rw [hx.2];exact Below.refl _ _⟩)
theorem fu_spec {u b:Int}{y:ByteArray}(hx:i_strconv_FormatUint n u b h=some (y,h1)):∃ m:Nat,u=m∧m<18446744073709551616∧b=10∧y=⟨(Lib.itoa m).toArray⟩∧h1=h:=by
 unfold i_strconv_FormatUint at hx
 split at hx
 ·rename_i hc
  cases hx
  obtain⟨m,rfl⟩:∃ m:Nat,u=m:=⟨u.toNat,by omega⟩
  exact⟨m,rfl,by omega,hc.2.2,rfl,rfl⟩
 ·simp [M.fail] at hx
theorem i_strconv_FormatUint_ok (n:Nat):FnOK Tryz.prog ⟨157,[.one (.int .u64),.one (.int .i64)],[.one .str],fun x=>i_strconv_FormatUint n x.1 x.2⟩:=by
 intro x
 refine CallOK.of (fun args w=>enter_ok (fn:=Tryz.f157) (by kernel_rfl) (by kernel_rfl) (by kernel_rfl) args w) ?_
 intro F h y h1 hx ι w vs' R hl
 obtain rfl:=LRel.flatArr hl rfl
 obtain⟨m,hm,h2,h3,rfl,rfl⟩:=fu_spec (n:=n) hx
 have e:x=((m:Int),(10:Int)):=by rw [← hm,← h3]
 rw [e]
 exact call_pure R (.flat _ rfl) (fu_calls m h2 w (tab_of (R.lib w R.old)))
end Go.Sh
