
import Derived.Test.YtlbigfjnapgioaaGreatDoorShT
import Derived.Test.YtlbigfjnapgioaaGreatDoorAgoL
import Derived.Test.YtlbigfjnapgioaaGreatDoorChk
import Derived.Lib.AtoiAllCases
namespace Go.Sh
open Go Go.Ago Go.Proofs Go.RowKit
def isDig (b : UInt8) : Bool:=Nat.ble 48 b.toNat && Nat.ble b.toNat 57
def decFrom (a : Nat) (D : List UInt8) : Nat:=D.foldl (fun a b=>10 * a + (b.toNat - 48)) a
def decVal (D : List UInt8) : Nat:=decFrom 0 D
def u8 (s : ByteArray) : Bool:=(ckAt s (s.size + 1) 0).isNone
def strings_IndexByte (_ : Nat) (s : ByteArray) (c : Int) : M Int:=M.pure (Lib.indexByte s.data.toList c.toNat.toUInt8)
def strings_Compare (_ : Nat) (s t : ByteArray) : M Int:=M.pure (Lib.compareBytes s.data.toList t.data.toList)
def codepoint_Check (_ : Nat) (s : ByteArray) : M (Int × Int):=M.pure (ckPos (ckAt s (s.size + 1) 0),ckErr (ckAt s (s.size + 1) 0))
def strconv_Atoi (_ : Nat) (s : ByteArray) : M (Int × Value) :=
 if (s.size ≠ 0∧s.size ≤ 281474976710656)∧s.data.toList.all isDig = true then
  (if decVal s.data.toList ≤ 9223372036854775807 then M.pure ((decVal s.data.toList : Int),.nilIface)
  else M.bind opq fun b=>M.pure (9223372036854775807,.iface T_po_strconv_NumError (.pointer (some ⟨b,0,none⟩))))
 else M.fail
theorem strings_IndexByte_ok (n : Nat) : FnOK Tryz.prog ⟨96,[.one .str,.one (.int .u8)],[.one (.int .i64)],fun x=>strings_IndexByte n x.1 x.2⟩:=by
 intro x
 refine ⟨fun args w=>enter_ok (fn:=Tryz.f96) (by kernel_rfl) (by kernel_rfl) (by kernel_rfl) args w,?_⟩
 intro F h y h1 hx ι w vs' R hl
 cases hx
 obtain rfl:=LRel.flatArr hl rfl
 exact call_pure R (.flat _ rfl) ((Tryz.strings_IndexByte x.1 x.2 w).mono fun e w' hx=>⟨hx.1,by rw [hx.2];exact Below.refl _ _⟩)
theorem strings_Compare_ok (n : Nat) : FnOK Tryz.prog ⟨94,[.one .str,.one .str],[.one (.int .i64)],fun x=>strings_Compare n x.1 x.2⟩:=by
 intro x
 refine ⟨fun args w=>enter_ok (fn:=Tryz.f94) (by kernel_rfl) (by kernel_rfl) (by kernel_rfl) args w,?_⟩
 intro F h y h1 hx ι w vs' R hl
 cases hx
 obtain rfl:=LRel.flatArr hl rfl
 exact call_pure R (.flat _ rfl) ((Tryz.strings_Compare x.1 x.2 w).mono fun e w' hx=>⟨hx.1,by rw [hx.2];exact Below.refl _ _⟩)
theorem codepoint_Check_ok (n : Nat) : FnOK Tryz.prog ⟨100,[.one .str],[.one (.int .i64),.one (.int .i64)],fun x=>codepoint_Check n x⟩:=by
 intro x
 refine ⟨fun args w=>enter_ok (fn:=Tryz.f100) (by kernel_rfl) (by kernel_rfl) (by kernel_rfl) args w,?_⟩
 intro F h y h1 hx ι w vs' R hl
 cases hx
 obtain rfl:=LRel.flatArr hl rfl
 have L:=R.lib w R.old
 refine call_pure R (.tuple _ _ rfl fun i v v' h1 h2=>?_) (check_calls x w ⟨L.first,L.accept⟩)
 have e : v' = v:=by rw [h1] at h2;exact (Option.some.inj h2).symm
 subst e
 match i,h1 with
 | 0,h1=>cases h1;exact .flat _ rfl
 | 1,h1=>cases h1;exact .flat _ rfl
theorem isDig_iff {c : UInt8} : isDig c = true ↔ 48 ≤ c.toNat∧c.toNat ≤ 57:=by
 unfold isDig;simp
theorem decFrom_le : ∀ (D : List UInt8) (a : Nat),a ≤ decFrom a D
 | [],a=>Nat.le_refl _
 | c :: D,a=>by
  have:=decFrom_le D (10 * a + (c.toNat - 48))
  show a ≤ decFrom (10 * a + (c.toNat - 48)) D
  omega
theorem parse_digits : ∀ (D : List UInt8) (a : Nat),D.all isDig = true → a < 18446744073709551616 →
  (decFrom a D < 18446744073709551616 → Lib.parseUint10 a D = .ok (decFrom a D))∧(18446744073709551616 ≤ decFrom a D → Lib.parseUint10 a D = .range)
 | [],a,_,ha=>⟨fun _=>rfl,fun h=>by have h : 18446744073709551616 ≤ a:=h;omega⟩
 | c :: D,a,hd,ha=>by
  rw [List.all_cons,Bool.and_eq_true] at hd
  have hc:=isDig_iff.1 hd.1
  have e : decFrom a (c :: D) = decFrom (a * 10 + (c.toNat - 48)) D:=by
   show decFrom (10 * a + (c.toNat - 48)) D = _
   rw [Nat.mul_comm]
  have hle:=decFrom_le D (a * 10 + (c.toNat - 48))
  rw [e]
  have ih:=parse_digits D (a * 10 + (c.toNat - 48)) hd.2
  simp only [Lib.parseUint10,hc,and_self,if_true]
  by_cases h1 : 1844674407370955162 ≤ a
  ·rw [if_pos h1]
   exact ⟨fun h=>by omega,fun _=>rfl⟩
  ·rw [if_neg h1]
   by_cases h2 : 18446744073709551616 ≤ a * 10 + (c.toNat - 48)
   ·rw [if_pos h2]
    exact ⟨fun h=>by omega,fun _=>rfl⟩
   ·rw [if_neg h2]
    exact ih (by omega)
theorem atoi_digits {D : List UInt8} (hd : D.all isDig = true) (hn : D ≠ []) :
  (decVal D ≤ 9223372036854775807 → Lib.atoiAll D = .ok (decVal D : Int))∧(9223372036854775807 < decVal D → Lib.atoiAll D = .range∧Lib.atoiSat D = 9223372036854775807):=by
 cases D with
 | nil=>exact absurd rfl hn
 | cons c r =>
  have hc:=hd
  rw [List.all_cons,Bool.and_eq_true] at hc
  have hc:=isDig_iff.1 hc.1
  obtain ⟨p1,p2⟩:=parse_digits (c :: r) 0 hd (by omega)
  have hpm : Lib.parseMag (c :: r) = Lib.parseUint10 0 (c :: r):=by unfold Lib.parseMag;rw [if_neg (by simp)]
  have h43 : ¬ (c.toNat = 43 ∨ c.toNat = 45):=by omega
  have h45 : ¬ c.toNat = 45:=by omega
  have sat : Lib.atoiSat (c :: r) = 9223372036854775807:=by
   unfold Lib.atoiSat
   rw [if_neg (by simp;omega)]
  refine ⟨fun h=>?_,fun h=>⟨?_,sat⟩⟩
  ·have p1:=p1 (by show decVal (c :: r) < _;omega)
   have h : decFrom 0 (c :: r) ≤ 9223372036854775807:=h
   rw [Lib.atoiAll_plain c r (by omega) (by omega),hpm,p1]
   simp only [Lib.signless]
   rw [if_neg (by omega)];rfl
  ·by_cases h2 : 18446744073709551616 ≤ decVal (c :: r)
   ·have p2:=p2 h2
    rw [Lib.atoiAll_plain c r (by omega) (by omega),hpm,p2];rfl
   ·have p1:=p1 (by show decVal (c :: r) < _;omega)
    have h : 9223372036854775807 < decFrom 0 (c :: r):=h
    rw [Lib.atoiAll_plain c r (by omega) (by omega),hpm,p1]
    simp only [Lib.signless]
    rw [if_pos (by omega)]
theorem strconv_Atoi_ok (n : Nat) : FnOK Tryz.prog ⟨130,[.one .str],[.one (.int .i64),.one .raw],fun x=>strconv_Atoi n x⟩:=by
 intro x
 refine ⟨fun args w=>enter_ok (fn:=Tryz.f130) (by kernel_rfl) (by kernel_rfl) (by kernel_rfl) args w,?_⟩
 intro F h y h1 hx ι w vs' R hl
 obtain rfl:=LRel.flatArr hl rfl
 have hx : strconv_Atoi n x h = some (y,h1):=hx
 unfold strconv_Atoi at hx
 have two : ∀ {ι : IMap} {a b a' b' : Value},VRel Tryz.prog ι a a' → VRel Tryz.prog ι b b' → VRel Tryz.prog ι (.tuple #[a,b]) (.tuple #[a',b']):=fun ha hb=>.tuple _ _ rfl fun i v v' q1 q2=>by
  match i,q1,q2 with
  | 0,q1,q2=>cases q1;cases q2;exact ha
  | 1,q1,q2=>cases q1;cases q2;exact hb
 split at hx
 ·rename_i hc
  have hne : x.data.toList ≠ []:=fun e=>hc.1.1 (by have : x.data.toList.length = x.size:=rfl;rw [e] at this;exact this.symm)
  obtain ⟨a1,a2⟩:=atoi_digits hc.2 hne
  split at hx
  ·rename_i hv
   cases hx
   refine (Tryz.strconv_Atoi_ok x (by have:=hc.1.2;omega) _ (a1 hv) w).mono fun e w' hx=>?_
   obtain ⟨rfl,hw⟩:=hx
   refine ⟨_,ι,rfl,two (.flat _ rfl) (.flat _ rfl),?_,.refl _⟩
   rcases hw with rfl | ⟨t,rfl⟩
   ·exact R
   ·exact R.below (Lib.bytesWorld_below _ _ _)
  ·rename_i hv
   obtain ⟨b1,b2⟩:=a2 (by omega)
   have L:=R.lib w R.old
   obtain ⟨ev,e1,e2⟩:=L.erng
   simp only [M.bind,opq,M.pure,Option.some.injEq,Prod.mk.injEq] at hx
   obtain ⟨rfl,rfl⟩:=hx
   refine (Tryz.strconv_Atoi_range x hc.1.2 b1 ev w e1 e2).mono fun e w' hx=>?_
   obtain ⟨N,rfl,hN,hw,hb⟩:=hx
   obtain ⟨ι',q1,q2,q3⟩:=(R.below hb).opq hw
   refine ⟨_,ι',rfl,?_,q3,q1⟩
   rw [b2]
   refine two (.flat _ rfl) (.iface _ _ _ (.ptr _ _ ⟨rfl,rfl,_,q2,rfl,rfl⟩))
 ·simp [M.fail] at hx
end Go.Sh
