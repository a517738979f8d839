/-
The library's functions, and codepoint.Check, by their contracts. No theorem about the program's other functions stands here.
-/
import Derived.Test.YtnkemhepkppkoaaGreatDoorShT
import Derived.Test.YtnkemhepkppkoaaGreatDoorAgoL
import Derived.Test.YtnkemhepkppkoaaGreatDoorChk
import Derived.Lib.AppendIntMem
set_option linter.all false
namespace Go.Sh
open Go Go.Ago Go.Proofs Go.RowKit
def strings_IndexByte (_ : Nat) (s : ByteArray) (c : Int) : M Int := M.pure (Lib.indexByte s.data.toList c.toNat.toUInt8)
def codepoint_Check (_ : Nat) (s : ByteArray) : M (Int × Int) := M.pure (ckPos (ckAt s (s.size + 1) 0), ckErr (ckAt s (s.size + 1) 0))
def strconv_Itoa (_ : Nat) (n : Int) : M ByteArray := if -9223372036854775808 ≤ n ∧ n ≤ 9223372036854775807 then M.pure ⟨(Lib.itoa n).toArray⟩ else M.fail
def strings_Repeat (_ : Nat) (s : ByteArray) (c : Int) : M ByteArray := if 0 ≤ c ∧ c ≤ 1048576 ∧ s.size ≤ 65536 then M.pure ⟨(Lib.repeatL s.data.toList c.toNat).toArray⟩ else M.fail
def i_abi_NoEscape (_ : Nat) (p : Option Addr) : M (Option Addr) := M.pure p
def strings_HasPrefix (_ : Nat) (s p : ByteArray) : M Bool := M.pure (Lib.hasPrefix s.data.toList p.data.toList)
def strings_Contains (_ : Nat) (s t : ByteArray) : M Bool := match t.data.toList with
  | [c] => M.pure (decide (0 ≤ Lib.indexByte s.data.toList c))
  | _ => M.fail
def asciiL (l : List UInt8) : Bool := l.all fun b => Nat.blt b.toNat 128
def anyOK (s t : ByteArray) : Bool := Nat.blt s.size 4294967281 && Nat.blt t.size 4294967281 && asciiL s.data.toList && asciiL t.data.toList
def strings_ContainsAny (_ : Nat) (s t : ByteArray) : M Bool := match anyOK s t with
  | true => M.pure (Lib.containsAny s.data.toList t.data.toList)
  | false => M.fail
theorem two {P : Program} {ι : IMap} {a b a' b' : Value} (ha : VRel P ι a a') (hb : VRel P ι b b') : VRel P ι (.tuple #[a, b]) (.tuple #[a', b']) := .tuple _ _ rfl fun i v v' q1 q2 => by
  match i, q1, q2 with
  | 0, q1, q2 => cases q1; cases q2; exact ha
  | 1, q1, q2 => cases q1; cases q2; exact hb
theorem str1 {t : ByteArray} {c : UInt8} (h : t.data.toList = [c]) : t = ⟨#[c]⟩ := by
  obtain ⟨⟨l⟩⟩ := t
  have h : l = [c] := h
  rw [h]
variable {h h1 : AHeap} {n : Nat}
variable {h h1 : AHeap} {n : Nat}
theorem tab_of {w : World} (L : LibFact w) : Lib.TabIs Tryz.prog w "internal/strconv.uint64pow10" .u64 Lib.pow10Tab := by
  obtain ⟨t, fz, hp⟩ := L.pow
  show World.var? Tryz.prog w "internal/strconv.uint64pow10" = _
  unfold World.var?
  rw [show Tryz.prog.globalNamed "internal/strconv.uint64pow10" = some 3 by kernel_rfl]
  simp only [Option.bind_some, hp]
theorem rep_spec {s : ByteArray} {c : Int} {y : ByteArray} (hx : strings_Repeat n s c h = some (y, h1)) : ∃ m : Nat, c = m ∧ m ≤ 1048576 ∧ s.size * m ≤ 140737488355328 ∧ y = ⟨(Lib.repeatL s.data.toList m).toArray⟩ ∧ h1 = h := by
  unfold strings_Repeat at hx
  split at hx
  · rename_i hc
    cases hx
    obtain ⟨m, rfl⟩ : ∃ m : Nat, c = m := ⟨c.toNat, by omega⟩
    have hm : s.size * m ≤ 65536 * 1048576 := Nat.mul_le_mul hc.2.2 (by omega)
    exact ⟨m, rfl, by omega, by omega, rfl, rfl⟩
  · simp [M.fail] at hx
theorem strings_IndexByte_ok (n : Nat) : FnOK Tryz.prog ⟨60, [.one .str, .one (.int .u8)], [.one (.int .i64)], fun x => strings_IndexByte n x.1 x.2⟩ := by
  intro x
  refine CallOK.of (fun args w => enter_ok (fn := Tryz.f60) (by kernel_rfl) (by kernel_rfl) (by kernel_rfl) args w) ?_
  intro F h y h1 hx ι w vs' R hl
  cases hx
  obtain rfl := LRel.flatArr hl rfl
  exact call_pure R (.flat _ rfl) ((Tryz.strings_IndexByte x.1 x.2 w).mono fun e w' hx => ⟨hx.1, by rw [hx.2]; exact Below.refl _ _⟩)
theorem codepoint_Check_ok (n : Nat) : FnOK Tryz.prog ⟨24, [.one .str], [.one (.int .i64), .one (.int .i64)], fun x => codepoint_Check n x⟩ := by
  intro x
  refine CallOK.of (fun args w => enter_ok (fn := Tryz.f24) (by kernel_rfl) (by kernel_rfl) (by kernel_rfl) args w) ?_
  intro F h y h1 hx ι w vs' R hl
  cases hx
  obtain rfl := LRel.flatArr hl rfl
  have L := R.lib w R.old
  exact call_pure R (two (.flat _ rfl) (.flat _ rfl)) (check_calls x w ⟨L.first, L.accept⟩)
theorem strconv_Itoa_ok (n : Nat) : FnOK Tryz.prog ⟨202, [.one (.int .i64)], [.one .str], fun x => strconv_Itoa n x⟩ := by
  intro x
  refine CallOK.of (fun args w => enter_ok (fn := Tryz.f202) (by kernel_rfl) (by kernel_rfl) (by kernel_rfl) args w) ?_
  intro F h y h1 hx ι w vs' R hl
  obtain rfl := LRel.flatArr hl rfl
  have hx : strconv_Itoa n x h = some (y, h1) := hx
  unfold strconv_Itoa at hx
  split at hx
  · rename_i hc
    cases hx
    have htab := tab_of (R.lib w R.old)
    exact call_pure R (.flat _ rfl) ((Tryz.strconv_Itoa x hc.1 hc.2 w htab).mono fun e w' hx => ⟨hx.1, by
      obtain ⟨_, k, os, rfl⟩ := hx
      exact Lib.below_grow _ _ (Nat.le_refl _) _ _⟩)
  · simp [M.fail] at hx
theorem strings_Repeat_ok (n : Nat) : FnOK Tryz.prog ⟨8, [.one .str, .one (.int .i64)], [.one .str], fun x => strings_Repeat n x.1 x.2⟩ := by
  intro x
  refine CallOK.of (fun args w => enter_ok (fn := Tryz.f8) (by kernel_rfl) (by kernel_rfl) (by kernel_rfl) args w) ?_
  intro F h y h1 hx ι w vs' R hl
  obtain rfl := LRel.flatArr hl rfl
  obtain ⟨m, hm, h2, h3, rfl, rfl⟩ := rep_spec (n := n) hx
  have e : x = (x.1, (m : Int)) := by rw [← hm]
  rw [e]
  exact call_pure R (.flat _ rfl) ((Tryz.strings_Repeat x.1 m w (by omega) h3).mono fun e w' hx => ⟨hx.1, hx.2⟩)
theorem esc_run (p : Option Addr) (w : World) : (callFunc 96 #[.pointer p]).run Tryz.prog w = .ok (.value (.pointer p)) w := by kernel_rfl
theorem i_abi_NoEscape_ok (n : Nat) : FnOK Tryz.prog ⟨96, [.one .ptr], [.one .ptr], fun x => i_abi_NoEscape n x⟩ := by
  intro x
  refine ⟨.inr ?_, fun he => ?_⟩
  · intro F h y h1 hx ι w vs' R hl
    cases hx
    obtain ⟨v', e1, e2⟩ := hl.one
    have hvs : vs' = #[v'] := Array.ext' (by simpa using e1)
    subst hvs
    obtain ⟨p', rfl, hp⟩ := VRel.ptrO (p := x) e2
    exact ⟨.pointer p', w, ι, esc_run p' w, e2, R, .refl _⟩
  · intro F h y h1 hx ι w vs' R hl
    have := (he #[.pointer none] w).symm.trans (esc_run none w)
    cases this
theorem strings_HasPrefix_ok (n : Nat) : FnOK Tryz.prog ⟨19, [.one .str, .one .str], [.one .bool], fun x => strings_HasPrefix n x.1 x.2⟩ := by
  intro x
  refine CallOK.of (fun args w => enter_ok (fn := Tryz.f19) (by kernel_rfl) (by kernel_rfl) (by kernel_rfl) args w) ?_
  intro F h y h1 hx ι w vs' R hl
  cases hx
  obtain rfl := LRel.flatArr hl rfl
  exact call_pure R (.flat _ rfl) ((Tryz.strings_HasPrefix x.1 x.2 w).mono fun e w' hx => ⟨hx.1, by rw [hx.2]; exact Below.refl _ _⟩)
theorem con_spec {s t : ByteArray} {y : Bool} (hx : strings_Contains n s t h = some (y, h1)) : ∃ c : UInt8, t = ⟨#[c]⟩ ∧ y = decide (0 ≤ Lib.indexByte s.data.toList c) ∧ h1 = h := by
  unfold strings_Contains at hx
  cases e : t.data.toList with
  | nil => rw [e] at hx; cases hx
  | cons c r =>
    cases r with
    | cons d r => rw [e] at hx; cases hx
    | nil => rw [e] at hx; cases hx; exact ⟨c, str1 e, rfl, rfl⟩
theorem strings_Contains_ok (n : Nat) : FnOK Tryz.prog ⟨162, [.one .str, .one .str], [.one .bool], fun x => strings_Contains n x.1 x.2⟩ := by
  intro x
  refine CallOK.of (fun args w => enter_ok (fn := Tryz.f162) (by kernel_rfl) (by kernel_rfl) (by kernel_rfl) args w) ?_
  intro F h y h1 hx ι w vs' R hl
  obtain rfl := LRel.flatArr hl rfl
  obtain ⟨c, hm, rfl, rfl⟩ := con_spec (n := n) hx
  have e : x = (x.1, (⟨#[c]⟩ : ByteArray)) := by rw [← hm]
  rw [e]
  exact call_pure R (.flat _ rfl) ((Tryz.strings_Contains_one x.1 c w).mono fun e w' hx => ⟨hx.1, by rw [hx.2]; exact Below.refl _ _⟩)
theorem ascii_at {l : List UInt8} (hl : asciiL l = true) (j : Nat) (b : UInt8) (hb : l[j]? = some b) : b.toNat < 128 := by
  have := List.all_eq_true.1 hl b (List.mem_of_getElem? hb)
  have := Nat.le_of_ble_eq_true this
  omega
theorem any_spec {s t : ByteArray} {y : Bool} (hx : strings_ContainsAny n s t h = some (y, h1)) : s.size < 4294967281 ∧ t.size < 4294967281 ∧ asciiL s.data.toList = true ∧ asciiL t.data.toList = true ∧ y = Lib.containsAny s.data.toList t.data.toList ∧ h1 = h := by
  unfold strings_ContainsAny at hx
  cases hc : anyOK s t with
  | false => rw [hc] at hx; cases hx
  | true =>
    rw [hc] at hx
    unfold anyOK at hc
    simp only [Bool.and_eq_true] at hc
    obtain ⟨⟨⟨c1, c2⟩, c3⟩, c4⟩ := hc
    cases hx
    exact ⟨Nat.le_of_ble_eq_true c1, Nat.le_of_ble_eq_true c2, c3, c4, rfl, rfl⟩
theorem strings_ContainsAny_ok (n : Nat) : FnOK Tryz.prog ⟨158, [.one .str, .one .str], [.one .bool], fun x => strings_ContainsAny n x.1 x.2⟩ := by
  intro x
  refine CallOK.of (fun args w => enter_ok (fn := Tryz.f158) (by kernel_rfl) (by kernel_rfl) (by kernel_rfl) args w) ?_
  intro F h y h1 hx ι w vs' R hl
  obtain rfl := LRel.flatArr hl rfl
  obtain ⟨c1, c2, c3, c4, rfl, rfl⟩ := any_spec (n := n) hx
  exact call_pure R (.flat _ rfl) ((Tryz.strings_ContainsAny_laid x.1 x.2 w c1 c2 (ascii_at c3) (ascii_at c4)).mono fun e w' hx => ⟨hx.1, hx.2⟩)
end Go.Sh
