/-
The shallow functions of this seat, part 0, and that each is sound; written by program. No theorem about what they compute stands here.
-/
import Derived.Test.YtnkemhepkppkoaaGreatDoorShLib
set_option maxRecDepth 100000
set_option maxHeartbeats 0
set_option linter.all false
namespace Go.Sh
open Go Go.Ago Go.Proofs
abbrev C0 (n : Nat) : List Ent := [⟨96, [.one (.ptr)], [.one (.ptr)], fun x => i_abi_NoEscape n (x)⟩, ⟨162, [.one (.str), .one (.str)], [.one (.bool)], fun x => strings_Contains n (x.1) (x.2)⟩, ⟨8, [.one (.str), .one (.int .i64)], [.one (.str)], fun x => strings_Repeat n (x.1) (x.2)⟩, ⟨202, [.one (.int .i64)], [.one (.str)], fun x => strconv_Itoa n (x)⟩, ⟨19, [.one (.str), .one (.str)], [.one (.bool)], fun x => strings_HasPrefix n (x.1) (x.2)⟩, ⟨24, [.one (.str)], [.one (.int .i64), .one (.int .i64)], fun x => codepoint_Check n (x)⟩, ⟨60, [.one (.str), .one (.int .u8)], [.one (.int .i64)], fun x => strings_IndexByte n (x.1) (x.2)⟩, ⟨158, [.one (.str), .one (.str)], [.one (.bool)], fun x => strings_ContainsAny n (x.1) (x.2)⟩]
theorem K0 (n : Nat) : AllOK Tryz.prog (C0 n) := .cons (i_abi_NoEscape_ok n) (.cons (strings_Contains_ok n) (.cons (strings_Repeat_ok n) (.cons (strconv_Itoa_ok n) (.cons (strings_HasPrefix_ok n) (.cons (codepoint_Check_ok n) (.cons (strings_IndexByte_ok n) (.cons (strings_ContainsAny_ok n) .nil)))))))
def tomllex_blank (n : Nat) (a0 : Int) : M (Bool) :=
  if decide (a0 = 32) then
    M.pure true
  else
    M.pure (decide (a0 = 9))
abbrev q26_E (n : Nat) : Ent := ⟨26, [.one (.int .u8)], [tyB], fun x => tomllex_blank n x⟩
theorem tomllex_blank_ok (n : Nat) : FnOK Tryz.prog (q26_E n) := fn_c Tryz.f26 (C0 n) (hT := .m1 (K0 n))
abbrev C1 (n : Nat) : List Ent := q26_E n :: C0 n
theorem K1 (n : Nat) : AllOK Tryz.prog (C1 n) := .cons (tomllex_blank_ok n) (K0 n)
def tomllex_bare (n : Nat) (a0 : Int) : M (Bool) :=
  if decide (97 ≤ a0) then
    if decide (a0 ≤ 122) then
      M.pure true
    else
      if decide (65 ≤ a0) then
        if decide (a0 ≤ 90) then
          M.pure true
        else
          if decide (48 ≤ a0) then
            if decide (a0 ≤ 57) then
              M.pure true
            else
              if decide (a0 = 95) then
                M.pure true
              else
                if decide (a0 = 45) then
                  M.pure true
                else
                  if decide (a0 = 43) then
                    M.pure true
                  else
                    M.pure (decide (a0 = 58))
          else
            if decide (a0 = 95) then
              M.pure true
            else
              if decide (a0 = 45) then
                M.pure true
              else
                if decide (a0 = 43) then
                  M.pure true
                else
                  M.pure (decide (a0 = 58))
      else
        if decide (48 ≤ a0) then
          if decide (a0 ≤ 57) then
            M.pure true
          else
            if decide (a0 = 95) then
              M.pure true
            else
              if decide (a0 = 45) then
                M.pure true
              else
                if decide (a0 = 43) then
                  M.pure true
                else
                  M.pure (decide (a0 = 58))
        else
          if decide (a0 = 95) then
            M.pure true
          else
            if decide (a0 = 45) then
              M.pure true
            else
              if decide (a0 = 43) then
                M.pure true
              else
                M.pure (decide (a0 = 58))
  else
    if decide (65 ≤ a0) then
      if decide (a0 ≤ 90) then
        M.pure true
      else
        if decide (48 ≤ a0) then
          if decide (a0 ≤ 57) then
            M.pure true
          else
            if decide (a0 = 95) then
              M.pure true
            else
              if decide (a0 = 45) then
                M.pure true
              else
                if decide (a0 = 43) then
                  M.pure true
                else
                  M.pure (decide (a0 = 58))
        else
          if decide (a0 = 95) then
            M.pure true
          else
            if decide (a0 = 45) then
              M.pure true
            else
              if decide (a0 = 43) then
                M.pure true
              else
                M.pure (decide (a0 = 58))
    else
      if decide (48 ≤ a0) then
        if decide (a0 ≤ 57) then
          M.pure true
        else
          if decide (a0 = 95) then
            M.pure true
          else
            if decide (a0 = 45) then
              M.pure true
            else
              if decide (a0 = 43) then
                M.pure true
              else
                M.pure (decide (a0 = 58))
      else
        if decide (a0 = 95) then
          M.pure true
        else
          if decide (a0 = 45) then
            M.pure true
          else
            if decide (a0 = 43) then
              M.pure true
            else
              M.pure (decide (a0 = 58))
abbrev q61_E (n : Nat) : Ent := ⟨61, [.one (.int .u8)], [tyB], fun x => tomllex_bare n x⟩
theorem tomllex_bare_ok (n : Nat) : FnOK Tryz.prog (q61_E n) := fn_c Tryz.f61 (C1 n) (hT := .m1 (K1 n))
abbrev C2 (n : Nat) : List Ent := q61_E n :: C1 n
theorem K2 (n : Nat) : AllOK Tryz.prog (C2 n) := .cons (tomllex_bare_ok n) (K1 n)
def tomllex_run_D11 (n : Nat) (x : Value) (a0 : Int) : M (Bool) :=
  if isFn F_tomllex_blank x then
    M.bind (asFn [] x) fun (_ : Unit) => tomllex_blank n a0
  else if isFn F_tomllex_bare x then
    M.bind (asFn [] x) fun (_ : Unit) => tomllex_bare n a0
  else M.fail
def tomllex_run_L0_B (G : ByteArray → Value → Int → M (Int)) (n : Nat) (a0 : ByteArray) (a1 : Value) (a2 : Int) : M (Int) :=
  if decide (a2 < (↑a0.size : Int)) then
    M.bind (idxS a0 a2) fun x0 =>
    M.bind (tomllex_run_D11 n a1 (↑x0.toNat : Int)) fun x1 =>
    if x1 then
      G a0 a1 (IntKind.i64.wrap (a2 + 1))
    else
      M.pure a2
  else
    M.pure a2
def tomllex_run_L0 : Nat → ByteArray → Value → Int → M (Int)
  | 0 => fun _ _ _ => M.fail
  | n + 1 => tomllex_run_L0_B (tomllex_run_L0 n) n
theorem tomllex_run_L0_succ (n : Nat) : tomllex_run_L0 (n + 1) = tomllex_run_L0_B (tomllex_run_L0 n) n := rfl
def tomllex_run (n : Nat) (a0 : ByteArray) (a1 : Value) : M (Int) :=
  M.bind (tomllex_run_L0 n a0 a1 0) fun x0 =>
  M.pure x0
abbrev q25_E (n : Nat) : Ent := ⟨25, [tyS, tyR], [tyI], fun x => tomllex_run n (x.1) (x.2)⟩
abbrev q25_L0 : L1 := ⟨[0, 0, 1, 1], [(0, tyS), (1, tyR), (5, tyI)], [(5, tyI)], List.range' 5 14, 0, fun n x => tomllex_run_L0 n (x.1) (x.2.1) (x.2.2)⟩
abbrev q25_dt (n : Nat) : List DEnt := [⟨11, [.one (.int .u8)], [tyB], fun x a => tomllex_run_D11 n x (a)⟩]
theorem q25_dk (n : Nat) : AllD Tryz.prog (q25_dt n) := .cons (dent_ok (l := [⟨26, [], fun a _ => tomllex_blank n (a)⟩, ⟨61, [], fun a _ => tomllex_bare n (a)⟩]) (.cons (fun a c => callOK_cast (by kernel_rfl) ((tomllex_blank_ok n) (a))) (.cons (fun a c => callOK_cast (by kernel_rfl) ((tomllex_bare_ok n) (a))) .nil)) (fun x a => by kernel_rfl)) .nil
theorem q25_L0_ok (n : Nat) : LOK Tryz.prog Tryz.f25 (q25_L0.e n) q25_L0.ws := L1.ok Tryz.f25 q25_L0 n C2 (dt := q25_dt) (hT := fun m _ => ⟨.nil, K2 m, (q25_dk m), .nil, .nil⟩)
theorem tomllex_run_ok (n : Nat) : FnOK Tryz.prog (q25_E n) := fn_c Tryz.f25 (C2 n) (dl := q25_dt n) (ll := [q25_L0.e n]) (hT := ⟨.nil, K2 n, (q25_dk n), (.cc (q25_L0_ok n) .nil), .nil⟩)
abbrev C3 (n : Nat) : List Ent := q25_E n :: C2 n
theorem K3 (n : Nat) : AllOK Tryz.prog (C3 n) := .cons (tomllex_run_ok n) (K2 n)
def tomllex_lineEnd (n : Nat) (a0 : ByteArray) : M (Int) :=
  M.bind (strings_HasPrefix n a0 (ofBytes [10])) fun x0 =>
  if x0 then
    M.pure 1
  else
    M.bind (strings_HasPrefix n a0 (ofBytes [13, 10])) fun x1 =>
    if x1 then
      M.pure 2
    else
      M.pure 0
abbrev q27_E (n : Nat) : Ent := ⟨27, [tyS], [tyI], fun x => tomllex_lineEnd n x⟩
theorem tomllex_lineEnd_ok (n : Nat) : FnOK Tryz.prog (q27_E n) := fn_c Tryz.f27 (C3 n) (hT := .m1 (K3 n))
abbrev C4 (n : Nat) : List Ent := q27_E n :: C3 n
theorem K4 (n : Nat) : AllOK Tryz.prog (C4 n) := .cons (tomllex_lineEnd_ok n) (K3 n)
def tomllex_control (n : Nat) (a0 : Int) : M (Bool) :=
  if decide (a0 < 32) then
    if !decide (a0 = 9) then
      M.pure true
    else
      M.pure (decide (a0 = 127))
  else
    M.pure (decide (a0 = 127))
abbrev q28_E (n : Nat) : Ent := ⟨28, [.one (.int .u8)], [tyB], fun x => tomllex_control n x⟩
theorem tomllex_control_ok (n : Nat) : FnOK Tryz.prog (q28_E n) := fn_c Tryz.f28 (C4 n) (hT := .m1 (K4 n))
abbrev C5 (n : Nat) : List Ent := q28_E n :: C4 n
theorem K5 (n : Nat) : AllOK Tryz.prog (C5 n) := .cons (tomllex_control_ok n) (K4 n)
def strings_Builder_copyCheck (n : Nat) (a0 : Option Addr) : M (Unit) :=
  M.bind (nn a0) fun x0 =>
  M.bind (ldL .ptr (x0.plus 0)) fun (x1 : Option Addr) =>
  if Option.isNone x1 then
    M.bind (nn a0) fun x2 =>
    M.bind (inB x2) fun x3 =>
    M.bind (i_abi_NoEscape n (some x3)) fun x4 =>
    M.bind (nn x4) fun x5 =>
    M.bind (atB T_strings_Builder 2 x5) fun x6 =>
    M.bind (nn a0) fun x7 =>
    M.bind (stN (x7.plus 0) [Value.pointer (some x6)]) fun x8 =>
    M.pure ()
  else
    M.bind (nn a0) fun x2 =>
    M.bind (ldL .ptr (x2.plus 0)) fun (x3 : Option Addr) =>
    M.bind (eqP x3 a0) fun x4 =>
    if !x4 then
      M.fail
    else
      M.pure ()
abbrev q57_E (n : Nat) : Ent := ⟨57, [tyP], [], fun x => strings_Builder_copyCheck n x⟩
theorem strings_Builder_copyCheck_ok (n : Nat) : FnOK Tryz.prog (q57_E n) := fn_c Tryz.f57 (C5 n) (hT := .m1 (K5 n))
abbrev C6 (n : Nat) : List Ent := q57_E n :: C5 n
theorem K6 (n : Nat) : AllOK Tryz.prog (C6 n) := .cons (strings_Builder_copyCheck_ok n) (K5 n)
def strings_Builder_WriteString (n : Nat) (a0 : Option Addr) (a1 : ByteArray) : M (Int × Value) :=
  M.bind (strings_Builder_copyCheck n a0) fun x0 =>
  M.bind (nn a0) fun x1 =>
  M.bind (ldL .sl (x1.plus 1)) fun (x2 : Sl) =>
  M.bind (app false x2 1 T_u8 a1.size (cellsOfBytes a1)) fun x3 =>
  M.bind (nn a0) fun x4 =>
  M.bind (stN (x4.plus 1) [vsl x3]) fun x5 =>
  M.pure ((↑a1.size : Int), Value.nilIface)
abbrev q21_E (n : Nat) : Ent := ⟨21, [tyP, tyS], [tyI, tyR], fun x => strings_Builder_WriteString n (x.1) (x.2)⟩
theorem strings_Builder_WriteString_ok (n : Nat) : FnOK Tryz.prog (q21_E n) := fn_c Tryz.f21 (C6 n) (hT := .m1 (K6 n))
abbrev C7 (n : Nat) : List Ent := q21_E n :: C6 n
theorem K7 (n : Nat) : AllOK Tryz.prog (C7 n) := .cons (strings_Builder_WriteString_ok n) (K6 n)
def strings_Builder_String (n : Nat) (a0 : Option Addr) : M (ByteArray) :=
  M.bind (nn a0) fun x0 =>
  M.bind (nn a0) fun x1 =>
  M.bind (ldL .sl (x0.plus 1)) fun (x2 : Sl) =>
  M.bind (sData x2.a x2.len) fun x3 =>
  M.bind (ldL .sl (x1.plus 1)) fun (x4 : Sl) =>
  M.bind (uStr T_u8 x3 (↑x4.len : Int)) fun x5 =>
  M.pure x5
abbrev q23_E (n : Nat) : Ent := ⟨23, [tyP], [tyS], fun x => strings_Builder_String n x⟩
def q23_dr (i : Nat) : Option (List (Nat × List Nat)) := cond (Nat.beq i 1) (some [(0, []), (1, []), (2, []), (5, []), (6, []), (7, []), (3, []), (4, []), (8, []), (9, []), (10, []), (11, [])]) (none)
theorem strings_Builder_String_ok (n : Nat) : FnOK Tryz.prog (q23_E n) := fn_c Tryz.f23 (C7 n) (dr := q23_dr) (hT := .m1 (K7 n))
abbrev C8 (n : Nat) : List Ent := q23_E n :: C7 n
theorem K8 (n : Nat) : AllOK Tryz.prog (C8 n) := .cons (strings_Builder_String_ok n) (K7 n)
def strings_Builder_WriteByte (n : Nat) (a0 : Option Addr) (a1 : Int) : M (Value) :=
  M.bind (strings_Builder_copyCheck n a0) fun x0 =>
  M.bind (nn a0) fun x1 =>
  M.bind (ldL .sl (x1.plus 1)) fun (x2 : Sl) =>
  M.bind (app false x2 1 T_u8 1 [Value.int IntKind.u8 a1]) fun x3 =>
  M.bind (nn a0) fun x4 =>
  M.bind (stN (x4.plus 1) [vsl x3]) fun x5 =>
  M.pure Value.nilIface
abbrev q100_E (n : Nat) : Ent := ⟨100, [tyP, .one (.int .u8)], [tyR], fun x => strings_Builder_WriteByte n (x.1) (x.2)⟩
theorem strings_Builder_WriteByte_ok (n : Nat) : FnOK Tryz.prog (q100_E n) := fn_c Tryz.f100 (C8 n) (hT := .m1 (K8 n))
abbrev C9 (n : Nat) : List Ent := q100_E n :: C8 n
theorem K9 (n : Nat) : AllOK Tryz.prog (C9 n) := .cons (strings_Builder_WriteByte_ok n) (K8 n)
def tomllex_content_L1_B (G : ByteArray → ByteArray → Bool → Int → Addr → Int → M (Int)) (n : Nat) (a0 : ByteArray) (a1 : ByteArray) (a2 : Bool) (a3 : Int) (a4 : Addr) (a5 : Int) : M (Int) :=
  if decide (a5 < 2) then
    if a2 then
      M.bind (sliceS a0 (IntKind.i64.wrap (a3 + 1)) (↑a0.size : Int)) fun x0 =>
      M.bind (strings_HasPrefix n x0 a1) fun x1 =>
      if x1 then
        M.bind (idxS a1 0) fun x2 =>
        M.bind (strings_Builder_WriteByte n (some a4) (↑x2.toNat : Int)) fun x3 =>
        G a0 a1 a2 (IntKind.i64.wrap (a3 + 1)) a4 (IntKind.i64.wrap (a5 + 1))
      else
        G a0 a1 a2 a3 a4 (IntKind.i64.wrap (a5 + 1))
    else
      G a0 a1 a2 a3 a4 (IntKind.i64.wrap (a5 + 1))
  else
    M.pure a3
def tomllex_content_L1 : Nat → ByteArray → ByteArray → Bool → Int → Addr → Int → M (Int)
  | 0 => fun _ _ _ _ _ _ => M.fail
  | n + 1 => tomllex_content_L1_B (tomllex_content_L1 n) n
theorem tomllex_content_L1_succ (n : Nat) : tomllex_content_L1 (n + 1) = tomllex_content_L1_B (tomllex_content_L1 n) n := rfl
def tomllex_content_L0_J2_B (G : ByteArray → ByteArray → Bool → Int → Addr → M ((Int) ⊕ (ByteArray × Int × Int))) (n : Nat) (a0 : ByteArray) (a1 : ByteArray) (a2 : Bool) (a3 : Int) (a4 : Addr) : M ((Int) ⊕ (ByteArray × Int × Int)) :=
  M.bind (sliceS a0 a3 (↑a0.size : Int)) fun x0 =>
  M.fail
def tomllex_content_L0_J1_B (G : ByteArray → ByteArray → Bool → Int → Addr → M ((Int) ⊕ (ByteArray × Int × Int))) (n : Nat) (a0 : ByteArray) (a1 : ByteArray) (a2 : Bool) (a3 : Int) (a4 : Addr) : M ((Int) ⊕ (ByteArray × Int × Int)) :=
  if a2 then
    M.bind (sliceS a0 a3 (↑a0.size : Int)) fun x0 =>
    M.fail
  else
    tomllex_content_L0_J2_B G n a0 a1 a2 a3 a4
def tomllex_content_L0_J0_B (G : ByteArray → ByteArray → Bool → Int → Addr → M ((Int) ⊕ (ByteArray × Int × Int))) (n : Nat) (a0 : ByteArray) (a1 : ByteArray) (a2 : Bool) (a3 : Int) (a4 : Addr) (a5 : Int) : M ((Int) ⊕ (ByteArray × Int × Int)) :=
  M.bind (tomllex_control n a5) fun x0 =>
  if x0 then
    M.pure (Sum.inr ((ofBytes []), 0, a3))
  else
    if decide (a5 = 92) then
      M.bind (idxS a1 0) fun x1 =>
      if decide ((↑x1.toNat : Int) = 34) then
        tomllex_content_L0_J1_B G n a0 a1 a2 a3 a4
      else
        M.bind (strings_Builder_WriteByte n (some a4) a5) fun x2 =>
        G a0 a1 a2 (IntKind.i64.wrap (a3 + 1)) a4
    else
      M.bind (strings_Builder_WriteByte n (some a4) a5) fun x1 =>
      G a0 a1 a2 (IntKind.i64.wrap (a3 + 1)) a4
def tomllex_content_L0_B (G : ByteArray → ByteArray → Bool → Int → Addr → M ((Int) ⊕ (ByteArray × Int × Int))) (n : Nat) (a0 : ByteArray) (a1 : ByteArray) (a2 : Bool) (a3 : Int) (a4 : Addr) : M ((Int) ⊕ (ByteArray × Int × Int)) :=
  if decide (a3 < (↑a0.size : Int)) then
    M.bind (idxS a0 a3) fun x0 =>
    M.bind (sliceS a0 a3 (↑a0.size : Int)) fun x1 =>
    M.bind (strings_HasPrefix n x1 a1) fun x2 =>
    if x2 then
      M.pure (Sum.inl a3)
    else
      if a2 then
        M.bind (sliceS a0 a3 (↑a0.size : Int)) fun x3 =>
        M.bind (tomllex_lineEnd n x3) fun x4 =>
        if decide (0 < x4) then
          M.bind (strings_Builder_WriteByte n (some a4) 10) fun x5 =>
          M.bind (sliceS a0 a3 (↑a0.size : Int)) fun x6 =>
          M.bind (tomllex_lineEnd n x6) fun x7 =>
          G a0 a1 a2 (IntKind.i64.wrap (a3 + x7)) a4
        else
          tomllex_content_L0_J0_B G n a0 a1 a2 a3 a4 (↑x0.toNat : Int)
      else
        tomllex_content_L0_J0_B G n a0 a1 a2 a3 a4 (↑x0.toNat : Int)
  else
    M.pure (Sum.inl a3)
def tomllex_content_L0 : Nat → ByteArray → ByteArray → Bool → Int → Addr → M ((Int) ⊕ (ByteArray × Int × Int))
  | 0 => fun _ _ _ _ _ => M.fail
  | n + 1 => tomllex_content_L0_B (tomllex_content_L0 n) n
theorem tomllex_content_L0_succ (n : Nat) : tomllex_content_L0 (n + 1) = tomllex_content_L0_B (tomllex_content_L0 n) n := rfl
def tomllex_content_L0_J0 (n : Nat) := tomllex_content_L0_J0_B (tomllex_content_L0 n) n
def tomllex_content_L0_J1 (n : Nat) := tomllex_content_L0_J1_B (tomllex_content_L0 n) n
def tomllex_content_L0_J2 (n : Nat) := tomllex_content_L0_J2_B (tomllex_content_L0 n) n
def tomllex_content_J0 (n : Nat) (a0 : ByteArray) (a1 : ByteArray) (a2 : Bool) (a3 : Int) : M (ByteArray × Int × Int) :=
  M.bind (newB none T_strings_Builder [Value.pointer none, vsl0]) fun x0 =>
  M.bind (tomllex_content_L0 n a0 a1 a2 a3 (adr x0)) (sumElim (fun x1 =>
    if decide ((↑a0.size : Int) ≤ x1) then
      M.pure ((ofBytes []), 0, 0)
    else
      M.bind (tomllex_content_L1 n a0 a1 a2 x1 (adr x0) 0) fun x2 =>
      M.bind (strings_Builder_String n (some (adr x0))) fun x3 =>
      M.pure (x3, IntKind.i64.wrap (x2 + (↑a1.size : Int)), -1))
  (fun x1 =>
    M.pure (x1.1, x1.2.1, x1.2.2)))
def tomllex_content (n : Nat) (a0 : ByteArray) (a1 : ByteArray) : M (ByteArray × Int × Int) :=
  if decide ((↑a1.size : Int) = 3) then
    M.bind (sliceS a0 (↑a1.size : Int) (↑a0.size : Int)) fun x0 =>
    M.bind (tomllex_lineEnd n x0) fun x1 =>
    tomllex_content_J0 n a0 a1 (decide ((↑a1.size : Int) = 3)) (IntKind.i64.wrap ((↑a1.size : Int) + x1))
  else
    tomllex_content_J0 n a0 a1 (decide ((↑a1.size : Int) = 3)) (↑a1.size : Int)
abbrev q62_E (n : Nat) : Ent := ⟨62, [tyS, tyS], [tyS, tyI, tyI], fun x => tomllex_content n (x.1) (x.2)⟩
abbrev q62_L0 : L2 := ⟨[0, 0, 1, 1, 1, 1, 1, 0, 1], [(0, tyS), (1, tyS), (7, tyB), (8, tyI), (9, tyA)], [(8, tyI)], [(4, tyS), (5, tyI), (6, tyI)], [4, 5, 6, 8, 10, 11, 12, 13] ++ List.range' 26 70, 0, .ret, fun n x => tomllex_content_L0 n (x.1) (x.2.1) (x.2.2.1) (x.2.2.2.1) (x.2.2.2.2)⟩
abbrev q62_L1 : L1 := ⟨[0, 1, 0, 1, 1, 1, 1, 1, 1, 1, 0, 1], [(0, tyS), (1, tyS), (7, tyB), (8, tyI), (9, tyA), (100, tyI)], [(8, tyI)], [8] ++ List.range' 100 17, 3, fun n x => tomllex_content_L1 n (x.1) (x.2.1) (x.2.2.1) (x.2.2.2.1) (x.2.2.2.2.1) (x.2.2.2.2.2)⟩
abbrev q62_L0_jt (n : Nat) : List (JEnt ((Int) ⊕ (ByteArray × Int × Int))) := [⟨[0, 1, 1, 1, 1, 0, 1, 0, 1, 0, 0, 0, 1, 1, 1, 1, 1, 0, 1], [.code [1, 1, 1, 1, 1, 0, 1, 0, 1, 0, 0, 0, 1, 1, 1, 1, 1, 0, 1], .blk 2, .blk 1], [(0, tyS), (1, tyS), (7, tyB), (8, tyI), (9, tyA), (10, .one (.int .u8))], fun x => tomllex_content_L0_J0 n (x.1) (x.2.1) (x.2.2.1) (x.2.2.2.1) (x.2.2.2.2.1) (x.2.2.2.2.2)⟩,
  ⟨[0, 0, 0, 1, 1, 1, 1, 1, 1, 1, 0, 1, 0, 1, 0, 0, 0, 1, 1, 1, 1, 1, 0, 1], [.code [1, 0, 0, 1, 1, 1, 1, 1, 1, 1, 0, 1, 0, 1, 0, 0, 0, 1, 1, 1, 1, 1, 0, 1], .code [1, 0, 1, 1, 1, 1, 1, 1, 1, 0, 1, 0, 1, 0, 0, 0, 1, 1, 1, 1, 1, 0, 1], .blk 2, .blk 1], [(0, tyS), (1, tyS), (7, tyB), (8, tyI), (9, tyA)], fun x => tomllex_content_L0_J1 n (x.1) (x.2.1) (x.2.2.1) (x.2.2.2.1) (x.2.2.2.2)⟩,
  ⟨[0, 1, 0, 1, 1, 1, 1, 1, 1, 1, 0, 1, 0, 1, 0, 0, 0, 1, 1, 1, 1, 1, 0, 1], [.code [1, 1, 0, 1, 1, 1, 1, 1, 1, 1, 0, 1, 0, 1, 0, 0, 0, 1, 1, 1, 1, 1, 0, 1], .blk 2, .blk 1], [(0, tyS), (1, tyS), (7, tyB), (8, tyI), (9, tyA)], fun x => tomllex_content_L0_J2 n (x.1) (x.2.1) (x.2.2.1) (x.2.2.2.1) (x.2.2.2.2)⟩]
abbrev q62_jt (n : Nat) : List (JEnt (ByteArray × Int × Int)) := [⟨[0, 1, 1, 1, 0, 1], [.code [1, 1, 1, 1, 0, 1], .scp [0, 1]], [(0, tyS), (1, tyS), (7, tyB), (8, tyI)], fun x => tomllex_content_J0 n (x.1) (x.2.1) (x.2.2.1) (x.2.2.2)⟩]
theorem q62_L1_ok (n : Nat) : LOK Tryz.prog Tryz.f62 (q62_L1.e n) q62_L1.ws := L1.ok Tryz.f62 q62_L1 n C9 (hT := fun m _ => .m1 (K9 m))
theorem q62_L0_ok (n : Nat) : LOK Tryz.prog Tryz.f62 (q62_L0.e n) q62_L0.ws := L2.ok Tryz.f62 q62_L0 n C9 (jt := q62_L0_jt) (hT := fun m _ => ⟨.nil, K9 m, .nil, .nil, (.cc (.cc (.cc .nil)))⟩)
theorem tomllex_content_ok (n : Nat) : FnOK Tryz.prog (q62_E n) := fn_c Tryz.f62 (C9 n) (ll := [q62_L0.e n, q62_L1.e n]) (js := q62_jt n) (hT := ⟨.nil, K9 n, .nil, (.cc (q62_L0_ok n) (.cc (q62_L1_ok n) .nil)), (.cc .nil)⟩)
abbrev C10 (n : Nat) : List Ent := q62_E n :: C9 n
theorem K10 (n : Nat) : AllOK Tryz.prog (C10 n) := .cons (tomllex_content_ok n) (K9 n)
def tomllex_token_J1 (n : Nat) (a0 : ByteArray) (a1 : Addr) (a2 : Int) (a3 : ByteArray) : M ((Int × Int × Int × ByteArray) × Int) :=
  M.bind (tomllex_content n a0 a3) fun x0 =>
  M.bind (stN a1 [vi a2, vi 0, vi x0.2.1, Value.string x0.1]) fun x1 =>
  M.bind (ldLs [li, li, li, .str] a1) fun (x2 : Int × Int × Int × ByteArray) =>
  M.pure ((x2.1, x2.2.1, x2.2.2.1, x2.2.2.2), x0.2.2)
def tomllex_token_J0 (n : Nat) (a0 : ByteArray) (a1 : Addr) (a2 : Int) (a3 : ByteArray) : M ((Int × Int × Int × ByteArray) × Int) :=
  M.bind (strings_Repeat n a3 3) fun x0 =>
  M.bind (strings_HasPrefix n a0 x0) fun x1 =>
  if x1 then
    tomllex_token_J1 n a0 a1 (IntKind.i64.wrap (a2 + 2)) x0
  else
    tomllex_token_J1 n a0 a1 a2 a3
def tomllex_token (n : Nat) (a0 : ByteArray) : M ((Int × Int × Int × ByteArray) × Int) :=
  M.bind (newB none T_tomllex_Token [vi 0, vi 0, vi 0, Value.string (ofBytes [])]) fun x0 =>
  M.bind (tomllex_lineEnd n a0) fun x1 =>
  if decide (0 < x1) then
    M.bind (stN (adr x0) [vi 1, vi 0, vi x1, Value.string (ofBytes [])]) fun x2 =>
    M.bind (ldLs [li, li, li, .str] (adr x0)) fun (x3 : Int × Int × Int × ByteArray) =>
    M.pure ((x3.1, x3.2.1, x3.2.2.1, x3.2.2.2), -1)
  else
    M.bind (idxS a0 0) fun x2 =>
    M.bind (strings_IndexByte n (ofBytes [91, 93, 123, 125, 44, 61, 46]) (↑x2.toNat : Int)) fun x3 =>
    if decide (0 ≤ x3) then
      M.bind (sliceS a0 0 1) fun x4 =>
      M.bind (stN (adr x0) [vi 2, vi 0, vi 1, Value.string x4]) fun x5 =>
      M.bind (ldLs [li, li, li, .str] (adr x0)) fun (x6 : Int × Int × Int × ByteArray) =>
      M.pure ((x6.1, x6.2.1, x6.2.2.1, x6.2.2.2), -1)
    else
      M.bind (tomllex_bare n (↑x2.toNat : Int)) fun x4 =>
      if x4 then
        M.bind (tomllex_run n a0 (Value.func (Fn.func F_tomllex_bare) #[] #[])) fun x5 =>
        M.bind (sliceS a0 0 x5) fun x6 =>
        M.bind (stN (adr x0) [vi 3, vi 0, vi x5, Value.string x6]) fun x7 =>
        M.bind (ldLs [li, li, li, .str] (adr x0)) fun (x8 : Int × Int × Int × ByteArray) =>
        M.pure ((x8.1, x8.2.1, x8.2.2.1, x8.2.2.2), -1)
      else
        if decide ((↑x2.toNat : Int) = 34) then
          M.bind (sliceS a0 0 1) fun x5 =>
          if decide ((↑x2.toNat : Int) = 39) then
            tomllex_token_J0 n a0 (adr x0) 5 x5
          else
            tomllex_token_J0 n a0 (adr x0) 4 x5
        else
          if decide ((↑x2.toNat : Int) = 39) then
            M.bind (sliceS a0 0 1) fun x5 =>
            if decide ((↑x2.toNat : Int) = 39) then
              tomllex_token_J0 n a0 (adr x0) 5 x5
            else
              tomllex_token_J0 n a0 (adr x0) 4 x5
          else
            M.bind (stN (adr x0) [vi 0, vi 0, vi 0, Value.string (ofBytes [])]) fun x5 =>
            M.bind (ldLs [li, li, li, .str] (adr x0)) fun (x6 : Int × Int × Int × ByteArray) =>
            M.pure ((x6.1, x6.2.1, x6.2.2.1, x6.2.2.2), 0)
abbrev q29_E (n : Nat) : Ent := ⟨29, [tyS], [.agg [.int .i64, .int .i64, .int .i64, .str], tyI], fun x => tomllex_token n x⟩
def q29_dr (i : Nat) : Option (List (Nat × List Nat)) := cond (Nat.beq i 11) (some [(0, []), (1, []), (2, []), (3, [])]) (none)
abbrev q29_jt (n : Nat) : List (JEnt ((Int × Int × Int × ByteArray) × Int)) := [⟨[0, 0, 1, 1, 0, 1, 1, 1, 1, 1, 0, 1, 0, 1, 1], [.code [1, 0, 1, 1, 0, 1, 1, 1, 1, 1, 0, 1, 0, 1, 1], .code [1, 1, 1, 0, 1, 1, 1, 1, 1, 0, 1, 0, 1, 1], .blk 0, .code [1, 1, 1]], [(0, tyS), (2, tyA), (7, tyI), (8, tyS)], fun x => tomllex_token_J0 n (x.1) (x.2.1) (x.2.2.1) (x.2.2.2)⟩,
  ⟨[0, 1, 1, 1, 0, 1, 1, 1, 1, 1, 0, 1, 0, 1, 1], [.code [1, 1, 1, 1, 0, 1, 1, 1, 1, 1, 0, 1, 0, 1, 1], .blk 0, .code [1, 1, 1]], [(0, tyS), (2, tyA), (7, tyI), (8, tyS)], fun x => tomllex_token_J1 n (x.1) (x.2.1) (x.2.2.1) (x.2.2.2)⟩]
theorem tomllex_token_ok (n : Nat) : FnOK Tryz.prog (q29_E n) := fn_c Tryz.f29 (C10 n) (dr := q29_dr) (js := q29_jt n) (hT := ⟨.nil, K10 n, .nil, .nil, (.cc (.cc .nil))⟩)
abbrev C11 (n : Nat) : List Ent := q29_E n :: C10 n
theorem K11 (n : Nat) : AllOK Tryz.prog (C11 n) := .cons (tomllex_token_ok n) (K10 n)
def tomllex_Scan_L1_J0_B (G : ByteArray → Sl → Sl → Int → Int → M ((Int) ⊕ (Sl × Sl × Int × Int))) (n : Nat) (a0 : ByteArray) (a1 : Sl) (a2 : Sl) (a3 : Int) (a4 : Int) : M ((Int) ⊕ (Sl × Sl × Int × Int)) :=
  M.bind (idxS a0 a4) fun x0 =>
  M.bind (tomllex_control n (↑x0.toNat : Int)) fun x1 =>
  if x1 then
    M.pure (Sum.inr (sl0, sl0, a4, 4))
  else
    G a0 a1 a2 a3 (IntKind.i64.wrap (a4 + 1))
def tomllex_Scan_L1_B (G : ByteArray → Sl → Sl → Int → Int → M ((Int) ⊕ (Sl × Sl × Int × Int))) (n : Nat) (a0 : ByteArray) (a1 : Sl) (a2 : Sl) (a3 : Int) (a4 : Int) : M ((Int) ⊕ (Sl × Sl × Int × Int)) :=
  if decide (a4 < (↑a0.size : Int)) then
    M.bind (sliceS a0 a4 (↑a0.size : Int)) fun x0 =>
    M.bind (tomllex_lineEnd n x0) fun x1 =>
    if decide (x1 = 0) then
      tomllex_Scan_L1_J0_B G n a0 a1 a2 a3 a4
    else
      M.pure (Sum.inl a4)
  else
    M.pure (Sum.inl a4)
def tomllex_Scan_L1 : Nat → ByteArray → Sl → Sl → Int → Int → M ((Int) ⊕ (Sl × Sl × Int × Int))
  | 0 => fun _ _ _ _ _ => M.fail
  | n + 1 => tomllex_Scan_L1_B (tomllex_Scan_L1 n) n
theorem tomllex_Scan_L1_succ (n : Nat) : tomllex_Scan_L1 (n + 1) = tomllex_Scan_L1_B (tomllex_Scan_L1 n) n := rfl
def tomllex_Scan_L1_J0 (n : Nat) := tomllex_Scan_L1_J0_B (tomllex_Scan_L1 n) n
def tomllex_Scan_L0_B (G : ByteArray → Sl → Sl → Int → M ((Sl × Sl × Int) ⊕ (Sl × Sl × Int × Int))) (n : Nat) (a0 : ByteArray) (a1 : Sl) (a2 : Sl) (a3 : Int) : M ((Sl × Sl × Int) ⊕ (Sl × Sl × Int × Int)) :=
  if decide (a3 < (↑a0.size : Int)) then
    M.bind (sliceS a0 a3 (↑a0.size : Int)) fun x0 =>
    M.bind (tomllex_run n x0 (Value.func (Fn.func F_tomllex_blank) #[] #[])) fun x1 =>
    if decide (0 < x1) then
      G a0 a1 a2 (IntKind.i64.wrap (a3 + x1))
    else
      M.bind (idxS a0 a3) fun x2 =>
      if decide ((↑x2.toNat : Int) = 35) then
        M.bind (tomllex_Scan_L1 n a0 a1 a2 a3 a3) (sumElim (fun x3 =>
          M.bind (sliceS a0 a3 x3) fun x4 =>
          M.bind (app false a2 3 T_api_Note 1 [vi a3, vi x3, Value.string x4]) fun x5 =>
          G a0 a1 x5 x3)
        (fun x3 =>
          M.pure (Sum.inr (x3.1, x3.2.1, x3.2.2.1, x3.2.2.2))))
      else
        M.bind (sliceS a0 a3 (↑a0.size : Int)) fun x3 =>
        M.bind (tomllex_token n x3) fun x4 =>
        M.bind (newB none T_tomllex_Token [vi 0, vi 0, vi 0, Value.string (ofBytes [])]) fun x5 =>
        M.bind (stN (adr x5) [vi x4.1.1, vi x4.1.2.1, vi x4.1.2.2.1, Value.string x4.1.2.2.2]) fun x6 =>
        if decide (0 ≤ x4.2) then
          M.pure (Sum.inr (sl0, sl0, IntKind.i64.wrap (a3 + x4.2), 4))
        else
          M.bind (ldL (li) ((adr x5).plus 2)) fun (x7 : Int) =>
          M.bind (stN ((adr x5).plus 1) [vi a3]) fun x8 =>
          M.bind (stN ((adr x5).plus 2) [vi (IntKind.i64.wrap (a3 + x7))]) fun x9 =>
          M.bind (ldLs [li, li, li, .str] (adr x5)) fun (x10 : Int × Int × Int × ByteArray) =>
          M.bind (app false a1 4 T_tomllex_Token 1 [vi x10.1, vi x10.2.1, vi x10.2.2.1, Value.string x10.2.2.2]) fun x11 =>
          M.bind (ldL (li) ((adr x5).plus 2)) fun (x12 : Int) =>
          G a0 x11 a2 x12
  else
    M.pure (Sum.inl (a1, a2, a3))
def tomllex_Scan_L0 : Nat → ByteArray → Sl → Sl → Int → M ((Sl × Sl × Int) ⊕ (Sl × Sl × Int × Int))
  | 0 => fun _ _ _ _ => M.fail
  | n + 1 => tomllex_Scan_L0_B (tomllex_Scan_L0 n) n
theorem tomllex_Scan_L0_succ (n : Nat) : tomllex_Scan_L0 (n + 1) = tomllex_Scan_L0_B (tomllex_Scan_L0 n) n := rfl
def tomllex_Scan (n : Nat) (a0 : ByteArray) : M (Sl × Sl × Int × Int) :=
  if decide (65536 < (↑a0.size : Int)) then
    M.pure (sl0, sl0, 0, 6)
  else
    M.bind (codepoint_Check n a0) fun x0 =>
    if !decide (x0.2 = 0) then
      M.pure (sl0, sl0, x0.1, x0.2)
    else
      M.bind (tomllex_Scan_L0 n a0 sl0 sl0 0) (sumElim (fun x1 =>
        M.bind (app false x1.1 4 T_tomllex_Token 1 [vi 8, vi x1.2.2, vi x1.2.2, Value.string (ofBytes [])]) fun x2 =>
        M.pure (x2, x1.2.1, 0, 0))
      (fun x1 =>
        M.pure (x1.1, x1.2.1, x1.2.2.1, x1.2.2.2)))
abbrev q10_E (n : Nat) : Ent := ⟨10, [tyS], [tyL, tyL, tyI, tyI], fun x => tomllex_Scan n x⟩
abbrev q10_L0 : L2 := ⟨[0, 0, 1, 1, 1, 1, 1, 1], [(0, tyS), (8, tyL), (9, tyL), (10, tyI)], [(8, tyL), (9, tyL), (10, tyI)], [(2, tyL), (3, tyL), (4, tyI), (5, tyI)], [2, 3, 4, 5] ++ List.range' 8 7 ++ List.range' 27 72, 0, .ret, fun n x => tomllex_Scan_L0 n (x.1) (x.2.1) (x.2.2.1) (x.2.2.2)⟩
abbrev q10_L1 : L2 := ⟨[0, 0, 1, 0, 1, 0, 1, 0, 1, 0, 0, 0, 1, 1, 1, 1, 1, 1], [(0, tyS), (8, tyL), (9, tyL), (10, tyI), (12, tyI)], [(12, tyI)], [(2, tyL), (3, tyL), (4, tyI), (5, tyI)], [2, 3, 4, 5, 12] ++ List.range' 45 18, 2, .ret, fun n x => tomllex_Scan_L1 n (x.1) (x.2.1) (x.2.2.1) (x.2.2.2.1) (x.2.2.2.2)⟩
abbrev q10_L1_jt (n : Nat) : List (JEnt ((Int) ⊕ (Sl × Sl × Int × Int))) := [⟨[0, 0, 0, 1, 0, 0, 0, 1, 0, 1, 0, 1, 0, 1, 0, 0, 0, 1, 1, 1, 1, 1, 1], [.code [1, 0, 0, 1, 0, 0, 0, 1, 0, 1, 0, 1, 0, 1, 0, 0, 0, 1, 1, 1, 1, 1, 1], .code [1, 0, 1, 0, 0, 0, 1, 0, 1, 0, 1, 0, 1, 0, 0, 0, 1, 1, 1, 1, 1, 1], .blk 3], [(0, tyS), (8, tyL), (9, tyL), (10, tyI), (12, tyI)], fun x => tomllex_Scan_L1_J0 n (x.1) (x.2.1) (x.2.2.1) (x.2.2.2.1) (x.2.2.2.2)⟩]
theorem q10_L1_ok (n : Nat) : LOK Tryz.prog Tryz.f10 (q10_L1.e n) q10_L1.ws := L2.ok Tryz.f10 q10_L1 n C11 (jt := q10_L1_jt) (hT := fun m _ => ⟨.nil, K11 m, .nil, .nil, (.cc .nil)⟩)
theorem q10_L0_ok (n : Nat) : LOK Tryz.prog Tryz.f10 (q10_L0.e n) q10_L0.ws := L2.ok Tryz.f10 q10_L0 n C11 (lt := fun n => [q10_L1.e n]) (hT := fun m _ => ⟨.nil, K11 m, .nil, (.cc (q10_L1_ok m) .nil), .nil⟩)
theorem tomllex_Scan_ok (n : Nat) : FnOK Tryz.prog (q10_E n) := fn_c Tryz.f10 (C11 n) (ll := [q10_L0.e n]) (hT := ⟨.nil, K11 n, .nil, (.cc (q10_L0_ok n) .nil), .nil⟩)
def toml_parser_node (n : Nat) (a0 : Option Addr) (a1 : Int × ByteArray × Bool × Sl × Sl) : M (Int) :=
  M.bind (newB none T_api_Node [vi a1.1, Value.string a1.2.1, Value.bool a1.2.2.1, vsl a1.2.2.2.1, vsl a1.2.2.2.2]) fun x0 =>
  M.bind (nn a0) fun x1 =>
  M.bind (ldL .sl (((x1.plus 3).plus 2).plus 0)) fun (x2 : Sl) =>
  M.bind (ldLs [li, .str, .bool, .sl, .sl] (adr x0)) fun (x3 : Int × ByteArray × Bool × Sl × Sl) =>
  M.bind (app true x2 5 T_api_Node 1 [vi x3.1, Value.string x3.2.1, Value.bool x3.2.2.1, vsl x3.2.2.2.1, vsl x3.2.2.2.2]) fun x4 =>
  M.bind (nn a0) fun x5 =>
  M.bind (stN (((x5.plus 3).plus 2).plus 0) [vsl x4]) fun x6 =>
  M.bind (nn a0) fun x7 =>
  M.bind (ldL .sl (((x7.plus 3).plus 2).plus 0)) fun (x8 : Sl) =>
  M.pure (IntKind.i64.wrap ((↑x8.len : Int) - 1))
abbrev q47_E (n : Nat) : Ent := ⟨47, [tyP, .agg [.int .i64, .str, .bool, .sl, .sl]], [tyI], fun x => toml_parser_node n (x.1) (x.2)⟩
def q47_dr (i : Nat) : Option (List (Nat × List Nat)) := cond (Nat.beq i 1) (some [(0, []), (1, []), (2, []), (3, []), (4, []), (5, []), (6, []), (7, []), (8, []), (9, []), (10, []), (11, []), (12, []), (13, []), (14, [])]) (none)
theorem toml_parser_node_ok (n : Nat) : FnOK Tryz.prog (q47_E n) := fn_c Tryz.f47 (C11 n) (dr := q47_dr) (hT := .m1 (K11 n))
abbrev C12 (n : Nat) : List Ent := q47_E n :: C11 n
theorem K12 (n : Nat) : AllOK Tryz.prog (C12 n) := .cons (toml_parser_node_ok n) (K11 n)
def toml_parser_span (n : Nat) (a0 : Option Addr) (a1 : Int × Int × Int × Int × Int × Int × Int × Bool × Bool) : M (Int) :=
  M.bind (newB none T_api_Span [vi a1.1, vi a1.2.1, vi a1.2.2.1, vi a1.2.2.2.1, vi a1.2.2.2.2.1, vi a1.2.2.2.2.2.1, vi a1.2.2.2.2.2.2.1, Value.bool a1.2.2.2.2.2.2.2.1, Value.bool a1.2.2.2.2.2.2.2.2]) fun x0 =>
  M.bind (nn a0) fun x1 =>
  M.bind (ldL .sl ((x1.plus 3).plus 4)) fun (x2 : Sl) =>
  M.bind (ldLs [li, li, li, li, li, li, li, .bool, .bool] (adr x0)) fun (x3 : Int × Int × Int × Int × Int × Int × Int × Bool × Bool) =>
  M.bind (app true x2 9 T_api_Span 1 [vi x3.1, vi x3.2.1, vi x3.2.2.1, vi x3.2.2.2.1, vi x3.2.2.2.2.1, vi x3.2.2.2.2.2.1, vi x3.2.2.2.2.2.2.1, Value.bool x3.2.2.2.2.2.2.2.1, Value.bool x3.2.2.2.2.2.2.2.2]) fun x4 =>
  M.bind (nn a0) fun x5 =>
  M.bind (stN ((x5.plus 3).plus 4) [vsl x4]) fun x6 =>
  M.bind (nn a0) fun x7 =>
  M.bind (ldL .sl ((x7.plus 3).plus 4)) fun (x8 : Sl) =>
  M.pure (IntKind.i64.wrap ((↑x8.len : Int) - 1))
abbrev q48_E (n : Nat) : Ent := ⟨48, [tyP, .agg [.int .i64, .int .i64, .int .i64, .int .i64, .int .i64, .int .i64, .int .i64, .bool, .bool]], [tyI], fun x => toml_parser_span n (x.1) (x.2)⟩
def q48_dr (i : Nat) : Option (List (Nat × List Nat)) := cond (Nat.beq i 1) (some [(0, []), (1, []), (2, []), (3, []), (4, []), (5, []), (6, []), (7, []), (8, []), (9, []), (10, []), (11, []), (12, [])]) (none)
theorem toml_parser_span_ok (n : Nat) : FnOK Tryz.prog (q48_E n) := fn_c Tryz.f48 (C12 n) (dr := q48_dr) (hT := .m1 (K12 n))
abbrev C13 (n : Nat) : List Ent := q48_E n :: C12 n
theorem K13 (n : Nat) : AllOK Tryz.prog (C13 n) := .cons (toml_parser_span_ok n) (K12 n)
def toml_parser_token (n : Nat) (a0 : Option Addr) : M (Int × Int × Int × ByteArray) :=
  M.bind (newB none T_tomllex_Token [vi 0, vi 0, vi 0, Value.string (ofBytes [])]) fun x0 =>
  M.bind (nn a0) fun x1 =>
  M.bind (nn a0) fun x2 =>
  M.bind (ldL .sl (x1.plus 1)) fun (x3 : Sl) =>
  M.bind (ldL (li) (x2.plus 2)) fun (x4 : Int) =>
  M.bind (idxA x3 x4 4) fun x5 =>
  M.bind (ldLs [li, li, li, .str] x5) fun (x6 : Int × Int × Int × ByteArray) =>
  M.bind (stN (adr x0) [vi x6.1, vi x6.2.1, vi x6.2.2.1, Value.string x6.2.2.2]) fun x7 =>
  M.bind (ldLs [li, li, li, .str] (adr x0)) fun (x8 : Int × Int × Int × ByteArray) =>
  M.pure (x8.1, x8.2.1, x8.2.2.1, x8.2.2.2)
abbrev q51_E (n : Nat) : Ent := ⟨51, [tyP], [.agg [.int .i64, .int .i64, .int .i64, .str]], fun x => toml_parser_token n x⟩
def q51_dr (i : Nat) : Option (List (Nat × List Nat)) := cond (Nat.beq i 1) (some [(0, []), (1, []), (2, []), (4, []), (5, []), (6, []), (3, []), (7, []), (8, []), (9, []), (10, [])]) (none)
theorem toml_parser_token_ok (n : Nat) : FnOK Tryz.prog (q51_E n) := fn_c Tryz.f51 (C13 n) (dr := q51_dr) (hT := .m1 (K13 n))
abbrev C14 (n : Nat) : List Ent := q51_E n :: C13 n
theorem K14 (n : Nat) : AllOK Tryz.prog (C14 n) := .cons (toml_parser_token_ok n) (K13 n)
def toml_parser_is (n : Nat) (a0 : Option Addr) (a1 : ByteArray) : M (Bool) :=
  M.bind (toml_parser_token n a0) fun x0 =>
  if decide (x0.1 = 2) then
    M.bind (toml_parser_token n a0) fun x1 =>
    M.pure (eqS x1.2.2.2 a1)
  else
    M.pure false
abbrev q49_E (n : Nat) : Ent := ⟨49, [tyP, tyS], [tyB], fun x => toml_parser_is n (x.1) (x.2)⟩
theorem toml_parser_is_ok (n : Nat) : FnOK Tryz.prog (q49_E n) := fn_c Tryz.f49 (C14 n) (hT := .m1 (K14 n))
abbrev C15 (n : Nat) : List Ent := q49_E n :: C14 n
theorem K15 (n : Nat) : AllOK Tryz.prog (C15 n) := .cons (toml_parser_is_ok n) (K14 n)
def toml_parser_fail (n : Nat) (a0 : Option Addr) (a1 : Int) (a2 : Int) : M ((Unit) ⊕ Value) :=
  M.pure (Sum.inr (Value.iface 59 (Value.agg #[vi a1, vi a2])))
abbrev q53_E (n : Nat) : PEnt := ⟨53, [tyP, tyI, tyI], [], fun x => toml_parser_fail n (x.1) (x.2.1) (x.2.2)⟩
abbrev q53_pt (n : Nat) : List PEnt := []
theorem toml_parser_fail_ok (n : Nat) : PFnOK Tryz.prog (q53_E n) :=
  fnp_t (q53_E n) Tryz.f53 (bodyOf Tryz.f53) [(0, tyP), (1, tyI), (2, tyI)] [] (C15 n) [] (q53_pt n) [] [] (fun _ => none) (by kernel_rfl) (by kernel_rfl) (by kernel_rfl) (by kernel_rfl) (by kernel_rfl) ⟨.nil, K15 n, .nil, .nil, by kernel_rfl, .nil, .nil⟩ (fun x => by kernel_rfl)
def toml_name (n : Nat) (a0 : Int × Int × Int × ByteArray) : M (Bool) :=
  M.bind (newB none T_tomllex_Token [vi a0.1, vi a0.2.1, vi a0.2.2.1, Value.string a0.2.2.2]) fun x0 =>
  M.bind (ldL (li) ((adr x0).plus 0)) fun (x1 : Int) =>
  if decide (x1 = 4) then
    M.pure true
  else
    if decide (x1 = 5) then
      M.pure true
    else
      if decide (x1 = 3) then
        M.bind (ldL .str ((adr x0).plus 3)) fun (x2 : ByteArray) =>
        M.bind (strings_ContainsAny n x2 (ofBytes [43, 58])) fun x3 =>
        M.pure !x3
      else
        M.pure false
abbrev q129_E (n : Nat) : Ent := ⟨129, [.agg [.int .i64, .int .i64, .int .i64, .str]], [tyB], fun x => toml_name n x⟩
theorem toml_name_ok (n : Nat) : FnOK Tryz.prog (q129_E n) := fn_c Tryz.f129 (C15 n) (hT := .m1 (K15 n))
abbrev C16 (n : Nat) : List Ent := q129_E n :: C15 n
theorem K16 (n : Nat) : AllOK Tryz.prog (C16 n) := .cons (toml_name_ok n) (K15 n)
def toml_parser_key_L0_J0_B (G : Option Addr → Sl → M ((Sl) ⊕ Value)) (n : Nat) (a0 : Option Addr) (a1 : Sl) (a2 : Addr) : M ((Sl) ⊕ Value) :=
  M.bind (ldLs [li, li, li, .str] a2) fun (x0 : Int × Int × Int × ByteArray) =>
  M.bind (app false a1 4 T_tomllex_Token 1 [vi x0.1, vi x0.2.1, vi x0.2.2.1, Value.string x0.2.2.2]) fun x1 =>
  M.bind (nn a0) fun x2 =>
  M.bind (ldL (li) (x2.plus 2)) fun (x3 : Int) =>
  M.bind (nn a0) fun x4 =>
  M.bind (stN (x4.plus 2) [vi (IntKind.i64.wrap (x3 + 1))]) fun x5 =>
  M.bind (toml_parser_is n a0 (ofBytes [46])) fun x6 =>
  if !x6 then
    M.pure (Sum.inl x1)
  else
    M.bind (nn a0) fun x7 =>
    M.bind (ldL (li) (x7.plus 2)) fun (x8 : Int) =>
    M.bind (nn a0) fun x9 =>
    M.bind (stN (x9.plus 2) [vi (IntKind.i64.wrap (x8 + 1))]) fun x10 =>
    G a0 x1
def toml_parser_key_L0_B (G : Option Addr → Sl → M ((Sl) ⊕ Value)) (n : Nat) (a0 : Option Addr) (a1 : Sl) : M ((Sl) ⊕ Value) :=
  M.bind (toml_parser_token n a0) fun x0 =>
  M.bind (newB none T_tomllex_Token [vi 0, vi 0, vi 0, Value.string (ofBytes [])]) fun x1 =>
  M.bind (stN (adr x1) [vi x0.1, vi x0.2.1, vi x0.2.2.1, Value.string x0.2.2.2]) fun x2 =>
  M.bind (ldLs [li, li, li, .str] (adr x1)) fun (x3 : Int × Int × Int × ByteArray) =>
  M.bind (toml_name n (x3.1, x3.2.1, x3.2.2.1, x3.2.2.2)) fun x4 =>
  if !x4 then
    M.bind (ldL (li) ((adr x1).plus 1)) fun (x5 : Int) =>
    M.bind (toml_parser_fail n a0 x5 4) (sumElim (fun x6 =>
      toml_parser_key_L0_J0_B G n a0 a1 (adr x1))
    (fun x6 =>
      M.pure (Sum.inr x6)))
  else
    toml_parser_key_L0_J0_B G n a0 a1 (adr x1)
def toml_parser_key_L0 : Nat → Option Addr → Sl → M ((Sl) ⊕ Value)
  | 0 => fun _ _ => M.fail
  | n + 1 => toml_parser_key_L0_B (toml_parser_key_L0 n) n
theorem toml_parser_key_L0_succ (n : Nat) : toml_parser_key_L0 (n + 1) = toml_parser_key_L0_B (toml_parser_key_L0 n) n := rfl
def toml_parser_key_L0_J0 (n : Nat) := toml_parser_key_L0_J0_B (toml_parser_key_L0 n) n
def toml_parser_key (n : Nat) (a0 : Option Addr) : M ((Sl) ⊕ Value) :=
  M.bind (toml_parser_key_L0 n a0 sl0) (sumElim (fun x0 =>
    M.pure (Sum.inl x0))
  (fun x0 =>
    M.pure (Sum.inr x0)))
abbrev q87_E (n : Nat) : PEnt := ⟨87, [tyP], [tyL], fun x => toml_parser_key n x⟩
abbrev q87_L0_w : List Nat := List.range' 2 34
abbrev q87_L0_a : List (Nat × Ty) := [(0, tyP), (3, tyL)]
abbrev q87_L0_p : Path := [0, 1, 1]
abbrev q87_L0_g (n : Nat) (x : TsDen (tys q87_L0_a)) : M ((Sl) ⊕ Value) := toml_parser_key_L0 n (x.1) (x.2)
abbrev q87_L0_l (n : Nat) : LEnt := ⟨q87_L0_p, q87_L0_a, actLrP q87_L0_a [(2, tyL)] q87_L0_w (q87_L0_g n)⟩
abbrev q87_pt (n : Nat) : List PEnt := [q53_E n]
abbrev q87_L0_jt (n : Nat) : List (JEnt ((Sl) ⊕ Value)) := [⟨[0, 1, 1, 0, 0, 0, 1, 1], [.code [1, 1, 1, 0, 0, 0, 1, 1], .blk 1], [(0, tyP), (3, tyL), (4, tyA)], fun x => toml_parser_key_L0_J0 n (x.1) (x.2.1) (x.2.2)⟩]
theorem q87_L0_ok (n : Nat) {W : Wr} (hW : subW W 36 q87_L0_w = true) : LEntOK Tryz.prog (bodyOf Tryz.f87) W (q87_L0_l n) :=
  loopRP_t (bodyOf Tryz.f87) q87_L0_p q87_L0_a [(2, tyL)] 36 q87_L0_w [] C16 (fun _ => []) q87_pt (fun _ => []) (fun _ => none) q87_L0_g q87_L0_jt (by kernel_rfl) (fun _ => by kernel_rfl) (fun n x => by kernel_rfl) n (fun m hm => ⟨.nil, K16 m, .nil, (.cons (toml_parser_fail_ok m) .nil), by kernel_rfl, .nil, (.cc .nil)⟩) hW
theorem toml_parser_key_ok (n : Nat) : PFnOK Tryz.prog (q87_E n) :=
  fnp_t (q87_E n) Tryz.f87 (bodyOf Tryz.f87) [(0, tyP)] [] (C16 n) [] (q87_pt n) [q87_L0_l n] [] (fun _ => none) (by kernel_rfl) (by kernel_rfl) (by kernel_rfl) (by kernel_rfl) (by kernel_rfl) ⟨.nil, K16 n, .nil, (.cons (toml_parser_fail_ok n) .nil), by kernel_rfl, (.cons (q87_L0_ok n (by kernel_rfl)) .nil), .nil⟩ (fun x => by kernel_rfl)
def toml_parser_expect (n : Nat) (a0 : Option Addr) (a1 : ByteArray) : M ((Unit) ⊕ Value) :=
  M.bind (toml_parser_is n a0 a1) fun x0 =>
  if !x0 then
    M.bind (toml_parser_token n a0) fun x1 =>
    M.bind (toml_parser_fail n a0 x1.2.1 4) (sumElim (fun x2 =>
      M.bind (nn a0) fun x3 =>
      M.bind (ldL (li) (x3.plus 2)) fun (x4 : Int) =>
      M.bind (nn a0) fun x5 =>
      M.bind (stN (x5.plus 2) [vi (IntKind.i64.wrap (x4 + 1))]) fun x6 =>
      M.pure (Sum.inl ()))
    (fun x2 =>
      M.pure (Sum.inr x2)))
  else
    M.bind (nn a0) fun x1 =>
    M.bind (ldL (li) (x1.plus 2)) fun (x2 : Int) =>
    M.bind (nn a0) fun x3 =>
    M.bind (stN (x3.plus 2) [vi (IntKind.i64.wrap (x2 + 1))]) fun x4 =>
    M.pure (Sum.inl ())
abbrev q88_E (n : Nat) : PEnt := ⟨88, [tyP, tyS], [], fun x => toml_parser_expect n (x.1) (x.2)⟩
abbrev q88_pt (n : Nat) : List PEnt := [q53_E n]
theorem toml_parser_expect_ok (n : Nat) : PFnOK Tryz.prog (q88_E n) :=
  fnp_t (q88_E n) Tryz.f88 (bodyOf Tryz.f88) [(0, tyP), (1, tyS)] [] (C16 n) [] (q88_pt n) [] [] (fun _ => none) (by kernel_rfl) (by kernel_rfl) (by kernel_rfl) (by kernel_rfl) (by kernel_rfl) ⟨.nil, K16 n, .nil, (.cons (toml_parser_fail_ok n) .nil), by kernel_rfl, .nil, .nil⟩ (fun x => by kernel_rfl)
def toml_parser_find (n : Nat) (a0 : Option Addr) (a1 : Int) (a2 : Int × Int × Int × ByteArray) : M (Int × Bool) :=
  M.bind (newB none T_tomllex_Token [vi a2.1, vi a2.2.1, vi a2.2.2.1, Value.string a2.2.2.2]) fun x0 =>
  M.bind (nn a0) fun x1 =>
  M.bind (ldL .mp (x1.plus 9)) fun (x2 : Option Nat) =>
  M.bind (mpGet T_i64 (Ty.one .ptr) none x2 (vi a1)) fun (x3 : Bool × Option Addr) =>
  M.bind (nn x3.2) fun x4 =>
  M.bind (ldL .mp (x4.plus 4)) fun (x5 : Option Nat) =>
  M.bind (ldL .str ((adr x0).plus 3)) fun (x6 : ByteArray) =>
  M.bind (mpGet T_string (Ty.one (li)) 0 x5 (Value.string x6)) fun (x7 : Bool × Int) =>
  if !x7.1 then
    M.pure (0, false)
  else
    M.bind (nn a0) fun x8 =>
    M.bind (ldL .sl (((x8.plus 3).plus 2).plus 0)) fun (x9 : Sl) =>
    M.bind (idxA x9 a1 5) fun x10 =>
    M.bind (ldL .sl (x10.plus 4)) fun (x11 : Sl) =>
    M.bind (idxA x11 x7.2 1) fun x12 =>
    M.bind (ldL (li) x12) fun (x13 : Int) =>
    M.pure (x13, true)
abbrev q89_E (n : Nat) : Ent := ⟨89, [tyP, tyI, .agg [.int .i64, .int .i64, .int .i64, .str]], [tyI, tyB], fun x => toml_parser_find n (x.1) (x.2.1) (x.2.2)⟩
def q89_dr (i : Nat) : Option (List (Nat × List Nat)) := cond (Nat.beq i 1) (some [(0, []), (1, []), (2, []), (4, []), (9, []), (3, []), (5, []), (6, []), (7, []), (8, []), (10, []), (11, []), (12, []), (13, []), (14, []), (15, []), (16, [])]) (none)
theorem toml_parser_find_ok (n : Nat) : FnOK Tryz.prog (q89_E n) := fn_c Tryz.f89 (C16 n) (dr := q89_dr) (hT := .m1 (K16 n))
abbrev C17 (n : Nat) : List Ent := q89_E n :: C16 n
theorem K17 (n : Nat) : AllOK Tryz.prog (C17 n) := .cons (toml_parser_find_ok n) (K16 n)
def toml_parser_room (n : Nat) (a0 : Option Addr) (a1 : Int) (a2 : Int) : M ((Unit) ⊕ Value) :=
  M.bind (nn a0) fun x0 =>
  M.bind (ldL .sl (((x0.plus 3).plus 2).plus 0)) fun (x1 : Sl) =>
  if decide (4096 < IntKind.i64.wrap ((↑x1.len : Int) + a1)) then
    M.bind (toml_parser_fail n a0 a2 7) (sumElim (fun x2 =>
      M.pure (Sum.inl ()))
    (fun x2 =>
      M.pure (Sum.inr x2)))
  else
    M.pure (Sum.inl ())
abbrev q131_E (n : Nat) : PEnt := ⟨131, [tyP, tyI, tyI], [], fun x => toml_parser_room n (x.1) (x.2.1) (x.2.2)⟩
abbrev q131_pt (n : Nat) : List PEnt := [q53_E n]
theorem toml_parser_room_ok (n : Nat) : PFnOK Tryz.prog (q131_E n) :=
  fnp_t (q131_E n) Tryz.f131 (bodyOf Tryz.f131) [(0, tyP), (1, tyI), (2, tyI)] [] (C17 n) [] (q131_pt n) [] [] (fun _ => none) (by kernel_rfl) (by kernel_rfl) (by kernel_rfl) (by kernel_rfl) (by kernel_rfl) ⟨.nil, K17 n, .nil, (.cons (toml_parser_fail_ok n) .nil), by kernel_rfl, .nil, .nil⟩ (fun x => by kernel_rfl)
def toml_parser_enter_J0 (n : Nat) (a0 : Option Addr) (a1 : Int) (a2 : Int) (a3 : Addr) (a4 : Addr) (a5 : Option Addr) : M ((Int × Int × Int × Int × Int × Int × Int × Bool × Bool) ⊕ Value) :=
  M.bind (ldL (li) (a3.plus 1)) fun (x0 : Int) =>
  M.bind (toml_parser_room n a0 (IntKind.i64.wrap (1 + a2)) x0) (sumElim (fun x1 =>
    M.bind (ldL .str (a3.plus 3)) fun (x2 : ByteArray) =>
    M.bind (toml_parser_node n a0 (5, x2, false, sl0, sl0)) fun x3 =>
    M.bind (nn a0) fun x4 =>
    M.bind (ldL .sl (((x4.plus 3).plus 2).plus 0)) fun (x5 : Sl) =>
    M.bind (idxA x5 a1 5) fun x6 =>
    M.bind (nn a5) fun x7 =>
    M.bind (nn (some x6)) fun x8 =>
    M.bind (ldL .mp (x7.plus 4)) fun (x9 : Option Nat) =>
    M.bind (ldL .str (a3.plus 3)) fun (x10 : ByteArray) =>
    M.bind (ldL .sl (x8.plus 4)) fun (x11 : Sl) =>
    M.bind (mpSet T_string x9 (Value.string x10) (vi (↑x11.len : Int))) fun x12 =>
    M.bind (reserve 16) fun x13 =>
    M.bind (nn a5) fun x14 =>
    M.bind (nn (some x6)) fun x15 =>
    M.bind (ldL (li) (x14.plus 3)) fun (x16 : Int) =>
    M.bind (ldL .sl (x15.plus 4)) fun (x17 : Sl) =>
    M.bind (ldL (li) (a3.plus 1)) fun (x18 : Int) =>
    M.bind (ldL (li) (a3.plus 2)) fun (x19 : Int) =>
    M.bind (newB (some (x13 + 14)) T_api_Span [vi 0, vi 0, vi 0, vi 0, vi 0, vi 0, vi 0, Value.bool false, Value.bool false]) fun x20 =>
    M.bind (stN (adr x20) [vi 0, vi x16, vi (↑x17.len : Int), vi 0, vi 0, vi x18, vi x19, Value.bool false, Value.bool false]) fun x21 =>
    M.bind (nn (some x6)) fun x22 =>
    M.bind (ldL .sl (x22.plus 3)) fun (x23 : Sl) =>
    M.bind (app false x23 1 T_i64 1 [vi x3]) fun x24 =>
    M.bind (nn (some x6)) fun x25 =>
    M.bind (stN (x25.plus 3) [vsl x24]) fun x26 =>
    M.bind (ldLs [li, li, li, li, li, li, li, .bool, .bool] (adr x20)) fun (x27 : Int × Int × Int × Int × Int × Int × Int × Bool × Bool) =>
    M.bind (stN a4 [vi x27.1, vi x27.2.1, vi x27.2.2.1, vi x27.2.2.2.1, vi x27.2.2.2.2.1, vi x27.2.2.2.2.2.1, vi x27.2.2.2.2.2.2.1, Value.bool x27.2.2.2.2.2.2.2.1, Value.bool x27.2.2.2.2.2.2.2.2]) fun x28 =>
    M.bind (M.bind (ldLs [li, li, li, li, li, li, li, .bool, .bool] a4) fun (x29 : Int × Int × Int × Int × Int × Int × Int × Bool × Bool) =>
      M.pure (x29.1, x29.2.1, x29.2.2.1, x29.2.2.2.1, x29.2.2.2.2.1, x29.2.2.2.2.2.1, x29.2.2.2.2.2.2.1, x29.2.2.2.2.2.2.2.1, x29.2.2.2.2.2.2.2.2)) fun x29 =>
    M.pure (Sum.inl x29))
  (fun x1 =>
    M.pure (Sum.inr x1)))
def toml_parser_enter (n : Nat) (a0 : Option Addr) (a1 : Int) (a2 : Int × Int × Int × ByteArray) (a3 : Int) : M ((Int × Int × Int × Int × Int × Int × Int × Bool × Bool) ⊕ Value) :=
  M.bind (newB none T_tomllex_Token [vi a2.1, vi a2.2.1, vi a2.2.2.1, Value.string a2.2.2.2]) fun x0 =>
  M.bind (newB none T_api_Span [vi 0, vi 0, vi 0, vi 0, vi 0, vi 0, vi 0, Value.bool false, Value.bool false]) fun x1 =>
  M.bind (nn a0) fun x2 =>
  M.bind (ldL .mp (x2.plus 9)) fun (x3 : Option Nat) =>
  M.bind (mpGet T_i64 (Ty.one .ptr) none x3 (vi a1)) fun (x4 : Bool × Option Addr) =>
  M.bind (nn x4.2) fun x5 =>
  M.bind (ldL (li) (x5.plus 2)) fun (x6 : Int) =>
  if decide (32 ≤ x6) then
    M.bind (ldL (li) ((adr x0).plus 1)) fun (x7 : Int) =>
    M.bind (toml_parser_fail n a0 x7 5) (sumElim (fun x8 =>
      toml_parser_enter_J0 n a0 a1 a3 (adr x0) (adr x1) x4.2)
    (fun x8 =>
      M.pure (Sum.inr x8)))
  else
    toml_parser_enter_J0 n a0 a1 a3 (adr x0) (adr x1) x4.2
abbrev q93_E (n : Nat) : PEnt := ⟨93, [tyP, tyI, .agg [.int .i64, .int .i64, .int .i64, .str], tyI], [.agg [.int .i64, .int .i64, .int .i64, .int .i64, .int .i64, .int .i64, .int .i64, .bool, .bool]], fun x => toml_parser_enter n (x.1) (x.2.1) (x.2.2.1) (x.2.2.2)⟩
abbrev q93_pt (n : Nat) : List PEnt := [q53_E n, q131_E n]
def q93_dr (i : Nat) : Option (List (Nat × List Nat)) := cond (Nat.beq i 7) (some [(0, []), (1, []), (2, []), (4, []), (6, []), (7, []), (8, []), (3, []), (5, []), (9, []), (10, []), (11, [])]) (cond (Nat.beq i 8) (some [(0, []), (1, []), (2, []), (4, []), (5, []), (6, []), (9, []), (11, []), (3, []), (7, []), (8, []), (10, []), (12, []), (13, []), (14, []), (15, [])]) (none))
abbrev q93_jt (n : Nat) : List (JEnt ((Int × Int × Int × Int × Int × Int × Int × Bool × Bool) ⊕ Value)) := [⟨[0, 1, 1, 1], [.code [1, 1, 1, 1]], [(0, tyP), (1, tyI), (3, tyI), (6, tyA), (8, tyA), (9, tyP)], fun x => toml_parser_enter_J0 n (x.1) (x.2.1) (x.2.2.1) (x.2.2.2.1) (x.2.2.2.2.1) (x.2.2.2.2.2)⟩]
theorem toml_parser_enter_ok (n : Nat) : PFnOK Tryz.prog (q93_E n) :=
  fnp_t (q93_E n) Tryz.f93 (bodyOf Tryz.f93) [(0, tyP), (1, tyI), (2, .agg [.int .i64, .int .i64, .int .i64, .str]), (3, tyI)] [] (C17 n) [] (q93_pt n) [] (q93_jt n) q93_dr (by kernel_rfl) (by kernel_rfl) (by kernel_rfl) (by kernel_rfl) (by kernel_rfl) ⟨.nil, K17 n, .nil, (.cons (toml_parser_fail_ok n) (.cons (toml_parser_room_ok n) .nil)), by kernel_rfl, .nil, (.cc .nil)⟩ (fun x => by kernel_rfl)
def toml_parser_item (n : Nat) (a0 : Option Addr) (a1 : Int) (a2 : Int) : M (Unit) :=
  M.bind (nn a0) fun x0 =>
  M.bind (nn a0) fun x1 =>
  M.bind (ldL .sl (((x0.plus 3).plus 2).plus 0)) fun (x2 : Sl) =>
  M.bind (ldL .sl (((x1.plus 3).plus 2).plus 0)) fun (x3 : Sl) =>
  M.bind (idxA x3 a1 5) fun x4 =>
  M.bind (ldL .sl (x4.plus 4)) fun (x5 : Sl) =>
  M.bind (app true x5 1 T_i64 1 [vi a2]) fun x6 =>
  M.bind (idxA x2 a1 5) fun x7 =>
  M.bind (stN (x7.plus 4) [vsl x6]) fun x8 =>
  M.pure ()
abbrev q95_E (n : Nat) : Ent := ⟨95, [tyP, tyI, tyI], [], fun x => toml_parser_item n (x.1) (x.2.1) (x.2.2)⟩
def q95_dr (i : Nat) : Option (List (Nat × List Nat)) := cond (Nat.beq i 0) (some [(0, []), (1, []), (2, []), (3, []), (4, []), (6, []), (7, []), (8, []), (9, []), (10, []), (11, []), (13, []), (17, []), (18, []), (5, []), (12, []), (14, []), (15, []), (16, []), (19, []), (20, []), (21, []), (22, [])]) (none)
theorem toml_parser_item_ok (n : Nat) : FnOK Tryz.prog (q95_E n) := fn_c Tryz.f95 (C17 n) (dr := q95_dr) (hT := .m1 (K17 n))
abbrev C18 (n : Nat) : List Ent := q95_E n :: C17 n
theorem K18 (n : Nat) : AllOK Tryz.prog (C18 n) := .cons (toml_parser_item_ok n) (K17 n)
end Go.Sh
