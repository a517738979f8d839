/-
The shallow functions of this seat, part 1, and that each is sound; written by program. No theorem about what they compute stands here.
-/
import Derived.Test.YtnkemhepkppkoaaGreatDoorSh0
import Derived.Test.YtnkemhepkppkoaaGreatDoorMo
set_option maxRecDepth 100000
set_option maxHeartbeats 0
set_option linter.all false
namespace Go.Sh
open Go Go.Ago Go.Proofs
def toml_parser_create (n : Nat) (a0 : Option Addr) (a1 : Int) (a2 : Int × Int × Int × ByteArray) (a3 : Int) (a4 : Int) : M ((Int) ⊕ Value) :=
  M.bind (newB none T_tomllex_Token [vi a2.1, vi a2.2.1, vi a2.2.2.1, Value.string a2.2.2.2]) fun x0 =>
  M.bind (ldLs [li, li, li, .str] (adr x0)) fun (x1 : Int × Int × Int × ByteArray) =>
  M.bind (toml_parser_enter n a0 a1 (x1.1, x1.2.1, x1.2.2.1, x1.2.2.2) 1) (sumElim (fun x2 =>
    M.bind (newB none T_api_Span [vi 0, vi 0, vi 0, vi 0, vi 0, vi 0, vi 0, Value.bool false, Value.bool false]) fun x3 =>
    M.bind (stN (adr x3) [vi x2.1, vi x2.2.1, vi x2.2.2.1, vi x2.2.2.2.1, vi x2.2.2.2.2.1, vi x2.2.2.2.2.2.1, vi x2.2.2.2.2.2.2.1, Value.bool x2.2.2.2.2.2.2.2.1, Value.bool x2.2.2.2.2.2.2.2.2]) fun x4 =>
    M.bind (toml_parser_node n a0 (a4, (ofBytes []), false, sl0, sl0)) fun x5 =>
    M.bind (toml_parser_item n a0 a1 x5) fun x6 =>
    M.bind (ldL (li) ((adr x0).plus 2)) fun (x7 : Int) =>
    M.bind (ldL (li) ((adr x0).plus 2)) fun (x8 : Int) =>
    M.bind (chk [some ((adr x0).plus 2), some ((adr x0).plus 2)] (stN ((adr x3).plus 0) [vi x5])) fun x9 =>
    M.bind (chk [some ((adr x0).plus 2)] (stN ((adr x3).plus 3) [vi x7])) fun x10 =>
    M.bind (stN ((adr x3).plus 4) [vi x8]) fun x11 =>
    M.bind (reserve 27) fun x12 =>
    M.bind (nn a0) fun x13 =>
    M.bind (nn a0) fun x14 =>
    M.bind (nn a0) fun x15 =>
    M.bind (ldL .mp (x13.plus 9)) fun (x16 : Option Nat) =>
    M.bind (ldL (li) (x14.plus 10)) fun (x17 : Int) =>
    M.bind (ldL .mp (x15.plus 9)) fun (x18 : Option Nat) =>
    M.bind (mpGet T_i64 (Ty.one .ptr) none x18 (vi a1)) fun (x19 : Bool × Option Addr) =>
    M.bind (nn x19.2) fun x20 =>
    M.bind (ldL (li) (x20.plus 2)) fun (x21 : Int) =>
    M.bind (ldLs [li, li, li, li, li, li, li, .bool, .bool] (adr x3)) fun (x22 : Int × Int × Int × Int × Int × Int × Int × Bool × Bool) =>
    M.bind (mpNewAt (x12 + 23) T_string) fun x23 =>
    M.bind (chk [some (x13.plus 9), some (x14.plus 10), some (x15.plus 9), some (x20.plus 2)] (toml_parser_span n a0 (x22.1, x22.2.1, x22.2.2.1, x22.2.2.2.1, x22.2.2.2.2.1, x22.2.2.2.2.2.1, x22.2.2.2.2.2.2.1, x22.2.2.2.2.2.2.2.1, x22.2.2.2.2.2.2.2.2))) fun x24 =>
    M.bind (newB (some (x12 + 25)) T_toml_mark [vi a3, vi x17, vi (IntKind.i64.wrap (x21 + 1)), vi x24, Value.map (some x23)]) fun x25 =>
    M.bind (mpSet T_i64 x16 (vi x5) (Value.pointer (some (adr x25)))) fun x26 =>
    M.pure (Sum.inl x5))
  (fun x2 =>
    M.pure (Sum.inr x2)))
abbrev q90_E (n : Nat) : PEnt := ⟨90, [tyP, tyI, .agg [.int .i64, .int .i64, .int .i64, .str], tyI, tyI], [tyI], fun x => toml_parser_create n (x.1) (x.2.1) (x.2.2.1) (x.2.2.2.1) (x.2.2.2.2)⟩
abbrev q90_pt (n : Nat) : List PEnt := [q93_E n]
def q90_dr (i : Nat) : Option (List (Nat × List Nat)) := cond (Nat.beq i 4) (some [(0, []), (1, []), (3, []), (5, []), (2, []), (4, []), (6, [2, 4]), (7, []), (8, [4]), (9, []), (10, [])]) (cond (Nat.beq i 5) (some [(0, []), (1, []), (2, []), (4, []), (5, []), (6, []), (7, []), (8, []), (10, []), (11, []), (12, []), (14, []), (20, []), (3, []), (9, []), (13, []), (15, []), (16, []), (17, []), (18, []), (19, []), (21, []), (23, []), (22, [3, 9, 13, 18]), (24, []), (25, []), (26, [])]) (none))
theorem toml_parser_create_mo (n : Nat) : AllMo (C18 n) [48] := AllMo.one (e := q48_E n) (fun x => toml_parser_span_anti n x) (lookS_find (by kernel_rfl))
theorem toml_parser_create_ok (n : Nat) : PFnOK Tryz.prog (q90_E n) :=
  fnp_t (q90_E n) Tryz.f90 (bodyOf Tryz.f90) [(0, tyP), (1, tyI), (2, .agg [.int .i64, .int .i64, .int .i64, .str]), (3, tyI), (4, tyI)] [48] (C18 n) [] (q90_pt n) [] [] q90_dr (by kernel_rfl) (by kernel_rfl) (by kernel_rfl) (by kernel_rfl) (by kernel_rfl) ⟨(toml_parser_create_mo n), K18 n, .nil, (.cons (toml_parser_enter_ok n) .nil), by kernel_rfl, .nil, .nil⟩ (fun x => by kernel_rfl)
def toml_parser_kindOf (n : Nat) (a0 : Option Addr) (a1 : Int) : M (Int) :=
  M.bind (nn a0) fun x0 =>
  M.bind (ldL .mp (x0.plus 9)) fun (x1 : Option Nat) =>
  M.bind (mpGet T_i64 (Ty.one .ptr) none x1 (vi a1)) fun (x2 : Bool × Option Addr) =>
  if x2.1 then
    M.bind (nn x2.2) fun x3 =>
    M.bind (ldL (li) (x3.plus 0)) fun (x4 : Int) =>
    M.pure x4
  else
    M.pure 0
abbrev q91_E (n : Nat) : Ent := ⟨91, [tyP, tyI], [tyI], fun x => toml_parser_kindOf n (x.1) (x.2)⟩
theorem toml_parser_kindOf_ok (n : Nat) : FnOK Tryz.prog (q91_E n) := fn_c Tryz.f91 (C18 n) (hT := .m1 (K18 n))
abbrev C19 (n : Nat) : List Ent := q91_E n :: C18 n
theorem K19 (n : Nat) : AllOK Tryz.prog (C19 n) := .cons (toml_parser_kindOf_ok n) (K18 n)
def toml_parser_head_L0_J0_B (G : Option Addr → Bool → Int → Addr → Sl → Int → Int → M ((Int) ⊕ Value)) (n : Nat) (a0 : Option Addr) (a1 : Bool) (a2 : Int) (a3 : Addr) (a4 : Addr) (a5 : Int) (a6 : Sl) (a7 : Int) (a8 : Int) (a9 : Int) : M ((Int) ⊕ Value) :=
  if decide (a9 = 5) then
    M.bind (nn a0) fun x0 =>
    M.bind (ldL .sl (((x0.plus 3).plus 2).plus 0)) fun (x1 : Sl) =>
    M.bind (idxA x1 a5 5) fun x2 =>
    M.bind (ldL .sl (x2.plus 4)) fun (x3 : Sl) =>
    M.bind (idxA x3 (IntKind.i64.wrap ((↑x3.len : Int) - 1)) 1) fun x4 =>
    M.bind (ldL (li) x4) fun (x5 : Int) =>
    G a0 a1 x5 a3 a6 a7 (IntKind.i64.wrap (a8 + 1))
  else
    M.bind (ldL (li) (a4.plus 1)) fun (x0 : Int) =>
    M.bind (toml_parser_fail n a0 x0 8) (sumElim (fun x1 =>
      G a0 a1 a2 a3 a6 a7 (IntKind.i64.wrap (a8 + 1)))
    (fun x1 =>
      M.pure (Sum.inr x1)))
def toml_parser_head_L0_B (G : Option Addr → Bool → Int → Addr → Sl → Int → Int → M ((Int) ⊕ Value)) (n : Nat) (a0 : Option Addr) (a1 : Bool) (a2 : Int) (a3 : Addr) (a4 : Sl) (a5 : Int) (a6 : Int) : M ((Int) ⊕ Value) :=
  if decide (a6 < a5) then
    M.bind (idxA a4 a6 4) fun x0 =>
    M.bind (ldLs [li, li, li, .str] x0) fun (x1 : Int × Int × Int × ByteArray) =>
    M.bind (newB none T_tomllex_Token [vi 0, vi 0, vi 0, Value.string (ofBytes [])]) fun x2 =>
    M.bind (stN (adr x2) [vi x1.1, vi x1.2.1, vi x1.2.2.1, Value.string x1.2.2.2]) fun x3 =>
    M.bind (ldLs [li, li, li, .str] (adr x2)) fun (x4 : Int × Int × Int × ByteArray) =>
    M.bind (toml_parser_find n a0 a2 (x4.1, x4.2.1, x4.2.2.1, x4.2.2.2)) fun x5 =>
    if !x5.2 then
      M.bind (ldLs [li, li, li, .str] (adr x2)) fun (x6 : Int × Int × Int × ByteArray) =>
      M.bind (toml_parser_create n a0 a2 (x6.1, x6.2.1, x6.2.2.1, x6.2.2.2) 2 10) (sumElim (fun x7 =>
        G a0 a1 x7 a3 a4 a5 (IntKind.i64.wrap (a6 + 1)))
      (fun x7 =>
        M.pure (Sum.inr x7)))
    else
      M.bind (toml_parser_kindOf n a0 x5.1) fun x6 =>
      if decide (x6 = 1) then
        G a0 a1 x5.1 a3 a4 a5 (IntKind.i64.wrap (a6 + 1))
      else
        if decide (x6 = 2) then
          G a0 a1 x5.1 a3 a4 a5 (IntKind.i64.wrap (a6 + 1))
        else
          if decide (x6 = 3) then
            G a0 a1 x5.1 a3 a4 a5 (IntKind.i64.wrap (a6 + 1))
          else
            toml_parser_head_L0_J0_B G n a0 a1 a2 a3 (adr x2) x5.1 a4 a5 a6 x6
  else
    M.pure (Sum.inl a2)
def toml_parser_head_L0 : Nat → Option Addr → Bool → Int → Addr → Sl → Int → Int → M ((Int) ⊕ Value)
  | 0 => fun _ _ _ _ _ _ _ => M.fail
  | n + 1 => toml_parser_head_L0_B (toml_parser_head_L0 n) n
theorem toml_parser_head_L0_succ (n : Nat) : toml_parser_head_L0 (n + 1) = toml_parser_head_L0_B (toml_parser_head_L0 n) n := rfl
def toml_parser_head_L0_J0 (n : Nat) := toml_parser_head_L0_J0_B (toml_parser_head_L0 n) n
def toml_parser_head_J4 (n : Nat) (a0 : Option Addr) (a1 : Int) : M ((Int) ⊕ Value) :=
  M.bind (nn a0) fun x0 =>
  M.bind (nn a0) fun x1 =>
  M.bind (nn a0) fun x2 =>
  M.bind (ldL .mp (x0.plus 9)) fun (x3 : Option Nat) =>
  M.bind (mpGet T_i64 (Ty.one .ptr) none x3 (vi a1)) fun (x4 : Bool × Option Addr) =>
  M.bind (ldL .mp (x1.plus 9)) fun (x5 : Option Nat) =>
  M.bind (mpGet T_i64 (Ty.one .ptr) none x5 (vi a1)) fun (x6 : Bool × Option Addr) =>
  M.bind (ldL (li) (x2.plus 10)) fun (x7 : Int) =>
  M.bind (nn x4.2) fun x8 =>
  M.bind (stN (x8.plus 0) [vi 1]) fun x9 =>
  M.bind (nn x6.2) fun x10 =>
  M.bind (stN (x10.plus 1) [vi x7]) fun x11 =>
  M.pure (Sum.inl a1)
def toml_parser_head_J3 (n : Nat) (a0 : Option Addr) (a1 : Bool) (a2 : Int) (a3 : Addr) (a4 : Int) (a5 : Bool) : M ((Int) ⊕ Value) :=
  if a1 then
    if !a5 then
      M.bind (ldLs [li, li, li, .str] a3) fun (x0 : Int × Int × Int × ByteArray) =>
      M.bind (toml_parser_create n a0 a2 (x0.1, x0.2.1, x0.2.2.1, x0.2.2.2) 5 9) (sumElim (fun x1 =>
        M.bind (ldLs [li, li, li, .str] a3) fun (x2 : Int × Int × Int × ByteArray) =>
        M.fail)
      (fun x1 =>
        M.pure (Sum.inr x1)))
    else
      M.bind (ldLs [li, li, li, .str] a3) fun (x0 : Int × Int × Int × ByteArray) =>
      M.fail
  else
    if !a5 then
      M.bind (ldLs [li, li, li, .str] a3) fun (x0 : Int × Int × Int × ByteArray) =>
      M.bind (toml_parser_create n a0 a2 (x0.1, x0.2.1, x0.2.2.1, x0.2.2.2) 1 10) (sumElim (fun x1 =>
        M.pure (Sum.inl x1))
      (fun x1 =>
        M.pure (Sum.inr x1)))
    else
      toml_parser_head_J4 n a0 a4
def toml_parser_head_J2 (n : Nat) (a0 : Option Addr) (a1 : Bool) (a2 : Int) (a3 : Addr) (a4 : Int) (a5 : Bool) : M ((Int) ⊕ Value) :=
  if !a1 then
    if a5 then
      M.bind (toml_parser_kindOf n a0 a4) fun x0 =>
      if !decide (x0 = 2) then
        M.bind (ldL (li) (a3.plus 1)) fun (x1 : Int) =>
        M.bind (toml_parser_fail n a0 x1 8) (sumElim (fun x2 =>
          toml_parser_head_J4 n a0 a4)
        (fun x2 =>
          M.pure (Sum.inr x2)))
      else
        toml_parser_head_J3 n a0 a1 a2 a3 a4 a5
    else
      toml_parser_head_J3 n a0 a1 a2 a3 a4 a5
  else
    toml_parser_head_J3 n a0 a1 a2 a3 a4 a5
def toml_parser_head_J1 (n : Nat) (a0 : Option Addr) (a1 : Bool) (a2 : Sl) : M ((Int) ⊕ Value) :=
  M.bind (nn a0) fun x0 =>
  M.bind (ldL (li) (x0.plus 11)) fun (x1 : Int) =>
  M.bind (nn a0) fun x2 =>
  M.bind (stN (x2.plus 11) [vi (IntKind.i64.wrap (x1 + 1))]) fun x3 =>
  M.bind (nn a0) fun x4 =>
  M.bind (ldL (li) (x4.plus 11)) fun (x5 : Int) =>
  M.bind (nn a0) fun x6 =>
  M.bind (stN (x6.plus 10) [vi x5]) fun x7 =>
  M.bind (idxA a2 (IntKind.i64.wrap ((↑a2.len : Int) - 1)) 4) fun x8 =>
  M.bind (ldLs [li, li, li, .str] x8) fun (x9 : Int × Int × Int × ByteArray) =>
  M.bind (newB none T_tomllex_Token [vi 0, vi 0, vi 0, Value.string (ofBytes [])]) fun x10 =>
  M.bind (stN (adr x10) [vi x9.1, vi x9.2.1, vi x9.2.2.1, Value.string x9.2.2.2]) fun x11 =>
  M.bind (sliceL a2 0 (IntKind.i64.wrap ((↑a2.len : Int) - 1)) T_tomllex_Token 4) fun x12 =>
  M.bind (toml_parser_head_L0 n a0 a1 0 (adr x10) x12 (↑x12.len : Int) 0) (sumElim (fun x13 =>
    M.bind (ldLs [li, li, li, .str] (adr x10)) fun (x14 : Int × Int × Int × ByteArray) =>
    M.bind (toml_parser_find n a0 x13 (x14.1, x14.2.1, x14.2.2.1, x14.2.2.2)) fun x15 =>
    if a1 then
      if x15.2 then
        M.bind (toml_parser_kindOf n a0 x15.1) fun x16 =>
        if !decide (x16 = 5) then
          M.bind (ldL (li) ((adr x10).plus 1)) fun (x17 : Int) =>
          M.bind (toml_parser_fail n a0 x17 8) (sumElim (fun x18 =>
            toml_parser_head_J4 n a0 x15.1)
          (fun x18 =>
            M.pure (Sum.inr x18)))
        else
          toml_parser_head_J2 n a0 a1 x13 (adr x10) x15.1 x15.2
      else
        toml_parser_head_J2 n a0 a1 x13 (adr x10) x15.1 x15.2
    else
      toml_parser_head_J2 n a0 a1 x13 (adr x10) x15.1 x15.2)
  (fun x13 =>
    M.pure (Sum.inr x13)))
def toml_parser_head_J0 (n : Nat) (a0 : Option Addr) (a1 : Bool) : M ((Int) ⊕ Value) :=
  M.bind (toml_parser_key n a0) (sumElim (fun x0 =>
    M.bind (toml_parser_token n a0) fun x1 =>
    M.bind (newB none T_tomllex_Token [vi 0, vi 0, vi 0, Value.string (ofBytes [])]) fun x2 =>
    M.bind (stN (adr x2) [vi x1.1, vi x1.2.1, vi x1.2.2.1, Value.string x1.2.2.2]) fun x3 =>
    M.bind (toml_parser_expect n a0 (ofBytes [93])) (sumElim (fun x4 =>
      if a1 then
        M.bind (ldL (li) ((adr x2).plus 2)) fun (x5 : Int) =>
        M.bind (chk [some ((adr x2).plus 2)] (toml_parser_token n a0)) fun x6 =>
        if !decide (x6.2.1 = x5) then
          M.bind (toml_parser_token n a0) fun x7 =>
          M.bind (toml_parser_fail n a0 x7.2.1 4) (sumElim (fun x8 =>
            M.bind (toml_parser_expect n a0 (ofBytes [93])) (sumElim (fun x9 =>
              toml_parser_head_J1 n a0 a1 x0)
            (fun x9 =>
              M.pure (Sum.inr x9))))
          (fun x8 =>
            M.pure (Sum.inr x8)))
        else
          M.bind (toml_parser_expect n a0 (ofBytes [93])) (sumElim (fun x7 =>
            toml_parser_head_J1 n a0 a1 x0)
          (fun x7 =>
            M.pure (Sum.inr x7)))
      else
        toml_parser_head_J1 n a0 a1 x0)
    (fun x4 =>
      M.pure (Sum.inr x4))))
  (fun x0 =>
    M.pure (Sum.inr x0)))
def toml_parser_head_B (j0 : Option Addr → Bool → M ((Int) ⊕ Value)) (n : Nat) (a0 : Option Addr) : M ((Int) ⊕ Value) :=
  M.bind (toml_parser_token n a0) fun x0 =>
  M.bind (newB none T_tomllex_Token [vi 0, vi 0, vi 0, Value.string (ofBytes [])]) fun x1 =>
  M.bind (stN (adr x1) [vi x0.1, vi x0.2.1, vi x0.2.2.1, Value.string x0.2.2.2]) fun x2 =>
  M.bind (nn a0) fun x3 =>
  M.bind (ldL (li) (x3.plus 2)) fun (x4 : Int) =>
  M.bind (nn a0) fun x5 =>
  M.bind (stN (x5.plus 2) [vi (IntKind.i64.wrap (x4 + 1))]) fun x6 =>
  M.bind (toml_parser_is n a0 (ofBytes [91])) fun x7 =>
  if x7 then
    M.bind (ldL (li) ((adr x1).plus 2)) fun (x8 : Int) =>
    M.bind (chk [some ((adr x1).plus 2)] (toml_parser_token n a0)) fun x9 =>
    if decide (x9.2.1 = x8) then
      M.bind (nn a0) fun x10 =>
      M.bind (ldL (li) (x10.plus 2)) fun (x11 : Int) =>
      M.bind (nn a0) fun x12 =>
      M.bind (stN (x12.plus 2) [vi (IntKind.i64.wrap (x11 + 1))]) fun x13 =>
      j0 a0 (decide (x9.2.1 = x8))
    else
      j0 a0 (decide (x9.2.1 = x8))
  else
    j0 a0 false
def toml_parser_head (n : Nat) : Option Addr → M ((Int) ⊕ Value) := toml_parser_head_B (toml_parser_head_J0 n) n
abbrev q50_E (n : Nat) : PEnt := ⟨50, [tyP], [tyI], fun x => toml_parser_head n x⟩
abbrev q50_L0_w : List Nat := [7, 10, 11, 12, 13] ++ List.range' 89 48
abbrev q50_L0_a : List (Nat × Ty) := [(0, tyP), (4, tyB), (7, tyI), (8, tyA), (87, tyL), (88, tyI), (89, tyI)]
abbrev q50_L0_p : Path := [0, 1, 0, 1, 1, 1, 1, 1, 1, 1, 1, 1, 1, 1, 1, 1]
abbrev q50_L0_g (n : Nat) (x : TsDen (tys q50_L0_a)) : M ((Int) ⊕ Value) := toml_parser_head_L0 n (x.1) (x.2.1) (x.2.2.1) (x.2.2.2.1) (x.2.2.2.2.1) (x.2.2.2.2.2.1) (x.2.2.2.2.2.2)
abbrev q50_L0_l (n : Nat) : LEnt := ⟨q50_L0_p, q50_L0_a, actL1P q50_L0_a [(7, tyI)] q50_L0_w 0 (q50_L0_g n)⟩
abbrev q50_pt (n : Nat) : List PEnt := [q53_E n, q87_E n, q88_E n, q90_E n]
def q50_dr (i : Nat) : Option (List (Nat × List Nat)) := cond (Nat.beq i 3) (some [(0, []), (1, []), (2, []), (3, []), (6, []), (7, []), (4, [7]), (5, []), (8, []), (9, []), (10, [])]) (cond (Nat.beq i 10) (some [(0, []), (3, []), (4, []), (1, [4]), (2, []), (5, [])]) (cond (Nat.beq i 43) (some [(0, []), (1, []), (2, []), (4, []), (6, []), (7, []), (8, []), (10, []), (12, []), (13, []), (14, []), (3, []), (5, []), (9, []), (11, []), (15, []), (16, []), (17, []), (18, []), (19, []), (20, []), (21, [])]) (none)))
abbrev q50_L0_jt (n : Nat) : List (JEnt ((Int) ⊕ Value)) := [⟨[0, 1, 1, 0, 1, 1, 1, 1, 0, 0, 1, 1, 0, 0, 1, 0, 1, 1, 1, 1, 1, 1, 1, 1, 1, 1, 1, 1, 1], [.code [1, 1, 1, 0, 1, 1, 1, 1, 0, 0, 1, 1, 0, 0, 1, 0, 1, 1, 1, 1, 1, 1, 1, 1, 1, 1, 1, 1, 1], .blk 2, .blk 1, .code [1, 1, 1, 0, 0, 1, 0, 1, 1, 1, 1, 1, 1, 1, 1, 1, 1, 1, 1, 1]], [(0, tyP), (4, tyB), (7, tyI), (8, tyA), (10, tyA), (11, tyI), (87, tyL), (88, tyI), (89, tyI), (108, tyI)], fun x => toml_parser_head_L0_J0 n (x.1) (x.2.1) (x.2.2.1) (x.2.2.2.1) (x.2.2.2.2.1) (x.2.2.2.2.2.1) (x.2.2.2.2.2.2.1) (x.2.2.2.2.2.2.2.1) (x.2.2.2.2.2.2.2.2.1) (x.2.2.2.2.2.2.2.2.2)⟩]
abbrev q50_jt (n : Nat) : List (JEnt ((Int) ⊕ Value)) := [⟨[0, 1, 1, 1, 1, 1], [.code [1, 1, 1, 1, 1, 1]], [(0, tyP), (4, tyB)], fun x => toml_parser_head_J0 n (x.1) (x.2)⟩,
  ⟨[0, 1, 1, 1, 1, 1, 1, 1, 1, 1], [.code [1, 1, 1, 1, 1, 1, 1, 1, 1, 1]], [(0, tyP), (4, tyB), (5, tyL)], fun x => toml_parser_head_J1 n (x.1) (x.2.1) (x.2.2)⟩,
  ⟨[1, 1, 0, 0, 0, 1, 1, 1, 1, 1, 1, 1, 1, 1, 1, 1, 1, 1, 1, 1], [.code [1, 0, 0, 1, 1, 1, 1, 1, 1, 1, 1, 1, 1, 1, 1, 1, 1, 1], .blk 3, .code [1, 1, 1, 1, 1, 1, 1, 1, 1, 1, 1, 1, 1, 1, 1, 1]], [(0, tyP), (4, tyB), (7, tyI), (8, tyA), (14, tyI), (15, tyB)], fun x => toml_parser_head_J2 n (x.1) (x.2.1) (x.2.2.1) (x.2.2.2.1) (x.2.2.2.2.1) (x.2.2.2.2.2)⟩,
  ⟨[0, 1, 1, 0, 0, 1, 1, 1, 1, 1, 1, 1, 1, 1, 1, 1, 1, 1, 1, 1], [.code [1, 1, 1, 0, 0, 1, 1, 1, 1, 1, 1, 1, 1, 1, 1, 1, 1, 1, 1, 1], .blk 3, .code [1, 1, 1, 1, 1, 1, 1, 1, 1, 1, 1, 1, 1, 1, 1, 1]], [(0, tyP), (4, tyB), (7, tyI), (8, tyA), (14, tyI), (15, tyB)], fun x => toml_parser_head_J3 n (x.1) (x.2.1) (x.2.2.1) (x.2.2.2.1) (x.2.2.2.2.1) (x.2.2.2.2.2)⟩,
  ⟨[0, 1, 1, 1, 1, 1, 1, 1, 1, 1, 1, 1, 1, 1, 1, 1, 1], [.code [1, 1, 1, 1, 1, 1, 1, 1, 1, 1, 1, 1, 1, 1, 1, 1, 1]], [(0, tyP), (14, tyI)], fun x => toml_parser_head_J4 n (x.1) (x.2)⟩]
theorem q50_L0_ok (n : Nat) {W : Wr} (hW : subW W 210 q50_L0_w = true) : LEntOK Tryz.prog (bodyOf Tryz.f50) W (q50_L0_l n) :=
  loop1P_t (bodyOf Tryz.f50) q50_L0_p q50_L0_a [(7, tyI)] 0 210 q50_L0_w [] C19 (fun _ => []) q50_pt (fun _ => []) q50_dr q50_L0_g q50_L0_jt (by kernel_rfl) (fun _ => by kernel_rfl) (fun n x => by kernel_rfl) n (fun m hm => ⟨.nil, K19 m, .nil, (.cons (toml_parser_fail_ok m) (.cons (toml_parser_key_ok m) (.cons (toml_parser_expect_ok m) (.cons (toml_parser_create_ok m) .nil)))), by kernel_rfl, .nil, (.cc .nil)⟩) hW
theorem toml_parser_head_eq (n : Nat) (j0 : Option Addr → Bool → M ((Int) ⊕ Value)) (x : TsDen [tyP]) : den Tryz.prog (bodyOf Tryz.f50) ⟨lookC (C19 n) [] [] (q50_pt n), lookL [q50_L0_l n], lookJ ([⟨[0, 1, 1, 1, 1, 1], [.code [1, 1, 1, 1, 1, 1]], [(0, tyP), (4, tyB)], fun x => j0 (x.1) (x.2)⟩,
  ⟨[0, 1, 1, 1, 1, 1, 1, 1, 1, 1], [.code [1, 1, 1, 1, 1, 1, 1, 1, 1, 1]], [(0, tyP), (4, tyB), (5, tyL)], fun x => toml_parser_head_J1 n (x.1) (x.2.1) (x.2.2)⟩,
  ⟨[1, 1, 0, 0, 0, 1, 1, 1, 1, 1, 1, 1, 1, 1, 1, 1, 1, 1, 1, 1], [.code [1, 0, 0, 1, 1, 1, 1, 1, 1, 1, 1, 1, 1, 1, 1, 1, 1, 1], .blk 3, .code [1, 1, 1, 1, 1, 1, 1, 1, 1, 1, 1, 1, 1, 1, 1, 1]], [(0, tyP), (4, tyB), (7, tyI), (8, tyA), (14, tyI), (15, tyB)], fun x => toml_parser_head_J2 n (x.1) (x.2.1) (x.2.2.1) (x.2.2.2.1) (x.2.2.2.2.1) (x.2.2.2.2.2)⟩,
  ⟨[0, 1, 1, 0, 0, 1, 1, 1, 1, 1, 1, 1, 1, 1, 1, 1, 1, 1, 1, 1], [.code [1, 1, 1, 0, 0, 1, 1, 1, 1, 1, 1, 1, 1, 1, 1, 1, 1, 1, 1, 1], .blk 3, .code [1, 1, 1, 1, 1, 1, 1, 1, 1, 1, 1, 1, 1, 1, 1, 1]], [(0, tyP), (4, tyB), (7, tyI), (8, tyA), (14, tyI), (15, tyB)], fun x => toml_parser_head_J3 n (x.1) (x.2.1) (x.2.2.1) (x.2.2.2.1) (x.2.2.2.2.1) (x.2.2.2.2.2)⟩,
  ⟨[0, 1, 1, 1, 1, 1, 1, 1, 1, 1, 1, 1, 1, 1, 1, 1, 1], [.code [1, 1, 1, 1, 1, 1, 1, 1, 1, 1, 1, 1, 1, 1, 1, 1, 1]], [(0, tyP), (14, tyI)], fun x => toml_parser_head_J4 n (x.1) (x.2)⟩] : List (JEnt ((Int) ⊕ Value))), q50_dr, inrP⟩ (210, none) (finP (finF Tryz.prog Tryz.f50 [tyI])) 400 false [.code []] (putE [(0, tyP)] (pkTs [tyP] x)) = toml_parser_head_B j0 n x := by kernel_rfl
theorem toml_parser_head_ok (n : Nat) : PFnOK Tryz.prog (q50_E n) :=
  fnp_t (q50_E n) Tryz.f50 (bodyOf Tryz.f50) [(0, tyP)] [] (C19 n) [] (q50_pt n) [q50_L0_l n] (q50_jt n) q50_dr (by kernel_rfl) (by kernel_rfl) (by kernel_rfl) (by kernel_rfl) (by kernel_rfl) ⟨.nil, K19 n, .nil, (.cons (toml_parser_fail_ok n) (.cons (toml_parser_key_ok n) (.cons (toml_parser_expect_ok n) (.cons (toml_parser_create_ok n) .nil)))), by kernel_rfl, (.cons (q50_L0_ok n (by kernel_rfl)) .nil), (.cc (.cc (.cc (.cc (.cc .nil)))))⟩ (fun x => toml_parser_head_eq n (toml_parser_head_J0 n) x)
def toml_parser_limits (n : Nat) (a0 : Option Addr) (a1 : Int) (a2 : Int) : M ((Unit) ⊕ Value) :=
  if decide (32 < a1) then
    M.bind (toml_parser_fail n a0 a2 5) (sumElim (fun x0 =>
      M.bind (toml_parser_room n a0 1 a2) (sumElim (fun x1 =>
        M.pure (Sum.inl ()))
      (fun x1 =>
        M.pure (Sum.inr x1))))
    (fun x0 =>
      M.pure (Sum.inr x0)))
  else
    M.bind (toml_parser_room n a0 1 a2) (sumElim (fun x0 =>
      M.pure (Sum.inl ()))
    (fun x0 =>
      M.pure (Sum.inr x0)))
abbrev q130_E (n : Nat) : PEnt := ⟨130, [tyP, tyI, tyI], [], fun x => toml_parser_limits n (x.1) (x.2.1) (x.2.2)⟩
abbrev q130_pt (n : Nat) : List PEnt := [q53_E n, q131_E n]
theorem toml_parser_limits_ok (n : Nat) : PFnOK Tryz.prog (q130_E n) :=
  fnp_t (q130_E n) Tryz.f130 (bodyOf Tryz.f130) [(0, tyP), (1, tyI), (2, tyI)] [] (C19 n) [] (q130_pt n) [] [] (fun _ => none) (by kernel_rfl) (by kernel_rfl) (by kernel_rfl) (by kernel_rfl) (by kernel_rfl) ⟨.nil, K19 n, .nil, (.cons (toml_parser_fail_ok n) (.cons (toml_parser_room_ok n) .nil)), by kernel_rfl, .nil, .nil⟩ (fun x => by kernel_rfl)
def toml_parser_run_L0_J0_B (G : Option Addr → Int → M (Int)) (n : Nat) (a0 : Option Addr) (a1 : Int) : M (Int) :=
  M.bind (toml_parser_token n a0) fun x0 =>
  M.bind (nn a0) fun x1 =>
  M.bind (ldL (li) (x1.plus 2)) fun (x2 : Int) =>
  M.bind (nn a0) fun x3 =>
  M.bind (stN (x3.plus 2) [vi (IntKind.i64.wrap (x2 + 1))]) fun x4 =>
  G a0 x0.2.2.1
def toml_parser_run_L0_B (G : Option Addr → Int → M (Int)) (n : Nat) (a0 : Option Addr) (a1 : Int) : M (Int) :=
  M.bind (toml_parser_token n a0) fun x0 =>
  if decide (x0.1 = 3) then
    M.bind (toml_parser_token n a0) fun x1 =>
    if decide (x1.2.1 = a1) then
      toml_parser_run_L0_J0_B G n a0 a1
    else
      M.pure a1
  else
    M.bind (toml_parser_is n a0 (ofBytes [46])) fun x1 =>
    if x1 then
      M.bind (toml_parser_token n a0) fun x2 =>
      if decide (x2.2.1 = a1) then
        toml_parser_run_L0_J0_B G n a0 a1
      else
        M.pure a1
    else
      M.pure a1
def toml_parser_run_L0 : Nat → Option Addr → Int → M (Int)
  | 0 => fun _ _ => M.fail
  | n + 1 => toml_parser_run_L0_B (toml_parser_run_L0 n) n
theorem toml_parser_run_L0_succ (n : Nat) : toml_parser_run_L0 (n + 1) = toml_parser_run_L0_B (toml_parser_run_L0 n) n := rfl
def toml_parser_run_L0_J0 (n : Nat) := toml_parser_run_L0_J0_B (toml_parser_run_L0 n) n
def toml_parser_run (n : Nat) (a0 : Option Addr) : M (Int) :=
  M.bind (toml_parser_token n a0) fun x0 =>
  M.bind (nn a0) fun x1 =>
  M.bind (ldL (li) (x1.plus 2)) fun (x2 : Int) =>
  M.bind (nn a0) fun x3 =>
  M.bind (stN (x3.plus 2) [vi (IntKind.i64.wrap (x2 + 1))]) fun x4 =>
  M.bind (toml_parser_run_L0 n a0 x0.2.2.1) fun x5 =>
  M.pure x5
abbrev q159_E (n : Nat) : Ent := ⟨159, [tyP], [tyI], fun x => toml_parser_run n x⟩
abbrev q159_L0 : L1 := ⟨[0, 1, 0, 1, 1], [(0, tyP), (3, tyI)], [(3, tyI)], [3] ++ List.range' 14 25, 0, fun n x => toml_parser_run_L0 n (x.1) (x.2)⟩
abbrev q159_L0_jt (n : Nat) : List (JEnt (Int)) := [⟨[0, 0, 1, 0, 0, 1, 0, 1, 1], [.blk 1, .code [1, 1, 0, 0, 1, 0, 1, 1]], [(0, tyP), (3, tyI)], fun x => toml_parser_run_L0_J0 n (x.1) (x.2)⟩]
theorem q159_L0_ok (n : Nat) : LOK Tryz.prog Tryz.f159 (q159_L0.e n) q159_L0.ws := L1.ok Tryz.f159 q159_L0 n C19 (jt := q159_L0_jt) (hT := fun m _ => ⟨.nil, K19 m, .nil, .nil, (.cc .nil)⟩)
theorem toml_parser_run_ok (n : Nat) : FnOK Tryz.prog (q159_E n) := fn_c Tryz.f159 (C19 n) (ll := [q159_L0.e n]) (hT := ⟨.nil, K19 n, .nil, (.cc (q159_L0_ok n) .nil), .nil⟩)
abbrev C20 (n : Nat) : List Ent := q159_E n :: C19 n
theorem K20 (n : Nat) : AllOK Tryz.prog (C20 n) := .cons (toml_parser_run_ok n) (K19 n)
def toml_digit (n : Nat) (a0 : Int) : M (Bool) :=
  if decide (48 ≤ a0) then
    M.pure (decide (a0 ≤ 57))
  else
    M.pure false
abbrev q161_E (n : Nat) : Ent := ⟨161, [.one (.int .u8)], [tyB], fun x => toml_digit n x⟩
theorem toml_digit_ok (n : Nat) : FnOK Tryz.prog (q161_E n) := fn_c Tryz.f161 (C20 n) (hT := .m1 (K20 n))
abbrev C21 (n : Nat) : List Ent := q161_E n :: C20 n
theorem K21 (n : Nat) : AllOK Tryz.prog (C21 n) := .cons (toml_digit_ok n) (K20 n)
def toml_date_L0_B (G : ByteArray → Int → M ((Unit) ⊕ (Bool))) (n : Nat) (a0 : ByteArray) (a1 : Int) : M ((Unit) ⊕ (Bool)) :=
  if decide (a1 < 10) then
    if decide (a1 = 4) then
      M.bind (idxS a0 a1) fun x0 =>
      if !decide ((↑x0.toNat : Int) = 45) then
        M.pure (Sum.inr false)
      else
        G a0 (IntKind.i64.wrap (a1 + 1))
    else
      if decide (a1 = 7) then
        M.bind (idxS a0 a1) fun x0 =>
        if !decide ((↑x0.toNat : Int) = 45) then
          M.pure (Sum.inr false)
        else
          G a0 (IntKind.i64.wrap (a1 + 1))
      else
        M.bind (idxS a0 a1) fun x0 =>
        M.bind (toml_digit n (↑x0.toNat : Int)) fun x1 =>
        if !x1 then
          M.pure (Sum.inr false)
        else
          G a0 (IntKind.i64.wrap (a1 + 1))
  else
    M.pure (Sum.inl ())
def toml_date_L0 : Nat → ByteArray → Int → M ((Unit) ⊕ (Bool))
  | 0 => fun _ _ => M.fail
  | n + 1 => toml_date_L0_B (toml_date_L0 n) n
theorem toml_date_L0_succ (n : Nat) : toml_date_L0 (n + 1) = toml_date_L0_B (toml_date_L0 n) n := rfl
def toml_date (n : Nat) (a0 : ByteArray) : M (Bool) :=
  if !decide ((↑a0.size : Int) = 10) then
    M.pure false
  else
    M.bind (toml_date_L0 n a0 0) (sumElim (fun x0 =>
      M.pure true)
    (fun x0 =>
      M.pure x0))
abbrev q160_E (n : Nat) : Ent := ⟨160, [tyS], [tyB], fun x => toml_date n x⟩
abbrev q160_L0 : L2 := ⟨[0, 1, 0, 1, 1], [(0, tyS), (7, tyI)], [], [(2, tyB)], [2, 3] ++ List.range' 7 19, 0, .ret, fun n x => toml_date_L0 n (x.1) (x.2)⟩
theorem q160_L0_ok (n : Nat) : LOK Tryz.prog Tryz.f160 (q160_L0.e n) q160_L0.ws := L2.ok Tryz.f160 q160_L0 n C21 (hT := fun m _ => .m1 (K21 m))
theorem toml_date_ok (n : Nat) : FnOK Tryz.prog (q160_E n) := fn_c Tryz.f160 (C21 n) (ll := [q160_L0.e n]) (hT := ⟨.nil, K21 n, .nil, (.cc (q160_L0_ok n) .nil), .nil⟩)
abbrev C22 (n : Nat) : List Ent := q160_E n :: C21 n
theorem K22 (n : Nat) : AllOK Tryz.prog (C22 n) := .cons (toml_date_ok n) (K21 n)
def toml_parser_atom (n : Nat) (a0 : Option Addr) : M (ByteArray) :=
  M.bind (toml_parser_token n a0) fun x0 =>
  M.bind (toml_parser_run n a0) fun x1 =>
  M.bind (toml_parser_token n a0) fun x2 =>
  M.bind (newB none T_tomllex_Token [vi 0, vi 0, vi 0, Value.string (ofBytes [])]) fun x3 =>
  M.bind (stN (adr x3) [vi x2.1, vi x2.2.1, vi x2.2.2.1, Value.string x2.2.2.2]) fun x4 =>
  M.bind (nn a0) fun x5 =>
  M.bind (ldL .str (x5.plus 0)) fun (x6 : ByteArray) =>
  M.bind (sliceS x6 x0.2.1 x1) fun x7 =>
  M.bind (toml_date n x7) fun x8 =>
  if x8 then
    M.bind (ldL (li) ((adr x3).plus 0)) fun (x9 : Int) =>
    if decide (x9 = 3) then
      M.bind (ldL (li) ((adr x3).plus 1)) fun (x10 : Int) =>
      if decide (x10 = IntKind.i64.wrap (x1 + 1)) then
        M.bind (nn a0) fun x11 =>
        M.bind (ldL .str (x11.plus 0)) fun (x12 : ByteArray) =>
        M.bind (idxS x12 x1) fun x13 =>
        if decide ((↑x13.toNat : Int) = 32) then
          M.bind (ldL .str ((adr x3).plus 3)) fun (x14 : ByteArray) =>
          if decide (2 < (↑(ByteArray.size x14) : Int)) then
            M.bind (ldL .str ((adr x3).plus 3)) fun (x15 : ByteArray) =>
            M.bind (idxS x15 0) fun x16 =>
            M.bind (toml_digit n (↑x16.toNat : Int)) fun x17 =>
            if x17 then
              M.bind (ldL .str ((adr x3).plus 3)) fun (x18 : ByteArray) =>
              M.bind (idxS x18 1) fun x19 =>
              M.bind (toml_digit n (↑x19.toNat : Int)) fun x20 =>
              if x20 then
                M.bind (ldL .str ((adr x3).plus 3)) fun (x21 : ByteArray) =>
                M.bind (idxS x21 2) fun x22 =>
                if decide ((↑x22.toNat : Int) = 58) then
                  M.bind (toml_parser_run n a0) fun x23 =>
                  M.bind (nn a0) fun x24 =>
                  M.bind (ldL .str (x24.plus 0)) fun (x25 : ByteArray) =>
                  M.bind (sliceS x25 x0.2.1 x23) fun x26 =>
                  M.pure x26
                else
                  M.bind (nn a0) fun x23 =>
                  M.bind (ldL .str (x23.plus 0)) fun (x24 : ByteArray) =>
                  M.bind (sliceS x24 x0.2.1 x1) fun x25 =>
                  M.pure x25
              else
                M.bind (nn a0) fun x21 =>
                M.bind (ldL .str (x21.plus 0)) fun (x22 : ByteArray) =>
                M.bind (sliceS x22 x0.2.1 x1) fun x23 =>
                M.pure x23
            else
              M.bind (nn a0) fun x18 =>
              M.bind (ldL .str (x18.plus 0)) fun (x19 : ByteArray) =>
              M.bind (sliceS x19 x0.2.1 x1) fun x20 =>
              M.pure x20
          else
            M.bind (nn a0) fun x15 =>
            M.bind (ldL .str (x15.plus 0)) fun (x16 : ByteArray) =>
            M.bind (sliceS x16 x0.2.1 x1) fun x17 =>
            M.pure x17
        else
          M.bind (nn a0) fun x14 =>
          M.bind (ldL .str (x14.plus 0)) fun (x15 : ByteArray) =>
          M.bind (sliceS x15 x0.2.1 x1) fun x16 =>
          M.pure x16
      else
        M.bind (nn a0) fun x11 =>
        M.bind (ldL .str (x11.plus 0)) fun (x12 : ByteArray) =>
        M.bind (sliceS x12 x0.2.1 x1) fun x13 =>
        M.pure x13
    else
      M.bind (nn a0) fun x10 =>
      M.bind (ldL .str (x10.plus 0)) fun (x11 : ByteArray) =>
      M.bind (sliceS x11 x0.2.1 x1) fun x12 =>
      M.pure x12
  else
    M.bind (nn a0) fun x9 =>
    M.bind (ldL .str (x9.plus 0)) fun (x10 : ByteArray) =>
    M.bind (sliceS x10 x0.2.1 x1) fun x11 =>
    M.pure x11
abbrev q132_E (n : Nat) : Ent := ⟨132, [tyP], [tyS], fun x => toml_parser_atom n x⟩
theorem toml_parser_atom_ok (n : Nat) : FnOK Tryz.prog (q132_E n) := fn_c Tryz.f132 (C22 n) (hT := .m1 (K22 n))
abbrev C23 (n : Nat) : List Ent := q132_E n :: C22 n
theorem K23 (n : Nat) : AllOK Tryz.prog (C23 n) := .cons (toml_parser_atom_ok n) (K22 n)
def instant_read_1_L0_J0_B (G : Addr → Addr → Int → Int → Int → M ((Int) ⊕ (Int × Bool))) (n : Nat) (a0 : Addr) (a1 : Addr) (a2 : Int) (a3 : Int) (a4 : Int) : M ((Int) ⊕ (Int × Bool)) :=
  M.bind (ldL .str a1) fun (x0 : ByteArray) =>
  M.bind (ldL (li) a0) fun (x1 : Int) =>
  M.bind (idxS x0 x1) fun x2 =>
  M.bind (ldL (li) a0) fun (x3 : Int) =>
  M.bind (stN a0 [vi (IntKind.i64.wrap (x3 + 1))]) fun x4 =>
  G a0 a1 (IntKind.i64.wrap (IntKind.i64.wrap (10 * a2) + IntKind.i64.wrap (IntKind.u8.wrap ((↑x2.toNat : Int) - 48)))) a3 (IntKind.i64.wrap (a4 + 1))
def instant_read_1_L0_B (G : Addr → Addr → Int → Int → Int → M ((Int) ⊕ (Int × Bool))) (n : Nat) (a0 : Addr) (a1 : Addr) (a2 : Int) (a3 : Int) (a4 : Int) : M ((Int) ⊕ (Int × Bool)) :=
  if decide (a4 < a3) then
    M.bind (ldL (li) a0) fun (x0 : Int) =>
    M.bind (ldL .str a1) fun (x1 : ByteArray) =>
    if decide ((↑(ByteArray.size x1) : Int) ≤ x0) then
      M.pure (Sum.inr (0, false))
    else
      M.bind (ldL .str a1) fun (x2 : ByteArray) =>
      M.bind (ldL (li) a0) fun (x3 : Int) =>
      M.bind (idxS x2 x3) fun x4 =>
      if decide ((↑x4.toNat : Int) < 48) then
        M.pure (Sum.inr (0, false))
      else
        M.bind (ldL .str a1) fun (x5 : ByteArray) =>
        M.bind (ldL (li) a0) fun (x6 : Int) =>
        M.bind (idxS x5 x6) fun x7 =>
        if decide (57 < (↑x7.toNat : Int)) then
          M.pure (Sum.inr (0, false))
        else
          instant_read_1_L0_J0_B G n a0 a1 a2 a3 a4
  else
    M.pure (Sum.inl a2)
def instant_read_1_L0 : Nat → Addr → Addr → Int → Int → Int → M ((Int) ⊕ (Int × Bool))
  | 0 => fun _ _ _ _ _ => M.fail
  | n + 1 => instant_read_1_L0_B (instant_read_1_L0 n) n
theorem instant_read_1_L0_succ (n : Nat) : instant_read_1_L0 (n + 1) = instant_read_1_L0_B (instant_read_1_L0 n) n := rfl
def instant_read_1_L0_J0 (n : Nat) := instant_read_1_L0_J0_B (instant_read_1_L0 n) n
def instant_read_1 (n : Nat) (a0 : Int) (a1 : Addr) (a2 : Addr) : M (Int × Bool) :=
  M.bind (instant_read_1_L0 n a1 a2 0 a0 0) (sumElim (fun x0 =>
    M.pure (x0, true))
  (fun x0 =>
    M.pure (x0.1, x0.2)))
abbrev q188_E (n : Nat) : Ent := ⟨188, [tyI, tyA, tyA], [tyI, tyB], fun x => instant_read_1 n (x.1) (x.2.1) (x.2.2)⟩
abbrev q188_L0 : L2 := ⟨[0, 1, 0, 1, 1], [(1, tyA), (2, tyA), (6, tyI), (7, tyI), (8, tyI)], [(6, tyI)], [(4, tyI), (5, tyB)], [4, 5, 6] ++ List.range' 8 29, 0, .ret, fun n x => instant_read_1_L0 n (x.1) (x.2.1) (x.2.2.1) (x.2.2.2.1) (x.2.2.2.2)⟩
abbrev q188_L0_jt (n : Nat) : List (JEnt ((Int) ⊕ (Int × Bool))) := [⟨[0, 1, 0, 0, 1, 1, 0, 0, 1, 0, 1, 1], [.code [1, 1, 0, 0, 1, 1, 0, 0, 1, 0, 1, 1], .blk 1, .code [1, 1, 1, 0, 0, 1, 0, 1, 1]], [(1, tyA), (2, tyA), (6, tyI), (7, tyI), (8, tyI)], fun x => instant_read_1_L0_J0 n (x.1) (x.2.1) (x.2.2.1) (x.2.2.2.1) (x.2.2.2.2)⟩]
theorem q188_L0_ok (n : Nat) : LOK Tryz.prog Tryz.f188 (q188_L0.e n) q188_L0.ws := L2.ok Tryz.f188 q188_L0 n C23 (jt := q188_L0_jt) (hT := fun m _ => ⟨.nil, K23 m, .nil, .nil, (.cc .nil)⟩)
theorem instant_read_1_ok (n : Nat) : FnOK Tryz.prog (q188_E n) := fn_c Tryz.f188 (C23 n) (ll := [q188_L0.e n]) (hT := ⟨.nil, K23 n, .nil, (.cc (q188_L0_ok n) .nil), .nil⟩)
abbrev C24 (n : Nat) : List Ent := q188_E n :: C23 n
theorem K24 (n : Nat) : AllOK Tryz.prog (C24 n) := .cons (instant_read_1_ok n) (K23 n)
def instant_read_2_D38 (n : Nat) (x : Value) (a0 : Int) : M (Int × Bool) :=
  if isFn F_instant_read_1 x then
    M.bind (asFn [tyA, tyA] x) fun (c : Addr × Addr) => instant_read_1 n a0 (c.1) (c.2)
  else M.fail
def instant_read_2_L0_J0_B (G : Sl → Int → Int → Addr → Addr → Addr → Int → Int → M ((Unit) ⊕ (Bool))) (n : Nat) (a0 : Sl) (a1 : Int) (a2 : Int) (a3 : Addr) (a4 : Addr) (a5 : Addr) (a6 : Int) (a7 : Int) (a8 : Int) (a9 : Int) : M ((Unit) ⊕ (Bool)) :=
  M.bind (ldL .raw a5) fun (x0 : Value) =>
  M.bind (instant_read_2_D38 n x0 a7) fun x1 =>
  if !x1.2 then
    M.pure (Sum.inr false)
  else
    M.bind (idxA a0 a6 1) fun x2 =>
    M.bind (stN x2 [vi x1.1]) fun x3 =>
    G a0 a1 a2 a3 a4 a5 a8 (IntKind.i64.wrap (a9 + 1))
def instant_read_2_L0_B (G : Sl → Int → Int → Addr → Addr → Addr → Int → Int → M ((Unit) ⊕ (Bool))) (n : Nat) (a0 : Sl) (a1 : Int) (a2 : Int) (a3 : Addr) (a4 : Addr) (a5 : Addr) (a6 : Int) (a7 : Int) : M ((Unit) ⊕ (Bool)) :=
  if decide (a7 < a6) then
    if decide (0 < a7) then
      M.bind (ldL (li) a3) fun (x0 : Int) =>
      M.bind (ldL .str a4) fun (x1 : ByteArray) =>
      if decide ((↑(ByteArray.size x1) : Int) ≤ x0) then
        M.pure (Sum.inr false)
      else
        M.bind (ldL .str a4) fun (x2 : ByteArray) =>
        M.bind (ldL (li) a3) fun (x3 : Int) =>
        M.bind (idxS x2 x3) fun x4 =>
        if !decide ((↑x4.toNat : Int) = a2) then
          M.pure (Sum.inr false)
        else
          M.bind (ldL (li) a3) fun (x5 : Int) =>
          M.bind (stN a3 [vi (IntKind.i64.wrap (x5 + 1))]) fun x6 =>
          if decide (a7 = 0) then
            instant_read_2_L0_J0_B G n a0 a1 a2 a3 a4 a5 a7 a1 a6 a7
          else
            instant_read_2_L0_J0_B G n a0 a1 a2 a3 a4 a5 a7 2 a6 a7
    else
      if decide (a7 = 0) then
        instant_read_2_L0_J0_B G n a0 a1 a2 a3 a4 a5 a7 a1 a6 a7
      else
        instant_read_2_L0_J0_B G n a0 a1 a2 a3 a4 a5 a7 2 a6 a7
  else
    M.pure (Sum.inl ())
def instant_read_2_L0 : Nat → Sl → Int → Int → Addr → Addr → Addr → Int → Int → M ((Unit) ⊕ (Bool))
  | 0 => fun _ _ _ _ _ _ _ _ => M.fail
  | n + 1 => instant_read_2_L0_B (instant_read_2_L0 n) n
theorem instant_read_2_L0_succ (n : Nat) : instant_read_2_L0 (n + 1) = instant_read_2_L0_B (instant_read_2_L0 n) n := rfl
def instant_read_2_L0_J0 (n : Nat) := instant_read_2_L0_J0_B (instant_read_2_L0 n) n
def instant_read_2 (n : Nat) (a0 : Sl) (a1 : Int) (a2 : Int) (a3 : Addr) (a4 : Addr) (a5 : Addr) : M (Bool) :=
  M.bind (instant_read_2_L0 n a0 a1 a2 a3 a4 a5 (↑a0.len : Int) 0) (sumElim (fun x0 =>
    M.pure true)
  (fun x0 =>
    M.pure x0))
abbrev q189_E (n : Nat) : Ent := ⟨189, [tyL, tyI, .one (.int .u8), tyA, tyA, tyA], [tyB], fun x => instant_read_2 n (x.1) (x.2.1) (x.2.2.1) (x.2.2.2.1) (x.2.2.2.2.1) (x.2.2.2.2.2)⟩
abbrev q189_L0 : L2 := ⟨[0, 1, 0, 1], [(0, tyL), (1, tyI), (2, .one (.int .u8)), (3, tyA), (4, tyA), (5, tyA), (15, tyI), (16, tyI)], [], [(9, tyB)], List.range' 9 5 ++ List.range' 16 34, 0, .ret, fun n x => instant_read_2_L0 n (x.1) (x.2.1) (x.2.2.1) (x.2.2.2.1) (x.2.2.2.2.1) (x.2.2.2.2.2.1) (x.2.2.2.2.2.2.1) (x.2.2.2.2.2.2.2)⟩
abbrev q189_dt (n : Nat) : List DEnt := [⟨38, [tyI], [tyI, tyB], fun x a => instant_read_2_D38 n x (a)⟩]
abbrev q189_L0_jt (n : Nat) : List (JEnt ((Unit) ⊕ (Bool))) := [⟨[0, 1, 1, 1, 1, 0, 0, 1, 1, 0, 0, 1, 0, 1], [.code [1, 1, 1, 1, 1, 0, 0, 1, 1, 0, 0, 1, 0, 1], .blk 1, .code [1, 1, 1, 0, 0, 1, 0, 1]], [(0, tyL), (1, tyI), (2, .one (.int .u8)), (3, tyA), (4, tyA), (5, tyA), (10, tyI), (11, tyI), (15, tyI), (16, tyI)], fun x => instant_read_2_L0_J0 n (x.1) (x.2.1) (x.2.2.1) (x.2.2.2.1) (x.2.2.2.2.1) (x.2.2.2.2.2.1) (x.2.2.2.2.2.2.1) (x.2.2.2.2.2.2.2.1) (x.2.2.2.2.2.2.2.2.1) (x.2.2.2.2.2.2.2.2.2)⟩]
theorem q189_dk (n : Nat) : AllD Tryz.prog (q189_dt n) := .cons (dent_ok (l := [⟨188, [tyA, tyA], fun a c => instant_read_1 n (a) (c.1) (c.2)⟩]) (.cons (fun a c => callOK_cast (by kernel_rfl) ((instant_read_1_ok n) (a, c.1, c.2))) .nil) (fun x a => by kernel_rfl)) .nil
theorem q189_L0_ok (n : Nat) : LOK Tryz.prog Tryz.f189 (q189_L0.e n) q189_L0.ws := L2.ok Tryz.f189 q189_L0 n C24 (dt := q189_dt) (jt := q189_L0_jt) (hT := fun m _ => ⟨.nil, K24 m, (q189_dk m), .nil, (.cc .nil)⟩)
theorem instant_read_2_ok (n : Nat) : FnOK Tryz.prog (q189_E n) := fn_c Tryz.f189 (C24 n) (dl := q189_dt n) (ll := [q189_L0.e n]) (hT := ⟨.nil, K24 n, (q189_dk n), (.cc (q189_L0_ok n) .nil), .nil⟩)
abbrev C25 (n : Nat) : List Ent := q189_E n :: C24 n
theorem K25 (n : Nat) : AllOK Tryz.prog (C25 n) := .cons (instant_read_2_ok n) (K24 n)
def instant_read_D19 (n : Nat) (x : Value) (a0 : Sl) (a1 : Int) (a2 : Int) : M (Bool) :=
  if isFn F_instant_read_2 x then
    M.bind (asFn [tyA, tyA, tyA] x) fun (c : Addr × Addr × Addr) => instant_read_2 n a0 a1 a2 (c.1) (c.2.1) (c.2.2)
  else M.fail
def instant_read_D44 (n : Nat) (x : Value) (a0 : Sl) (a1 : Int) (a2 : Int) : M (Bool) :=
  if isFn F_instant_read_2 x then
    M.bind (asFn [tyA, tyA, tyA] x) fun (c : Addr × Addr × Addr) => instant_read_2 n a0 a1 a2 (c.1) (c.2.1) (c.2.2)
  else M.fail
def instant_read_D143 (n : Nat) (x : Value) (a0 : Sl) (a1 : Int) (a2 : Int) : M (Bool) :=
  if isFn F_instant_read_2 x then
    M.bind (asFn [tyA, tyA, tyA] x) fun (c : Addr × Addr × Addr) => instant_read_2 n a0 a1 a2 (c.1) (c.2.1) (c.2.2)
  else M.fail
def instant_read_L1_B (G : Addr → Addr → Addr → Addr → Value → Int → M (Unit)) (n : Nat) (a0 : Addr) (a1 : Addr) (a2 : Addr) (a3 : Addr) (a4 : Value) (a5 : Int) : M (Unit) :=
  if decide (a5 < 9) then
    M.bind (ldL (li) (a2.plus 9)) fun (x0 : Int) =>
    M.bind (stN (a2.plus 9) [vi (IntKind.i64.wrap (x0 * 10))]) fun x1 =>
    G a0 a1 a2 a3 a4 (IntKind.i64.wrap (a5 + 1))
  else
    M.pure ()
def instant_read_L1 : Nat → Addr → Addr → Addr → Addr → Value → Int → M (Unit)
  | 0 => fun _ _ _ _ _ _ => M.fail
  | n + 1 => instant_read_L1_B (instant_read_L1 n) n
theorem instant_read_L1_succ (n : Nat) : instant_read_L1 (n + 1) = instant_read_L1_B (instant_read_L1 n) n := rfl
def instant_read_L0_J0_B (G : Addr → Addr → Addr → Addr → Value → Int → M (Int)) (n : Nat) (a0 : Addr) (a1 : Addr) (a2 : Addr) (a3 : Addr) (a4 : Value) (a5 : Int) : M (Int) :=
  M.bind (ldL (li) (a2.plus 9)) fun (x0 : Int) =>
  M.bind (ldL .str a0) fun (x1 : ByteArray) =>
  M.bind (ldL (li) a3) fun (x2 : Int) =>
  M.bind (idxS x1 x2) fun x3 =>
  M.bind (stN (a2.plus 9) [vi (IntKind.i64.wrap (IntKind.i64.wrap (10 * x0) + IntKind.i64.wrap (IntKind.u8.wrap ((↑x3.toNat : Int) - 48))))]) fun x4 =>
  M.bind (ldL (li) a3) fun (x5 : Int) =>
  M.bind (stN a3 [vi (IntKind.i64.wrap (x5 + 1))]) fun x6 =>
  G a0 a1 a2 a3 a4 (IntKind.i64.wrap (a5 + 1))
def instant_read_L0_B (G : Addr → Addr → Addr → Addr → Value → Int → M (Int)) (n : Nat) (a0 : Addr) (a1 : Addr) (a2 : Addr) (a3 : Addr) (a4 : Value) (a5 : Int) : M (Int) :=
  if decide (a5 < 9) then
    M.bind (ldL (li) a3) fun (x0 : Int) =>
    M.bind (ldL .str a0) fun (x1 : ByteArray) =>
    if decide (x0 < (↑(ByteArray.size x1) : Int)) then
      M.bind (ldL .str a0) fun (x2 : ByteArray) =>
      M.bind (ldL (li) a3) fun (x3 : Int) =>
      M.bind (idxS x2 x3) fun x4 =>
      if decide (48 ≤ (↑x4.toNat : Int)) then
        M.bind (ldL .str a0) fun (x5 : ByteArray) =>
        M.bind (ldL (li) a3) fun (x6 : Int) =>
        M.bind (idxS x5 x6) fun x7 =>
        if decide ((↑x7.toNat : Int) ≤ 57) then
          instant_read_L0_J0_B G n a0 a1 a2 a3 a4 a5
        else
          M.pure a5
      else
        M.pure a5
    else
      M.pure a5
  else
    M.pure a5
def instant_read_L0 : Nat → Addr → Addr → Addr → Addr → Value → Int → M (Int)
  | 0 => fun _ _ _ _ _ _ => M.fail
  | n + 1 => instant_read_L0_B (instant_read_L0 n) n
theorem instant_read_L0_succ (n : Nat) : instant_read_L0 (n + 1) = instant_read_L0_B (instant_read_L0 n) n := rfl
def instant_read_L0_J0 (n : Nat) := instant_read_L0_J0_B (instant_read_L0 n) n
def instant_read_J4 (n : Nat) (a0 : Addr) (a1 : Addr) (a2 : Addr) (a3 : Addr) (a4 : Value) : M ((Int × Int × Int × Int × Int × Int × Int × Int × Int × Int × Int) × Bool) :=
  M.bind (ldL .str a0) fun (x0 : ByteArray) =>
  M.bind (ldL (li) a3) fun (x1 : Int) =>
  M.bind (idxS x0 x1) fun x2 =>
  M.bind (stN (a2.plus 10) [Value.int IntKind.u8 (↑x2.toNat : Int)]) fun x3 =>
  M.bind (ldL (li) a3) fun (x4 : Int) =>
  M.bind (stN a3 [vi (IntKind.i64.wrap (x4 + 1))]) fun x5 =>
  M.bind (ldL (.int IntKind.u8) (a2.plus 10)) fun (x6 : Int) =>
  if decide (x6 = 90) then
    M.bind (ldLs [li, li, li, li, li, li, li, li, li, li, .int IntKind.u8] a2) fun (x7 : Int × Int × Int × Int × Int × Int × Int × Int × Int × Int × Int) =>
    M.bind (ldL (li) a3) fun (x8 : Int) =>
    M.bind (ldL .str a0) fun (x9 : ByteArray) =>
    M.bind (chk [some a3, some a0] (stN a1 [vi x7.1, vi x7.2.1, vi x7.2.2.1, vi x7.2.2.2.1, vi x7.2.2.2.2.1, vi x7.2.2.2.2.2.1, vi x7.2.2.2.2.2.2.1, vi x7.2.2.2.2.2.2.2.1, vi x7.2.2.2.2.2.2.2.2.1, vi x7.2.2.2.2.2.2.2.2.2.1, Value.int IntKind.u8 x7.2.2.2.2.2.2.2.2.2.2])) fun x10 =>
    M.bind (ldLs [li, li, li, li, li, li, li, li, li, li, .int IntKind.u8] a1) fun (x11 : Int × Int × Int × Int × Int × Int × Int × Int × Int × Int × Int) =>
    M.pure ((x11.1, x11.2.1, x11.2.2.1, x11.2.2.2.1, x11.2.2.2.2.1, x11.2.2.2.2.2.1, x11.2.2.2.2.2.2.1, x11.2.2.2.2.2.2.2.1, x11.2.2.2.2.2.2.2.2.1, x11.2.2.2.2.2.2.2.2.2.1, x11.2.2.2.2.2.2.2.2.2.2), decide (x8 = (↑(ByteArray.size x9) : Int)))
  else
    M.bind (ldL (.int IntKind.u8) (a2.plus 10)) fun (x7 : Int) =>
    if !decide (x7 = 43) then
      M.bind (ldL (.int IntKind.u8) (a2.plus 10)) fun (x8 : Int) =>
      if !decide (x8 = 45) then
        M.bind (ldLs [li, li, li, li, li, li, li, li, li, li, .int IntKind.u8] a2) fun (x9 : Int × Int × Int × Int × Int × Int × Int × Int × Int × Int × Int) =>
        M.bind (stN a1 [vi x9.1, vi x9.2.1, vi x9.2.2.1, vi x9.2.2.2.1, vi x9.2.2.2.2.1, vi x9.2.2.2.2.2.1, vi x9.2.2.2.2.2.2.1, vi x9.2.2.2.2.2.2.2.1, vi x9.2.2.2.2.2.2.2.2.1, vi x9.2.2.2.2.2.2.2.2.2.1, Value.int IntKind.u8 x9.2.2.2.2.2.2.2.2.2.2]) fun x10 =>
        M.bind (ldLs [li, li, li, li, li, li, li, li, li, li, .int IntKind.u8] a1) fun (x11 : Int × Int × Int × Int × Int × Int × Int × Int × Int × Int × Int) =>
        M.pure ((x11.1, x11.2.1, x11.2.2.1, x11.2.2.2.1, x11.2.2.2.2.1, x11.2.2.2.2.2.1, x11.2.2.2.2.2.2.1, x11.2.2.2.2.2.2.2.1, x11.2.2.2.2.2.2.2.2.1, x11.2.2.2.2.2.2.2.2.2.1, x11.2.2.2.2.2.2.2.2.2.2), false)
      else
        M.bind (sliceA (a2.plus 1) 8 6 8 1) fun x9 =>
        M.bind (instant_read_D143 n a4 x9 2 58) fun x10 =>
        if !x10 then
          M.bind (ldLs [li, li, li, li, li, li, li, li, li, li, .int IntKind.u8] a2) fun (x11 : Int × Int × Int × Int × Int × Int × Int × Int × Int × Int × Int) =>
          M.bind (stN a1 [vi x11.1, vi x11.2.1, vi x11.2.2.1, vi x11.2.2.2.1, vi x11.2.2.2.2.1, vi x11.2.2.2.2.2.1, vi x11.2.2.2.2.2.2.1, vi x11.2.2.2.2.2.2.2.1, vi x11.2.2.2.2.2.2.2.2.1, vi x11.2.2.2.2.2.2.2.2.2.1, Value.int IntKind.u8 x11.2.2.2.2.2.2.2.2.2.2]) fun x12 =>
          M.bind (ldLs [li, li, li, li, li, li, li, li, li, li, .int IntKind.u8] a1) fun (x13 : Int × Int × Int × Int × Int × Int × Int × Int × Int × Int × Int) =>
          M.pure ((x13.1, x13.2.1, x13.2.2.1, x13.2.2.2.1, x13.2.2.2.2.1, x13.2.2.2.2.2.1, x13.2.2.2.2.2.2.1, x13.2.2.2.2.2.2.2.1, x13.2.2.2.2.2.2.2.2.1, x13.2.2.2.2.2.2.2.2.2.1, x13.2.2.2.2.2.2.2.2.2.2), false)
        else
          M.bind (ldLs [li, li, li, li, li, li, li, li, li, li, .int IntKind.u8] a2) fun (x11 : Int × Int × Int × Int × Int × Int × Int × Int × Int × Int × Int) =>
          M.bind (ldL (li) a3) fun (x12 : Int) =>
          M.bind (ldL .str a0) fun (x13 : ByteArray) =>
          M.bind (chk [some a3, some a0] (stN a1 [vi x11.1, vi x11.2.1, vi x11.2.2.1, vi x11.2.2.2.1, vi x11.2.2.2.2.1, vi x11.2.2.2.2.2.1, vi x11.2.2.2.2.2.2.1, vi x11.2.2.2.2.2.2.2.1, vi x11.2.2.2.2.2.2.2.2.1, vi x11.2.2.2.2.2.2.2.2.2.1, Value.int IntKind.u8 x11.2.2.2.2.2.2.2.2.2.2])) fun x14 =>
          M.bind (ldLs [li, li, li, li, li, li, li, li, li, li, .int IntKind.u8] a1) fun (x15 : Int × Int × Int × Int × Int × Int × Int × Int × Int × Int × Int) =>
          M.pure ((x15.1, x15.2.1, x15.2.2.1, x15.2.2.2.1, x15.2.2.2.2.1, x15.2.2.2.2.2.1, x15.2.2.2.2.2.2.1, x15.2.2.2.2.2.2.2.1, x15.2.2.2.2.2.2.2.2.1, x15.2.2.2.2.2.2.2.2.2.1, x15.2.2.2.2.2.2.2.2.2.2), decide (x12 = (↑(ByteArray.size x13) : Int)))
    else
      M.bind (sliceA (a2.plus 1) 8 6 8 1) fun x8 =>
      M.bind (instant_read_D143 n a4 x8 2 58) fun x9 =>
      if !x9 then
        M.bind (ldLs [li, li, li, li, li, li, li, li, li, li, .int IntKind.u8] a2) fun (x10 : Int × Int × Int × Int × Int × Int × Int × Int × Int × Int × Int) =>
        M.bind (stN a1 [vi x10.1, vi x10.2.1, vi x10.2.2.1, vi x10.2.2.2.1, vi x10.2.2.2.2.1, vi x10.2.2.2.2.2.1, vi x10.2.2.2.2.2.2.1, vi x10.2.2.2.2.2.2.2.1, vi x10.2.2.2.2.2.2.2.2.1, vi x10.2.2.2.2.2.2.2.2.2.1, Value.int IntKind.u8 x10.2.2.2.2.2.2.2.2.2.2]) fun x11 =>
        M.bind (ldLs [li, li, li, li, li, li, li, li, li, li, .int IntKind.u8] a1) fun (x12 : Int × Int × Int × Int × Int × Int × Int × Int × Int × Int × Int) =>
        M.pure ((x12.1, x12.2.1, x12.2.2.1, x12.2.2.2.1, x12.2.2.2.2.1, x12.2.2.2.2.2.1, x12.2.2.2.2.2.2.1, x12.2.2.2.2.2.2.2.1, x12.2.2.2.2.2.2.2.2.1, x12.2.2.2.2.2.2.2.2.2.1, x12.2.2.2.2.2.2.2.2.2.2), false)
      else
        M.bind (ldLs [li, li, li, li, li, li, li, li, li, li, .int IntKind.u8] a2) fun (x10 : Int × Int × Int × Int × Int × Int × Int × Int × Int × Int × Int) =>
        M.bind (ldL (li) a3) fun (x11 : Int) =>
        M.bind (ldL .str a0) fun (x12 : ByteArray) =>
        M.bind (chk [some a3, some a0] (stN a1 [vi x10.1, vi x10.2.1, vi x10.2.2.1, vi x10.2.2.2.1, vi x10.2.2.2.2.1, vi x10.2.2.2.2.2.1, vi x10.2.2.2.2.2.2.1, vi x10.2.2.2.2.2.2.2.1, vi x10.2.2.2.2.2.2.2.2.1, vi x10.2.2.2.2.2.2.2.2.2.1, Value.int IntKind.u8 x10.2.2.2.2.2.2.2.2.2.2])) fun x13 =>
        M.bind (ldLs [li, li, li, li, li, li, li, li, li, li, .int IntKind.u8] a1) fun (x14 : Int × Int × Int × Int × Int × Int × Int × Int × Int × Int × Int) =>
        M.pure ((x14.1, x14.2.1, x14.2.2.1, x14.2.2.2.1, x14.2.2.2.2.1, x14.2.2.2.2.2.1, x14.2.2.2.2.2.2.1, x14.2.2.2.2.2.2.2.1, x14.2.2.2.2.2.2.2.2.1, x14.2.2.2.2.2.2.2.2.2.1, x14.2.2.2.2.2.2.2.2.2.2), decide (x11 = (↑(ByteArray.size x12) : Int)))
def instant_read_J3 (n : Nat) (a0 : Addr) (a1 : Addr) (a2 : Addr) (a3 : Addr) (a4 : Value) : M ((Int × Int × Int × Int × Int × Int × Int × Int × Int × Int × Int) × Bool) :=
  M.bind (ldL (li) a3) fun (x0 : Int) =>
  M.bind (ldL .str a0) fun (x1 : ByteArray) =>
  if decide (x0 < (↑(ByteArray.size x1) : Int)) then
    M.bind (ldL (li) (a2.plus 0)) fun (x2 : Int) =>
    if decide (x2 = 3) then
      instant_read_J4 n a0 a1 a2 a3 a4
    else
      M.bind (ldLs [li, li, li, li, li, li, li, li, li, li, .int IntKind.u8] a2) fun (x3 : Int × Int × Int × Int × Int × Int × Int × Int × Int × Int × Int) =>
      M.bind (ldL (li) a3) fun (x4 : Int) =>
      M.bind (ldL .str a0) fun (x5 : ByteArray) =>
      M.bind (chk [some a3, some a0] (stN a1 [vi x3.1, vi x3.2.1, vi x3.2.2.1, vi x3.2.2.2.1, vi x3.2.2.2.2.1, vi x3.2.2.2.2.2.1, vi x3.2.2.2.2.2.2.1, vi x3.2.2.2.2.2.2.2.1, vi x3.2.2.2.2.2.2.2.2.1, vi x3.2.2.2.2.2.2.2.2.2.1, Value.int IntKind.u8 x3.2.2.2.2.2.2.2.2.2.2])) fun x6 =>
      M.bind (ldLs [li, li, li, li, li, li, li, li, li, li, .int IntKind.u8] a1) fun (x7 : Int × Int × Int × Int × Int × Int × Int × Int × Int × Int × Int) =>
      M.pure ((x7.1, x7.2.1, x7.2.2.1, x7.2.2.2.1, x7.2.2.2.2.1, x7.2.2.2.2.2.1, x7.2.2.2.2.2.2.1, x7.2.2.2.2.2.2.2.1, x7.2.2.2.2.2.2.2.2.1, x7.2.2.2.2.2.2.2.2.2.1, x7.2.2.2.2.2.2.2.2.2.2), decide (x4 = (↑(ByteArray.size x5) : Int)))
  else
    M.bind (ldLs [li, li, li, li, li, li, li, li, li, li, .int IntKind.u8] a2) fun (x2 : Int × Int × Int × Int × Int × Int × Int × Int × Int × Int × Int) =>
    M.bind (ldL (li) a3) fun (x3 : Int) =>
    M.bind (ldL .str a0) fun (x4 : ByteArray) =>
    M.bind (chk [some a3, some a0] (stN a1 [vi x2.1, vi x2.2.1, vi x2.2.2.1, vi x2.2.2.2.1, vi x2.2.2.2.2.1, vi x2.2.2.2.2.2.1, vi x2.2.2.2.2.2.2.1, vi x2.2.2.2.2.2.2.2.1, vi x2.2.2.2.2.2.2.2.2.1, vi x2.2.2.2.2.2.2.2.2.2.1, Value.int IntKind.u8 x2.2.2.2.2.2.2.2.2.2.2])) fun x5 =>
    M.bind (ldLs [li, li, li, li, li, li, li, li, li, li, .int IntKind.u8] a1) fun (x6 : Int × Int × Int × Int × Int × Int × Int × Int × Int × Int × Int) =>
    M.pure ((x6.1, x6.2.1, x6.2.2.1, x6.2.2.2.1, x6.2.2.2.2.1, x6.2.2.2.2.2.1, x6.2.2.2.2.2.2.1, x6.2.2.2.2.2.2.2.1, x6.2.2.2.2.2.2.2.2.1, x6.2.2.2.2.2.2.2.2.2.1, x6.2.2.2.2.2.2.2.2.2.2), decide (x3 = (↑(ByteArray.size x4) : Int)))
def instant_read_J2 (n : Nat) (a0 : Addr) (a1 : Addr) (a2 : Addr) (a3 : Addr) (a4 : Value) : M ((Int × Int × Int × Int × Int × Int × Int × Int × Int × Int × Int) × Bool) :=
  M.bind (ldL (li) a3) fun (x0 : Int) =>
  M.bind (stN a3 [vi (IntKind.i64.wrap (x0 + 1))]) fun x1 =>
  M.bind (instant_read_L0 n a0 a1 a2 a3 a4 0) fun x2 =>
  if decide (x2 = 0) then
    M.bind (ldLs [li, li, li, li, li, li, li, li, li, li, .int IntKind.u8] a2) fun (x3 : Int × Int × Int × Int × Int × Int × Int × Int × Int × Int × Int) =>
    M.bind (stN a1 [vi x3.1, vi x3.2.1, vi x3.2.2.1, vi x3.2.2.2.1, vi x3.2.2.2.2.1, vi x3.2.2.2.2.2.1, vi x3.2.2.2.2.2.2.1, vi x3.2.2.2.2.2.2.2.1, vi x3.2.2.2.2.2.2.2.2.1, vi x3.2.2.2.2.2.2.2.2.2.1, Value.int IntKind.u8 x3.2.2.2.2.2.2.2.2.2.2]) fun x4 =>
    M.bind (ldLs [li, li, li, li, li, li, li, li, li, li, .int IntKind.u8] a1) fun (x5 : Int × Int × Int × Int × Int × Int × Int × Int × Int × Int × Int) =>
    M.pure ((x5.1, x5.2.1, x5.2.2.1, x5.2.2.2.1, x5.2.2.2.2.1, x5.2.2.2.2.2.1, x5.2.2.2.2.2.2.1, x5.2.2.2.2.2.2.2.1, x5.2.2.2.2.2.2.2.2.1, x5.2.2.2.2.2.2.2.2.2.1, x5.2.2.2.2.2.2.2.2.2.2), false)
  else
    M.bind (instant_read_L1 n a0 a1 a2 a3 a4 x2) fun x3 =>
    instant_read_J3 n a0 a1 a2 a3 a4
def instant_read_J1 (n : Nat) (a0 : Addr) (a1 : Addr) (a2 : Addr) (a3 : Addr) (a4 : Value) : M ((Int × Int × Int × Int × Int × Int × Int × Int × Int × Int × Int) × Bool) :=
  M.bind (sliceA (a2.plus 1) 8 3 6 1) fun x0 =>
  M.bind (instant_read_D44 n a4 x0 2 58) fun x1 =>
  if !x1 then
    M.bind (ldLs [li, li, li, li, li, li, li, li, li, li, .int IntKind.u8] a2) fun (x2 : Int × Int × Int × Int × Int × Int × Int × Int × Int × Int × Int) =>
    M.bind (stN a1 [vi x2.1, vi x2.2.1, vi x2.2.2.1, vi x2.2.2.2.1, vi x2.2.2.2.2.1, vi x2.2.2.2.2.2.1, vi x2.2.2.2.2.2.2.1, vi x2.2.2.2.2.2.2.2.1, vi x2.2.2.2.2.2.2.2.2.1, vi x2.2.2.2.2.2.2.2.2.2.1, Value.int IntKind.u8 x2.2.2.2.2.2.2.2.2.2.2]) fun x3 =>
    M.bind (ldLs [li, li, li, li, li, li, li, li, li, li, .int IntKind.u8] a1) fun (x4 : Int × Int × Int × Int × Int × Int × Int × Int × Int × Int × Int) =>
    M.pure ((x4.1, x4.2.1, x4.2.2.1, x4.2.2.2.1, x4.2.2.2.2.1, x4.2.2.2.2.2.1, x4.2.2.2.2.2.2.1, x4.2.2.2.2.2.2.2.1, x4.2.2.2.2.2.2.2.2.1, x4.2.2.2.2.2.2.2.2.2.1, x4.2.2.2.2.2.2.2.2.2.2), false)
  else
    M.bind (ldL (li) (a2.plus 0)) fun (x2 : Int) =>
    M.bind (stN (a2.plus 0) [vi (IntKind.i64.wrap (x2 + 2))]) fun x3 =>
    M.bind (ldL (li) a3) fun (x4 : Int) =>
    M.bind (ldL .str a0) fun (x5 : ByteArray) =>
    if decide (x4 < (↑(ByteArray.size x5) : Int)) then
      M.bind (ldL .str a0) fun (x6 : ByteArray) =>
      M.bind (ldL (li) a3) fun (x7 : Int) =>
      M.bind (idxS x6 x7) fun x8 =>
      if decide ((↑x8.toNat : Int) = 46) then
        instant_read_J2 n a0 a1 a2 a3 a4
      else
        instant_read_J3 n a0 a1 a2 a3 a4
    else
      instant_read_J3 n a0 a1 a2 a3 a4
def instant_read_J0 (n : Nat) (a0 : Addr) (a1 : Addr) (a2 : Addr) (a3 : Addr) (a4 : Value) : M ((Int × Int × Int × Int × Int × Int × Int × Int × Int × Int × Int) × Bool) :=
  M.bind (sliceA (a2.plus 1) 8 0 3 1) fun x0 =>
  M.bind (instant_read_D19 n a4 x0 4 45) fun x1 =>
  if !x1 then
    M.bind (ldLs [li, li, li, li, li, li, li, li, li, li, .int IntKind.u8] a2) fun (x2 : Int × Int × Int × Int × Int × Int × Int × Int × Int × Int × Int) =>
    M.bind (stN a1 [vi x2.1, vi x2.2.1, vi x2.2.2.1, vi x2.2.2.2.1, vi x2.2.2.2.2.1, vi x2.2.2.2.2.2.1, vi x2.2.2.2.2.2.2.1, vi x2.2.2.2.2.2.2.2.1, vi x2.2.2.2.2.2.2.2.2.1, vi x2.2.2.2.2.2.2.2.2.2.1, Value.int IntKind.u8 x2.2.2.2.2.2.2.2.2.2.2]) fun x3 =>
    M.bind (ldLs [li, li, li, li, li, li, li, li, li, li, .int IntKind.u8] a1) fun (x4 : Int × Int × Int × Int × Int × Int × Int × Int × Int × Int × Int) =>
    M.pure ((x4.1, x4.2.1, x4.2.2.1, x4.2.2.2.1, x4.2.2.2.2.1, x4.2.2.2.2.2.1, x4.2.2.2.2.2.2.1, x4.2.2.2.2.2.2.2.1, x4.2.2.2.2.2.2.2.2.1, x4.2.2.2.2.2.2.2.2.2.1, x4.2.2.2.2.2.2.2.2.2.2), false)
  else
    M.bind (stN (a2.plus 0) [vi 1]) fun x2 =>
    M.bind (ldL (li) a3) fun (x3 : Int) =>
    M.bind (ldL .str a0) fun (x4 : ByteArray) =>
    if decide (x3 = (↑(ByteArray.size x4) : Int)) then
      M.bind (ldLs [li, li, li, li, li, li, li, li, li, li, .int IntKind.u8] a2) fun (x5 : Int × Int × Int × Int × Int × Int × Int × Int × Int × Int × Int) =>
      M.bind (stN a1 [vi x5.1, vi x5.2.1, vi x5.2.2.1, vi x5.2.2.2.1, vi x5.2.2.2.2.1, vi x5.2.2.2.2.2.1, vi x5.2.2.2.2.2.2.1, vi x5.2.2.2.2.2.2.2.1, vi x5.2.2.2.2.2.2.2.2.1, vi x5.2.2.2.2.2.2.2.2.2.1, Value.int IntKind.u8 x5.2.2.2.2.2.2.2.2.2.2]) fun x6 =>
      M.bind (ldLs [li, li, li, li, li, li, li, li, li, li, .int IntKind.u8] a1) fun (x7 : Int × Int × Int × Int × Int × Int × Int × Int × Int × Int × Int) =>
      M.pure ((x7.1, x7.2.1, x7.2.2.1, x7.2.2.2.1, x7.2.2.2.2.1, x7.2.2.2.2.2.1, x7.2.2.2.2.2.2.1, x7.2.2.2.2.2.2.2.1, x7.2.2.2.2.2.2.2.2.1, x7.2.2.2.2.2.2.2.2.2.1, x7.2.2.2.2.2.2.2.2.2.2), true)
    else
      M.bind (ldL .str a0) fun (x5 : ByteArray) =>
      M.bind (ldL (li) a3) fun (x6 : Int) =>
      M.bind (idxS x5 x6) fun x7 =>
      if !decide ((↑x7.toNat : Int) = 84) then
        M.bind (ldL .str a0) fun (x8 : ByteArray) =>
        M.bind (ldL (li) a3) fun (x9 : Int) =>
        M.bind (idxS x8 x9) fun x10 =>
        if !decide ((↑x10.toNat : Int) = 32) then
          M.bind (ldLs [li, li, li, li, li, li, li, li, li, li, .int IntKind.u8] a2) fun (x11 : Int × Int × Int × Int × Int × Int × Int × Int × Int × Int × Int) =>
          M.bind (stN a1 [vi x11.1, vi x11.2.1, vi x11.2.2.1, vi x11.2.2.2.1, vi x11.2.2.2.2.1, vi x11.2.2.2.2.2.1, vi x11.2.2.2.2.2.2.1, vi x11.2.2.2.2.2.2.2.1, vi x11.2.2.2.2.2.2.2.2.1, vi x11.2.2.2.2.2.2.2.2.2.1, Value.int IntKind.u8 x11.2.2.2.2.2.2.2.2.2.2]) fun x12 =>
          M.bind (ldLs [li, li, li, li, li, li, li, li, li, li, .int IntKind.u8] a1) fun (x13 : Int × Int × Int × Int × Int × Int × Int × Int × Int × Int × Int) =>
          M.pure ((x13.1, x13.2.1, x13.2.2.1, x13.2.2.2.1, x13.2.2.2.2.1, x13.2.2.2.2.2.1, x13.2.2.2.2.2.2.1, x13.2.2.2.2.2.2.2.1, x13.2.2.2.2.2.2.2.2.1, x13.2.2.2.2.2.2.2.2.2.1, x13.2.2.2.2.2.2.2.2.2.2), false)
        else
          M.bind (ldL (li) a3) fun (x11 : Int) =>
          M.bind (stN a3 [vi (IntKind.i64.wrap (x11 + 1))]) fun x12 =>
          instant_read_J1 n a0 a1 a2 a3 a4
      else
        M.bind (ldL (li) a3) fun (x8 : Int) =>
        M.bind (stN a3 [vi (IntKind.i64.wrap (x8 + 1))]) fun x9 =>
        instant_read_J1 n a0 a1 a2 a3 a4
def instant_read (n : Nat) (a0 : ByteArray) : M ((Int × Int × Int × Int × Int × Int × Int × Int × Int × Int × Int) × Bool) :=
  M.bind (newB none T_string [Value.string a0]) fun x0 =>
  M.bind (newB none T_instant_moment [vi 0, vi 0, vi 0, vi 0, vi 0, vi 0, vi 0, vi 0, vi 0, vi 0, Value.int IntKind.u8 0]) fun x1 =>
  M.bind (newB none T_instant_moment [vi 0, vi 0, vi 0, vi 0, vi 0, vi 0, vi 0, vi 0, vi 0, vi 0, Value.int IntKind.u8 0]) fun x2 =>
  M.bind (newB none T_i64 [vi 0]) fun x3 =>
  M.bind (stN (adr x3) [vi 0]) fun x4 =>
  M.bind (newB none T_fn_i64__i64_bool [Value.nilFunc]) fun x5 =>
  M.bind (stN (adr x5) [Value.func (Fn.func F_instant_read_1) #[] #[Value.pointer (some (adr x3)), Value.pointer (some (adr x0))]]) fun x6 =>
  M.bind (ldL .str (adr x0)) fun (x7 : ByteArray) =>
  if decide (2 < (↑(ByteArray.size x7) : Int)) then
    M.bind (ldL .str (adr x0)) fun (x8 : ByteArray) =>
    M.bind (idxS x8 2) fun x9 =>
    if !decide ((↑x9.toNat : Int) = 58) then
      instant_read_J0 n (adr x0) (adr x1) (adr x2) (adr x3) (Value.func (Fn.func F_instant_read_2) #[] #[Value.pointer (some (adr x3)), Value.pointer (some (adr x0)), Value.pointer (some (adr x5))])
    else
      instant_read_J1 n (adr x0) (adr x1) (adr x2) (adr x3) (Value.func (Fn.func F_instant_read_2) #[] #[Value.pointer (some (adr x3)), Value.pointer (some (adr x0)), Value.pointer (some (adr x5))])
  else
    instant_read_J1 n (adr x0) (adr x1) (adr x2) (adr x3) (Value.func (Fn.func F_instant_read_2) #[] #[Value.pointer (some (adr x3)), Value.pointer (some (adr x0)), Value.pointer (some (adr x5))])
abbrev q175_E (n : Nat) : Ent := ⟨175, [tyS], [.agg [.int .i64, .int .i64, .int .i64, .int .i64, .int .i64, .int .i64, .int .i64, .int .i64, .int .i64, .int .i64, .int .u8], tyB], fun x => instant_read n x⟩
abbrev q175_L0 : L1 := ⟨[0, 0, 1, 1, 0, 1, 0, 1, 1, 1, 1, 1, 1, 1, 1], [(1, tyA), (2, tyA), (4, tyA), (5, tyA), (7, tyR), (8, tyI)], [(8, tyI)], [8] ++ List.range' 66 34, 0, fun n x => instant_read_L0 n (x.1) (x.2.1) (x.2.2.1) (x.2.2.2.1) (x.2.2.2.2.1) (x.2.2.2.2.2)⟩
abbrev q175_L1 : L1 := ⟨[0, 1, 1, 1, 1, 0, 1, 0, 1, 1, 1, 1, 1, 1, 1, 1], [(1, tyA), (2, tyA), (4, tyA), (5, tyA), (7, tyR), (8, tyI)], [], [8] ++ List.range' 103 8, 2, fun n x => instant_read_L1 n (x.1) (x.2.1) (x.2.2.1) (x.2.2.2.1) (x.2.2.2.2.1) (x.2.2.2.2.2)⟩
abbrev q175_dt (n : Nat) : List DEnt := [⟨19, [tyL, tyI, .one (.int .u8)], [tyB], fun x a => instant_read_D19 n x (a.1) (a.2.1) (a.2.2)⟩,
  ⟨44, [tyL, tyI, .one (.int .u8)], [tyB], fun x a => instant_read_D44 n x (a.1) (a.2.1) (a.2.2)⟩,
  ⟨143, [tyL, tyI, .one (.int .u8)], [tyB], fun x a => instant_read_D143 n x (a.1) (a.2.1) (a.2.2)⟩]
def q175_dr (i : Nat) : Option (List (Nat × List Nat)) := cond (Nat.beq i 21) (some [(0, []), (1, []), (2, []), (3, []), (4, []), (5, []), (6, []), (7, []), (8, []), (9, []), (10, [])]) (cond (Nat.beq i 33) (some [(0, []), (1, []), (2, []), (3, []), (4, []), (5, [1, 2]), (6, [])]) (cond (Nat.beq i 36) (some [(0, []), (1, []), (2, []), (3, []), (4, []), (5, [1, 2]), (6, [])]) (none)))
abbrev q175_L0_jt (n : Nat) : List (JEnt (Int)) := [⟨[0, 0, 1, 0, 0, 0, 1, 1, 0, 1, 0, 1, 1, 1, 1, 1, 1, 1, 1], [.code [1, 0, 1, 0, 0, 0, 1, 1, 0, 1, 0, 1, 1, 1, 1, 1, 1, 1, 1], .blk 1], [(1, tyA), (2, tyA), (4, tyA), (5, tyA), (7, tyR), (8, tyI)], fun x => instant_read_L0_J0 n (x.1) (x.2.1) (x.2.2.1) (x.2.2.2.1) (x.2.2.2.2.1) (x.2.2.2.2.2)⟩]
abbrev q175_jt (n : Nat) : List (JEnt ((Int × Int × Int × Int × Int × Int × Int × Int × Int × Int × Int) × Bool)) := [⟨[0, 0, 0, 1, 0, 1, 1, 1, 1, 1], [.code [1, 0, 0, 1, 0, 1, 1, 1, 1, 1], .code [1, 0, 1, 0, 1, 1, 1, 1, 1], .code [1, 1, 1, 1, 1, 1]], [(1, tyA), (2, tyA), (4, tyA), (5, tyA), (7, tyR)], fun x => instant_read_J0 n (x.1) (x.2.1) (x.2.2.1) (x.2.2.2.1) (x.2.2.2.2)⟩,
  ⟨[0, 0, 1, 1, 1, 1, 1, 1], [.code [1, 0, 1, 1, 1, 1, 1, 1], .code [1, 1, 1, 1, 1, 1, 1]], [(1, tyA), (2, tyA), (4, tyA), (5, tyA), (7, tyR)], fun x => instant_read_J1 n (x.1) (x.2.1) (x.2.2.1) (x.2.2.2.1) (x.2.2.2.2)⟩,
  ⟨[0, 0, 1, 0, 1, 1, 1, 1, 1, 1, 1, 1], [.code [1, 0, 1, 0, 1, 1, 1, 1, 1, 1, 1, 1], .code [1, 1, 1, 1, 1, 1, 1, 1, 1]], [(1, tyA), (2, tyA), (4, tyA), (5, tyA), (7, tyR)], fun x => instant_read_J2 n (x.1) (x.2.1) (x.2.2.1) (x.2.2.2.1) (x.2.2.2.2)⟩,
  ⟨[0, 0, 1, 1, 1, 1, 1, 1, 1, 1, 1], [.code [1, 0, 1, 1, 1, 1, 1, 1, 1, 1, 1], .code [1, 1, 1, 1, 1, 1, 1, 1, 1, 1]], [(1, tyA), (2, tyA), (4, tyA), (5, tyA), (7, tyR)], fun x => instant_read_J3 n (x.1) (x.2.1) (x.2.2.1) (x.2.2.2.1) (x.2.2.2.2)⟩,
  ⟨[0, 0, 1, 0, 1, 1, 1, 1, 1, 1, 1, 1, 1], [.code [1, 0, 1, 0, 1, 1, 1, 1, 1, 1, 1, 1, 1], .code [1, 1, 1, 1, 1, 1, 1, 1, 1, 1]], [(1, tyA), (2, tyA), (4, tyA), (5, tyA), (7, tyR)], fun x => instant_read_J4 n (x.1) (x.2.1) (x.2.2.1) (x.2.2.2.1) (x.2.2.2.2)⟩]
theorem q175_dk (n : Nat) : AllD Tryz.prog (q175_dt n) := .cons (dent_ok (l := [⟨189, [tyA, tyA, tyA], fun a c => instant_read_2 n (a.1) (a.2.1) (a.2.2) (c.1) (c.2.1) (c.2.2)⟩]) (.cons (fun a c => callOK_cast (by kernel_rfl) ((instant_read_2_ok n) (a.1, a.2.1, a.2.2, c.1, c.2.1, c.2.2))) .nil) (fun x a => by kernel_rfl)) (.cons (dent_ok (l := [⟨189, [tyA, tyA, tyA], fun a c => instant_read_2 n (a.1) (a.2.1) (a.2.2) (c.1) (c.2.1) (c.2.2)⟩]) (.cons (fun a c => callOK_cast (by kernel_rfl) ((instant_read_2_ok n) (a.1, a.2.1, a.2.2, c.1, c.2.1, c.2.2))) .nil) (fun x a => by kernel_rfl)) (.cons (dent_ok (l := [⟨189, [tyA, tyA, tyA], fun a c => instant_read_2 n (a.1) (a.2.1) (a.2.2) (c.1) (c.2.1) (c.2.2)⟩]) (.cons (fun a c => callOK_cast (by kernel_rfl) ((instant_read_2_ok n) (a.1, a.2.1, a.2.2, c.1, c.2.1, c.2.2))) .nil) (fun x a => by kernel_rfl)) .nil))
theorem q175_L1_ok (n : Nat) : LOK Tryz.prog Tryz.f175 (q175_L1.e n) q175_L1.ws := L1.ok Tryz.f175 q175_L1 n C25 (dt := q175_dt) (dr := q175_dr) (hT := fun m _ => ⟨.nil, K25 m, (q175_dk m), .nil, .nil⟩)
theorem q175_L0_ok (n : Nat) : LOK Tryz.prog Tryz.f175 (q175_L0.e n) q175_L0.ws := L1.ok Tryz.f175 q175_L0 n C25 (dt := q175_dt) (dr := q175_dr) (jt := q175_L0_jt) (hT := fun m _ => ⟨.nil, K25 m, (q175_dk m), .nil, (.cc .nil)⟩)
theorem instant_read_ok (n : Nat) : FnOK Tryz.prog (q175_E n) := fn_c Tryz.f175 (C25 n) (dl := q175_dt n) (ll := [q175_L0.e n, q175_L1.e n]) (dr := q175_dr) (js := q175_jt n) (hT := ⟨.nil, K25 n, (q175_dk n), (.cc (q175_L0_ok n) (.cc (q175_L1_ok n) .nil)), (.cc (.cc (.cc (.cc (.cc .nil)))))⟩)
abbrev C26 (n : Nat) : List Ent := q175_E n :: C25 n
theorem K26 (n : Nat) : AllOK Tryz.prog (C26 n) := .cons (instant_read_ok n) (K25 n)
def civil_Leap (n : Nat) (a0 : Int) : M (Bool) :=
  M.bind (ckM (decide (4 ≠ 0))) fun x0 =>
  if decide (a0.tmod 4 = 0) then
    M.bind (ckM (decide (100 ≠ 0))) fun x1 =>
    if !decide (a0.tmod 100 = 0) then
      M.pure true
    else
      M.bind (ckM (decide (400 ≠ 0))) fun x2 =>
      M.pure (decide (a0.tmod 400 = 0))
  else
    M.pure false
abbrev q217_E (n : Nat) : Ent := ⟨217, [tyI], [tyB], fun x => civil_Leap n x⟩
theorem civil_Leap_ok (n : Nat) : FnOK Tryz.prog (q217_E n) := fn_c Tryz.f217 (C26 n) (hT := .m1 (K26 n))
abbrev C27 (n : Nat) : List Ent := q217_E n :: C26 n
theorem K27 (n : Nat) : AllOK Tryz.prog (C27 n) := .cons (civil_Leap_ok n) (K26 n)
def civil_length (n : Nat) (a0 : Int) (a1 : Int) : M (Int) :=
  M.bind (newB none T_ar13_i64 [vi 0, vi 0, vi 0, vi 0, vi 0, vi 0, vi 0, vi 0, vi 0, vi 0, vi 0, vi 0, vi 0]) fun x0 =>
  M.bind (stN (adr x0) [vi 0, vi 31, vi 28, vi 31, vi 30, vi 31, vi 30, vi 31, vi 31, vi 30, vi 31, vi 30, vi 31]) fun x1 =>
  if decide (a1 = 2) then
    M.bind (civil_Leap n a0) fun x2 =>
    if x2 then
      M.pure 29
    else
      M.bind (ckM (decide (0 ≤ a1 ∧ a1 < (↑13 : Int)))) fun x3 =>
      M.bind (ldL (li) ((adr x0).plus (a1.toNat * 1))) fun (x4 : Int) =>
      M.pure x4
  else
    M.bind (ckM (decide (0 ≤ a1 ∧ a1 < (↑13 : Int)))) fun x2 =>
    M.bind (ldL (li) ((adr x0).plus (a1.toNat * 1))) fun (x3 : Int) =>
    M.pure x3
abbrev q200_E (n : Nat) : Ent := ⟨200, [tyI, tyI], [tyI], fun x => civil_length n (x.1) (x.2)⟩
theorem civil_length_ok (n : Nat) : FnOK Tryz.prog (q200_E n) := fn_c Tryz.f200 (C27 n) (hT := .m1 (K27 n))
abbrev C28 (n : Nat) : List Ent := q200_E n :: C27 n
theorem K28 (n : Nat) : AllOK Tryz.prog (C28 n) := .cons (civil_length_ok n) (K27 n)
def civil_first (n : Nat) (a0 : Int) : M (Int) :=
  M.bind (ckM (decide (4 ≠ 0))) fun x0 =>
  M.bind (ckM (decide (100 ≠ 0))) fun x1 =>
  M.bind (ckM (decide (400 ≠ 0))) fun x2 =>
  M.pure (IntKind.i64.wrap (IntKind.i64.wrap (IntKind.i64.wrap (IntKind.i64.wrap (365 * a0) + IntKind.i64.wrap ((IntKind.i64.wrap (a0 + 3)).tdiv 4)) - IntKind.i64.wrap ((IntKind.i64.wrap (a0 + 99)).tdiv 100)) + IntKind.i64.wrap ((IntKind.i64.wrap (a0 + 399)).tdiv 400)))
abbrev q201_E (n : Nat) : Ent := ⟨201, [tyI], [tyI], fun x => civil_first n x⟩
theorem civil_first_ok (n : Nat) : FnOK Tryz.prog (q201_E n) := fn_c Tryz.f201 (C28 n) (hT := .m1 (K28 n))
abbrev C29 (n : Nat) : List Ent := q201_E n :: C28 n
theorem K29 (n : Nat) : AllOK Tryz.prog (C29 n) := .cons (civil_first_ok n) (K28 n)
def civil_Days_L0_B (G : Int → Int → Int → Int → M (Int)) (n : Nat) (a0 : Int) (a1 : Int) (a2 : Int) (a3 : Int) : M (Int) :=
  if decide (a3 < a1) then
    M.bind (civil_length n a0 a3) fun x0 =>
    G a0 a1 (IntKind.i64.wrap (a2 + x0)) (IntKind.i64.wrap (a3 + 1))
  else
    M.pure a2
def civil_Days_L0 : Nat → Int → Int → Int → Int → M (Int)
  | 0 => fun _ _ _ _ => M.fail
  | n + 1 => civil_Days_L0_B (civil_Days_L0 n) n
theorem civil_Days_L0_succ (n : Nat) : civil_Days_L0 (n + 1) = civil_Days_L0_B (civil_Days_L0 n) n := rfl
def civil_Days_J0 (n : Nat) (a0 : Int) (a1 : Int) (a2 : Int) : M (Int × Int) :=
  M.bind (civil_first n a0) fun x0 =>
  M.bind (civil_Days_L0 n a0 a1 (IntKind.i64.wrap (IntKind.i64.wrap (IntKind.i64.wrap (x0 + a2) - 1) - 719528)) 1) fun x1 =>
  M.pure (x1, 0)
def civil_Days (n : Nat) (a0 : Int) (a1 : Int) (a2 : Int) : M (Int × Int) :=
  if decide (a0 < 0) then
    M.pure (0, 13)
  else
    if decide (9999 < a0) then
      M.pure (0, 13)
    else
      if decide (a1 < 1) then
        M.pure (0, 13)
      else
        if decide (12 < a1) then
          M.pure (0, 13)
        else
          if decide (a2 < 1) then
            M.pure (0, 13)
          else
            M.bind (civil_length n a0 a1) fun x0 =>
            if decide (x0 < a2) then
              M.pure (0, 13)
            else
              civil_Days_J0 n a0 a1 a2
abbrev q190_E (n : Nat) : Ent := ⟨190, [tyI, tyI, tyI], [tyI, tyI], fun x => civil_Days n (x.1) (x.2.1) (x.2.2)⟩
abbrev q190_L0 : L1 := ⟨[0, 1, 0, 1, 1, 1], [(0, tyI), (1, tyI), (8, tyI), (9, tyI)], [(8, tyI)], [8, 9] ++ List.range' 41 10, 0, fun n x => civil_Days_L0 n (x.1) (x.2.1) (x.2.2.1) (x.2.2.2)⟩
abbrev q190_jt (n : Nat) : List (JEnt (Int × Int)) := [⟨[0, 1, 1], [.code [1, 1, 1]], [(0, tyI), (1, tyI), (2, tyI)], fun x => civil_Days_J0 n (x.1) (x.2.1) (x.2.2)⟩]
theorem q190_L0_ok (n : Nat) : LOK Tryz.prog Tryz.f190 (q190_L0.e n) q190_L0.ws := L1.ok Tryz.f190 q190_L0 n C29 (hT := fun m _ => .m1 (K29 m))
theorem civil_Days_ok (n : Nat) : FnOK Tryz.prog (q190_E n) := fn_c Tryz.f190 (C29 n) (ll := [q190_L0.e n]) (js := q190_jt n) (hT := ⟨.nil, K29 n, .nil, (.cc (q190_L0_ok n) .nil), (.cc .nil)⟩)
abbrev C30 (n : Nat) : List Ent := q190_E n :: C29 n
theorem K30 (n : Nat) : AllOK Tryz.prog (C30 n) := .cons (civil_Days_ok n) (K29 n)
def instant_moment_ranges_L0_B (G : Addr → (Int × Int × Int × Int × Int) → Int → M ((Unit) ⊕ (Bool))) (n : Nat) (a0 : Addr) (a1 : Int × Int × Int × Int × Int) (a2 : Int) : M ((Unit) ⊕ (Bool)) :=
  if decide (a2 < 5) then
    M.bind (idxC (li) 5 [vi a1.1, vi a1.2.1, vi a1.2.2.1, vi a1.2.2.2.1, vi a1.2.2.2.2] a2) fun x0 =>
    M.bind (ckM (decide (0 ≤ IntKind.i64.wrap (a2 + 3) ∧ IntKind.i64.wrap (a2 + 3) < (↑8 : Int)))) fun x1 =>
    M.bind (ldL (li) ((a0.plus 1).plus ((IntKind.i64.wrap (a2 + 3)).toNat * 1))) fun (x2 : Int) =>
    if decide (x0 < x2) then
      M.pure (Sum.inr false)
    else
      G a0 (a1.1, a1.2.1, a1.2.2.1, a1.2.2.2.1, a1.2.2.2.2) (IntKind.i64.wrap (a2 + 1))
  else
    M.pure (Sum.inl ())
def instant_moment_ranges_L0 : Nat → Addr → (Int × Int × Int × Int × Int) → Int → M ((Unit) ⊕ (Bool))
  | 0 => fun _ _ _ => M.fail
  | n + 1 => instant_moment_ranges_L0_B (instant_moment_ranges_L0 n) n
theorem instant_moment_ranges_L0_succ (n : Nat) : instant_moment_ranges_L0 (n + 1) = instant_moment_ranges_L0_B (instant_moment_ranges_L0 n) n := rfl
def instant_moment_ranges_J0 (n : Nat) (a0 : Addr) : M (Bool) :=
  M.bind (newB none T_ar5_i64 [vi 0, vi 0, vi 0, vi 0, vi 0]) fun x0 =>
  M.bind (stN (adr x0) [vi 23, vi 59, vi 59, vi 23, vi 59]) fun x1 =>
  M.bind (ldLs [li, li, li, li, li] (adr x0)) fun (x2 : Int × Int × Int × Int × Int) =>
  M.bind (instant_moment_ranges_L0 n a0 (x2.1, x2.2.1, x2.2.2.1, x2.2.2.2.1, x2.2.2.2.2) 0) (sumElim (fun x3 =>
    M.pure true)
  (fun x3 =>
    M.pure x3))
def instant_moment_ranges (n : Nat) (a0 : Int × Int × Int × Int × Int × Int × Int × Int × Int × Int × Int) : M (Bool) :=
  M.bind (newB none T_instant_moment [vi a0.1, vi a0.2.1, vi a0.2.2.1, vi a0.2.2.2.1, vi a0.2.2.2.2.1, vi a0.2.2.2.2.2.1, vi a0.2.2.2.2.2.2.1, vi a0.2.2.2.2.2.2.2.1, vi a0.2.2.2.2.2.2.2.2.1, vi a0.2.2.2.2.2.2.2.2.2.1, Value.int IntKind.u8 a0.2.2.2.2.2.2.2.2.2.2]) fun x0 =>
  M.bind (ldL (li) ((adr x0).plus 0)) fun (x1 : Int) =>
  if !decide (x1 = 2) then
    M.bind (ckM (decide (0 ≤ 0 ∧ 0 < (↑8 : Int)))) fun x2 =>
    M.bind (ldL (li) (((adr x0).plus 1).plus 0)) fun (x3 : Int) =>
    M.bind (ckM (decide (0 ≤ 1 ∧ 1 < (↑8 : Int)))) fun x4 =>
    M.bind (ldL (li) (((adr x0).plus 1).plus 1)) fun (x5 : Int) =>
    M.bind (ckM (decide (0 ≤ 2 ∧ 2 < (↑8 : Int)))) fun x6 =>
    M.bind (ldL (li) (((adr x0).plus 1).plus 2)) fun (x7 : Int) =>
    M.bind (civil_Days n x3 x5 x7) fun x8 =>
    if !decide (x8.2 = 0) then
      M.pure false
    else
      instant_moment_ranges_J0 n (adr x0)
  else
    instant_moment_ranges_J0 n (adr x0)
abbrev q176_E (n : Nat) : Ent := ⟨176, [.agg [.int .i64, .int .i64, .int .i64, .int .i64, .int .i64, .int .i64, .int .i64, .int .i64, .int .i64, .int .i64, .int .u8]], [tyB], fun x => instant_moment_ranges n x⟩
abbrev q176_L0 : L2 := ⟨[0, 1, 0, 1, 1, 1], [(1, tyA), (27, .agg [.int .i64, .int .i64, .int .i64, .int .i64, .int .i64]), (28, tyI)], [], [(2, tyB)], [2, 6, 7] ++ List.range' 28 12, 0, .ret, fun n x => instant_moment_ranges_L0 n (x.1) (x.2.1) (x.2.2)⟩
abbrev q176_jt (n : Nat) : List (JEnt (Bool)) := [⟨[0, 1, 1], [.code [1, 1, 1]], [(1, tyA)], fun x => instant_moment_ranges_J0 n x⟩]
theorem q176_L0_ok (n : Nat) : LOK Tryz.prog Tryz.f176 (q176_L0.e n) q176_L0.ws := L2.ok Tryz.f176 q176_L0 n C30 (hT := fun m _ => .m1 (K30 m))
theorem instant_moment_ranges_ok (n : Nat) : FnOK Tryz.prog (q176_E n) := fn_c Tryz.f176 (C30 n) (ll := [q176_L0.e n]) (js := q176_jt n) (hT := ⟨.nil, K30 n, .nil, (.cc (q176_L0_ok n) .nil), (.cc .nil)⟩)
abbrev C31 (n : Nat) : List Ent := q176_E n :: C30 n
theorem K31 (n : Nat) : AllOK Tryz.prog (C31 n) := .cons (instant_moment_ranges_ok n) (K30 n)
def instant_Instant_J0 (n : Nat) (a0 : Addr) : M (ByteArray × Int) :=
  M.bind (ldLs [li, li, li, li, li, li, li, li, li, li, .int IntKind.u8] a0) fun (x0 : Int × Int × Int × Int × Int × Int × Int × Int × Int × Int × Int) =>
  M.bind (instant_moment_ranges n (x0.1, x0.2.1, x0.2.2.1, x0.2.2.2.1, x0.2.2.2.2.1, x0.2.2.2.2.2.1, x0.2.2.2.2.2.2.1, x0.2.2.2.2.2.2.2.1, x0.2.2.2.2.2.2.2.2.1, x0.2.2.2.2.2.2.2.2.2.1, x0.2.2.2.2.2.2.2.2.2.2)) fun x1 =>
  if !x1 then
    M.pure ((ofBytes []), 13)
  else
    M.bind (ldLs [li, li, li, li, li, li, li, li, li, li, .int IntKind.u8] a0) fun (x2 : Int × Int × Int × Int × Int × Int × Int × Int × Int × Int × Int) =>
    M.bind (ldL (li) (a0.plus 9)) fun (x3 : Int) =>
    M.fail
def instant_Instant (n : Nat) (a0 : ByteArray) : M (ByteArray × Int) :=
  M.bind (instant_read n a0) fun x0 =>
  M.bind (newB none T_instant_moment [vi 0, vi 0, vi 0, vi 0, vi 0, vi 0, vi 0, vi 0, vi 0, vi 0, Value.int IntKind.u8 0]) fun x1 =>
  M.bind (stN (adr x1) [vi x0.1.1, vi x0.1.2.1, vi x0.1.2.2.1, vi x0.1.2.2.2.1, vi x0.1.2.2.2.2.1, vi x0.1.2.2.2.2.2.1, vi x0.1.2.2.2.2.2.2.1, vi x0.1.2.2.2.2.2.2.2.1, vi x0.1.2.2.2.2.2.2.2.2.1, vi x0.1.2.2.2.2.2.2.2.2.2.1, Value.int IntKind.u8 x0.1.2.2.2.2.2.2.2.2.2.2]) fun x2 =>
  if !x0.2 then
    M.pure ((ofBytes []), 3)
  else
    M.bind (ldL (.int IntKind.u8) ((adr x1).plus 10)) fun (x3 : Int) =>
    if decide (x3 = 0) then
      M.pure ((ofBytes []), 3)
    else
      instant_Instant_J0 n (adr x1)
abbrev q163_E (n : Nat) : Ent := ⟨163, [tyS], [tyS, tyI], fun x => instant_Instant n x⟩
def q163_dr (i : Nat) : Option (List (Nat × List Nat)) := cond (Nat.beq i 6) (some [(2, []), (0, []), (3, []), (1, [3]), (4, []), (5, []), (6, []), (7, []), (8, [])]) (none)
abbrev q163_jt (n : Nat) : List (JEnt (ByteArray × Int)) := [⟨[0, 0, 1, 1, 1], [.code [1, 0, 1, 1, 1], .code [1, 1, 1, 1]], [(4, tyA)], fun x => instant_Instant_J0 n x⟩]
theorem instant_Instant_ok (n : Nat) : FnOK Tryz.prog (q163_E n) := fn_c Tryz.f163 (C31 n) (dr := q163_dr) (js := q163_jt n) (hT := ⟨.nil, K31 n, .nil, .nil, (.cc .nil)⟩)
abbrev C32 (n : Nat) : List Ent := q163_E n :: C31 n
theorem K32 (n : Nat) : AllOK Tryz.prog (C32 n) := .cons (instant_Instant_ok n) (K31 n)
def instant_Local (n : Nat) (a0 : ByteArray) : M (ByteArray × Int) :=
  M.bind (instant_read n a0) fun x0 =>
  M.bind (newB none T_instant_moment [vi 0, vi 0, vi 0, vi 0, vi 0, vi 0, vi 0, vi 0, vi 0, vi 0, Value.int IntKind.u8 0]) fun x1 =>
  M.bind (stN (adr x1) [vi x0.1.1, vi x0.1.2.1, vi x0.1.2.2.1, vi x0.1.2.2.2.1, vi x0.1.2.2.2.2.1, vi x0.1.2.2.2.2.2.1, vi x0.1.2.2.2.2.2.2.1, vi x0.1.2.2.2.2.2.2.2.1, vi x0.1.2.2.2.2.2.2.2.2.1, vi x0.1.2.2.2.2.2.2.2.2.2.1, Value.int IntKind.u8 x0.1.2.2.2.2.2.2.2.2.2.2]) fun x2 =>
  if !x0.2 then
    M.pure ((ofBytes []), 3)
  else
    M.bind (ldL (.int IntKind.u8) ((adr x1).plus 10)) fun (x3 : Int) =>
    if !decide (x3 = 0) then
      M.pure ((ofBytes []), 3)
    else
      M.bind (ldLs [li, li, li, li, li, li, li, li, li, li, .int IntKind.u8] (adr x1)) fun (x4 : Int × Int × Int × Int × Int × Int × Int × Int × Int × Int × Int) =>
      M.bind (instant_moment_ranges n (x4.1, x4.2.1, x4.2.2.1, x4.2.2.2.1, x4.2.2.2.2.1, x4.2.2.2.2.2.1, x4.2.2.2.2.2.2.1, x4.2.2.2.2.2.2.2.1, x4.2.2.2.2.2.2.2.2.1, x4.2.2.2.2.2.2.2.2.2.1, x4.2.2.2.2.2.2.2.2.2.2)) fun x5 =>
      if !x5 then
        M.pure ((ofBytes []), 13)
      else
        M.bind (ldLs [li, li, li, li, li, li, li, li, li, li, .int IntKind.u8] (adr x1)) fun (x6 : Int × Int × Int × Int × Int × Int × Int × Int × Int × Int × Int) =>
        M.fail
abbrev q164_E (n : Nat) : Ent := ⟨164, [tyS], [tyS, tyI], fun x => instant_Local n x⟩
theorem instant_Local_ok (n : Nat) : FnOK Tryz.prog (q164_E n) := fn_c Tryz.f164 (C32 n) (hT := .m1 (K32 n))
abbrev C33 (n : Nat) : List Ent := q164_E n :: C32 n
theorem K33 (n : Nat) : AllOK Tryz.prog (C33 n) := .cons (instant_Local_ok n) (K32 n)
def toml_hexadecimal (n : Nat) (a0 : Int) : M (Bool) :=
  M.bind (toml_digit n a0) fun x0 =>
  if x0 then
    M.pure true
  else
    if decide (97 ≤ a0) then
      if decide (a0 ≤ 102) then
        M.pure true
      else
        if decide (65 ≤ a0) then
          M.pure (decide (a0 ≤ 70))
        else
          M.pure false
    else
      if decide (65 ≤ a0) then
        M.pure (decide (a0 ≤ 70))
      else
        M.pure false
abbrev q180_E (n : Nat) : Ent := ⟨180, [.one (.int .u8)], [tyB], fun x => toml_hexadecimal n x⟩
theorem toml_hexadecimal_ok (n : Nat) : FnOK Tryz.prog (q180_E n) := fn_c Tryz.f180 (C33 n) (hT := .m1 (K33 n))
abbrev C34 (n : Nat) : List Ent := q180_E n :: C33 n
theorem K34 (n : Nat) : AllOK Tryz.prog (C34 n) := .cons (toml_hexadecimal_ok n) (K33 n)
def toml_bare_D33 (n : Nat) (x : Value) (a0 : Int) : M (Bool) :=
  if isFn F_toml_digit x then
    M.bind (asFn [] x) fun (_ : Unit) => toml_digit n a0
  else if isFn F_toml_hexadecimal x then
    M.bind (asFn [] x) fun (_ : Unit) => toml_hexadecimal n a0
  else M.fail
def toml_bare_D42 (n : Nat) (x : Value) (a0 : Int) : M (Bool) :=
  if isFn F_toml_digit x then
    M.bind (asFn [] x) fun (_ : Unit) => toml_digit n a0
  else if isFn F_toml_hexadecimal x then
    M.bind (asFn [] x) fun (_ : Unit) => toml_hexadecimal n a0
  else M.fail
def toml_bare_L0_B (G : ByteArray → Value → Sl → Int → Int → M ((Sl) ⊕ (ByteArray × Bool))) (n : Nat) (a0 : ByteArray) (a1 : Value) (a2 : Sl) (a3 : Int) (a4 : Int) : M ((Sl) ⊕ (ByteArray × Bool)) :=
  if decide (a4 < a3) then
    M.bind (idxS a0 a4) fun x0 =>
    if !decide ((↑x0.toNat : Int) = 95) then
      M.bind (idxS a0 a4) fun x1 =>
      M.bind (app false a2 1 T_u8 1 [Value.int IntKind.u8 (↑x1.toNat : Int)]) fun x2 =>
      G a0 a1 x2 a3 (IntKind.i64.wrap (a4 + 1))
    else
      if decide (a4 = 0) then
        M.pure (Sum.inr ((ofBytes []), false))
      else
        if decide (IntKind.i64.wrap (a4 + 1) = (↑a0.size : Int)) then
          M.pure (Sum.inr ((ofBytes []), false))
        else
          M.bind (idxS a0 (IntKind.i64.wrap (a4 - 1))) fun x1 =>
          M.bind (toml_bare_D33 n a1 (↑x1.toNat : Int)) fun x2 =>
          if !x2 then
            M.pure (Sum.inr ((ofBytes []), false))
          else
            M.bind (idxS a0 (IntKind.i64.wrap (a4 + 1))) fun x3 =>
            M.bind (toml_bare_D42 n a1 (↑x3.toNat : Int)) fun x4 =>
            if !x4 then
              M.pure (Sum.inr ((ofBytes []), false))
            else
              G a0 a1 a2 a3 (IntKind.i64.wrap (a4 + 1))
  else
    M.pure (Sum.inl a2)
def toml_bare_L0 : Nat → ByteArray → Value → Sl → Int → Int → M ((Sl) ⊕ (ByteArray × Bool))
  | 0 => fun _ _ _ _ _ => M.fail
  | n + 1 => toml_bare_L0_B (toml_bare_L0 n) n
theorem toml_bare_L0_succ (n : Nat) : toml_bare_L0 (n + 1) = toml_bare_L0_B (toml_bare_L0 n) n := rfl
def toml_bare (n : Nat) (a0 : ByteArray) (a1 : Value) : M (ByteArray × Bool) :=
  M.bind (toml_bare_L0 n a0 a1 sl0 (↑a0.size : Int) 0) (sumElim (fun x0 =>
    M.bind (strOf x0) fun x1 =>
    M.pure (x1, true))
  (fun x0 =>
    M.pure (x0.1, x0.2)))
abbrev q181_E (n : Nat) : Ent := ⟨181, [tyS, tyR], [tyS, tyB], fun x => toml_bare n (x.1) (x.2)⟩
abbrev q181_L0 : L2 := ⟨[0, 1, 0, 1, 1], [(0, tyS), (1, tyR), (6, tyL), (9, tyI), (10, tyI)], [(6, tyL)], [(4, tyS), (5, tyB)], [4, 5, 6, 7] ++ List.range' 10 41, 0, .ret, fun n x => toml_bare_L0 n (x.1) (x.2.1) (x.2.2.1) (x.2.2.2.1) (x.2.2.2.2)⟩
abbrev q181_dt (n : Nat) : List DEnt := [⟨33, [.one (.int .u8)], [tyB], fun x a => toml_bare_D33 n x (a)⟩,
  ⟨42, [.one (.int .u8)], [tyB], fun x a => toml_bare_D42 n x (a)⟩]
theorem q181_dk (n : Nat) : AllD Tryz.prog (q181_dt n) := .cons (dent_ok (l := [⟨161, [], fun a _ => toml_digit n (a)⟩, ⟨180, [], fun a _ => toml_hexadecimal n (a)⟩]) (.cons (fun a c => callOK_cast (by kernel_rfl) ((toml_digit_ok n) (a))) (.cons (fun a c => callOK_cast (by kernel_rfl) ((toml_hexadecimal_ok n) (a))) .nil)) (fun x a => by kernel_rfl)) (.cons (dent_ok (l := [⟨161, [], fun a _ => toml_digit n (a)⟩, ⟨180, [], fun a _ => toml_hexadecimal n (a)⟩]) (.cons (fun a c => callOK_cast (by kernel_rfl) ((toml_digit_ok n) (a))) (.cons (fun a c => callOK_cast (by kernel_rfl) ((toml_hexadecimal_ok n) (a))) .nil)) (fun x a => by kernel_rfl)) .nil)
theorem q181_L0_ok (n : Nat) : LOK Tryz.prog Tryz.f181 (q181_L0.e n) q181_L0.ws := L2.ok Tryz.f181 q181_L0 n C34 (dt := q181_dt) (hT := fun m _ => ⟨.nil, K34 m, (q181_dk m), .nil, .nil⟩)
theorem toml_bare_ok (n : Nat) : FnOK Tryz.prog (q181_E n) := fn_c Tryz.f181 (C34 n) (dl := q181_dt n) (ll := [q181_L0.e n]) (hT := ⟨.nil, K34 n, (q181_dk n), (.cc (q181_L0_ok n) .nil), .nil⟩)
abbrev C35 (n : Nat) : List Ent := q181_E n :: C34 n
theorem K35 (n : Nat) : AllOK Tryz.prog (C35 n) := .cons (toml_bare_ok n) (K34 n)
def integer_known (n : Nat) (a0 : Int) : M (Bool) :=
  if decide (a0 = 2) then
    M.pure true
  else
    if decide (a0 = 8) then
      M.pure true
    else
      if decide (a0 = 10) then
        M.pure true
      else
        M.pure (decide (a0 = 16))
abbrev q203_E (n : Nat) : Ent := ⟨203, [tyI], [tyB], fun x => integer_known n x⟩
theorem integer_known_ok (n : Nat) : FnOK Tryz.prog (q203_E n) := fn_c Tryz.f203 (C35 n) (hT := .m1 (K35 n))
abbrev C36 (n : Nat) : List Ent := q203_E n :: C35 n
theorem K36 (n : Nat) : AllOK Tryz.prog (C36 n) := .cons (integer_known_ok n) (K35 n)
def integer_digit_J1 (n : Nat) (a0 : Int) : M (Int) :=
  if decide (65 ≤ a0) then
    if decide (a0 ≤ 70) then
      M.pure (IntKind.i64.wrap (IntKind.i64.wrap (IntKind.u8.wrap (a0 - 65)) + 10))
    else
      M.pure 99
  else
    M.pure 99
def integer_digit_J0 (n : Nat) (a0 : Int) : M (Int) :=
  if decide (97 ≤ a0) then
    if decide (a0 ≤ 102) then
      M.pure (IntKind.i64.wrap (IntKind.i64.wrap (IntKind.u8.wrap (a0 - 97)) + 10))
    else
      integer_digit_J1 n a0
  else
    integer_digit_J1 n a0
def integer_digit (n : Nat) (a0 : Int) : M (Int) :=
  if decide (48 ≤ a0) then
    if decide (a0 ≤ 57) then
      M.pure (IntKind.i64.wrap (IntKind.u8.wrap (a0 - 48)))
    else
      integer_digit_J0 n a0
  else
    integer_digit_J0 n a0
abbrev q204_E (n : Nat) : Ent := ⟨204, [.one (.int .u8)], [tyI], fun x => integer_digit n x⟩
abbrev q204_jt (n : Nat) : List (JEnt (Int)) := [⟨[0, 1, 1, 0, 0, 1], [.code [1, 1, 1, 0, 0, 1], .blk 0, .code [1, 1]], [(0, .one (.int .u8))], fun x => integer_digit_J0 n x⟩,
  ⟨[0, 1, 1, 1, 1, 0, 0, 1], [.code [1, 1, 1, 1, 1, 0, 0, 1], .blk 0, .code [1, 1]], [(0, .one (.int .u8))], fun x => integer_digit_J1 n x⟩]
theorem integer_digit_ok (n : Nat) : FnOK Tryz.prog (q204_E n) := fn_c Tryz.f204 (C36 n) (js := q204_jt n) (hT := ⟨.nil, K36 n, .nil, .nil, (.cc (.cc .nil))⟩)
abbrev C37 (n : Nat) : List Ent := q204_E n :: C36 n
theorem K37 (n : Nat) : AllOK Tryz.prog (C37 n) := .cons (integer_digit_ok n) (K36 n)
def integer_small_L0_B (G : Int → Sl → Int → Int → Int → M (Int)) (n : Nat) (a0 : Int) (a1 : Sl) (a2 : Int) (a3 : Int) (a4 : Int) : M (Int) :=
  if decide (a4 < a3) then
    M.bind (idxA a1 a4 1) fun x0 =>
    M.bind (ldL (.int IntKind.u8) x0) fun (x1 : Int) =>
    M.bind (ckM (decide (10 ≠ 0))) fun x2 =>
    M.bind (idxA a1 a4 1) fun x3 =>
    M.bind (stN x3 [Value.int IntKind.u8 (IntKind.u8.wrap ((IntKind.i64.wrap (a2 + IntKind.i64.wrap (IntKind.i64.wrap x1 * a0))).tmod 10))]) fun x4 =>
    M.bind (ckM (decide (10 ≠ 0))) fun x5 =>
    G a0 a1 (IntKind.i64.wrap ((IntKind.i64.wrap (a2 + IntKind.i64.wrap (IntKind.i64.wrap x1 * a0))).tdiv 10)) a3 (IntKind.i64.wrap (a4 + 1))
  else
    M.pure a2
def integer_small_L0 : Nat → Int → Sl → Int → Int → Int → M (Int)
  | 0 => fun _ _ _ _ _ => M.fail
  | n + 1 => integer_small_L0_B (integer_small_L0 n) n
theorem integer_small_L0_succ (n : Nat) : integer_small_L0 (n + 1) = integer_small_L0_B (integer_small_L0 n) n := rfl
def integer_small_L1_B (G : Sl → Int → M (Sl)) (n : Nat) (a0 : Sl) (a1 : Int) : M (Sl) :=
  if decide (0 < a1) then
    M.bind (ckM (decide (10 ≠ 0))) fun x0 =>
    M.bind (app false a0 1 T_u8 1 [Value.int IntKind.u8 (IntKind.u8.wrap (a1.tmod 10))]) fun x1 =>
    M.bind (ckM (decide (10 ≠ 0))) fun x2 =>
    G x1 (IntKind.i64.wrap (a1.tdiv 10))
  else
    M.pure a0
def integer_small_L1 : Nat → Sl → Int → M (Sl)
  | 0 => fun _ _ => M.fail
  | n + 1 => integer_small_L1_B (integer_small_L1 n) n
theorem integer_small_L1_succ (n : Nat) : integer_small_L1 (n + 1) = integer_small_L1_B (integer_small_L1 n) n := rfl
def integer_small (n : Nat) (a0 : Sl) (a1 : Int) (a2 : Int) : M (Sl) :=
  M.bind (mkS none T_u8 [Value.int IntKind.u8 0] (↑a0.len : Int) (IntKind.i64.wrap ((↑a0.len : Int) + 4))) fun x0 =>
  M.bind (copyS x0 a0 1) fun x1 =>
  M.bind (integer_small_L0 n a1 x0 a2 (↑x0.len : Int) 0) fun x2 =>
  M.bind (integer_small_L1 n x0 x2) fun x3 =>
  M.pure x3
abbrev q205_E (n : Nat) : Ent := ⟨205, [tyL, tyI, tyI], [tyL], fun x => integer_small n (x.1) (x.2.1) (x.2.2)⟩
abbrev q205_L0 : L1 := ⟨[0, 1, 0, 1, 1, 1, 1], [(1, tyI), (7, tyL), (8, tyI), (21, tyI), (22, tyI)], [(8, tyI)], [8, 9] ++ List.range' 22 21, 0, fun n x => integer_small_L0 n (x.1) (x.2.1) (x.2.2.1) (x.2.2.2.1) (x.2.2.2.2)⟩
abbrev q205_L1 : L1 := ⟨[0, 0, 1, 1, 1, 1, 1], [(7, tyL), (8, tyI)], [(7, tyL)], [7, 8] ++ List.range' 43 10, 2, fun n x => integer_small_L1 n (x.1) (x.2)⟩
theorem q205_L0_ok (n : Nat) : LOK Tryz.prog Tryz.f205 (q205_L0.e n) q205_L0.ws := L1.ok Tryz.f205 q205_L0 n C37 (hT := fun m _ => .m1 (K37 m))
theorem q205_L1_ok (n : Nat) : LOK Tryz.prog Tryz.f205 (q205_L1.e n) q205_L1.ws := L1.ok Tryz.f205 q205_L1 n C37 (hT := fun m _ => .m1 (K37 m))
theorem integer_small_ok (n : Nat) : FnOK Tryz.prog (q205_E n) := fn_c Tryz.f205 (C37 n) (ll := [q205_L0.e n, q205_L1.e n]) (hT := ⟨.nil, K37 n, .nil, (.cc (q205_L0_ok n) (.cc (q205_L1_ok n) .nil)), .nil⟩)
abbrev C38 (n : Nat) : List Ent := q205_E n :: C37 n
theorem K38 (n : Nat) : AllOK Tryz.prog (C38 n) := .cons (integer_small_ok n) (K37 n)
def integer_number_text_L0_B (G : Addr → Sl → Int → Int → M (Unit)) (n : Nat) (a0 : Addr) (a1 : Sl) (a2 : Int) (a3 : Int) : M (Unit) :=
  if decide (a3 < a2) then
    M.bind (ldL .sl (a0.plus 1)) fun (x0 : Sl) =>
    M.bind (ldL .sl (a0.plus 1)) fun (x1 : Sl) =>
    M.bind (idxA x1 a3 1) fun x2 =>
    M.bind (ldL (.int IntKind.u8) x2) fun (x3 : Int) =>
    M.bind (idxA a1 (IntKind.i64.wrap (IntKind.i64.wrap ((↑x0.len : Int) - 1) - a3)) 1) fun x4 =>
    M.bind (stN x4 [Value.int IntKind.u8 (IntKind.u8.wrap (48 + x3))]) fun x5 =>
    G a0 a1 a2 (IntKind.i64.wrap (a3 + 1))
  else
    M.pure ()
def integer_number_text_L0 : Nat → Addr → Sl → Int → Int → M (Unit)
  | 0 => fun _ _ _ _ => M.fail
  | n + 1 => integer_number_text_L0_B (integer_number_text_L0 n) n
theorem integer_number_text_L0_succ (n : Nat) : integer_number_text_L0 (n + 1) = integer_number_text_L0_B (integer_number_text_L0 n) n := rfl
def integer_number_text (n : Nat) (a0 : Bool × Sl) : M (ByteArray × Int) :=
  M.bind (newB none T_integer_number [Value.bool a0.1, vsl a0.2]) fun x0 =>
  M.bind (ldL .sl ((adr x0).plus 1)) fun (x1 : Sl) =>
  if decide (400 < (↑x1.len : Int)) then
    M.pure ((ofBytes []), 6)
  else
    M.bind (ldL .sl ((adr x0).plus 1)) fun (x2 : Sl) =>
    if decide ((↑x2.len : Int) = 0) then
      M.pure ((ofBytes [48]), 0)
    else
      M.bind (ldL .sl ((adr x0).plus 1)) fun (x3 : Sl) =>
      M.bind (mkS none T_u8 [Value.int IntKind.u8 0] (↑x3.len : Int) (↑x3.len : Int)) fun x4 =>
      M.bind (ldL .sl ((adr x0).plus 1)) fun (x5 : Sl) =>
      M.bind (integer_number_text_L0 n (adr x0) x4 (↑x5.len : Int) 0) fun x6 =>
      M.bind (ldL .bool ((adr x0).plus 0)) fun (x7 : Bool) =>
      if x7 then
        M.bind (strOf x4) fun x8 =>
        M.bind (catS (ofBytes [45]) x8) fun x9 =>
        M.pure (x9, 0)
      else
        M.bind (strOf x4) fun x8 =>
        M.pure (x8, 0)
abbrev q206_E (n : Nat) : Ent := ⟨206, [.agg [.bool, .sl]], [tyS, tyI], fun x => integer_number_text n x⟩
abbrev q206_L0 : L1 := ⟨[0, 1, 0, 1, 1, 1, 1], [(1, tyA), (4, tyL), (20, tyI), (21, tyI)], [], [5] ++ List.range' 21 18, 0, fun n x => integer_number_text_L0 n (x.1) (x.2.1) (x.2.2.1) (x.2.2.2)⟩
def q206_dr (i : Nat) : Option (List (Nat × List Nat)) := cond (Nat.beq i 9) (some [(0, []), (1, []), (5, []), (7, []), (9, []), (2, []), (3, []), (4, []), (6, []), (8, []), (10, []), (11, []), (12, []), (13, []), (14, [])]) (none)
theorem q206_L0_ok (n : Nat) : LOK Tryz.prog Tryz.f206 (q206_L0.e n) q206_L0.ws := L1.ok Tryz.f206 q206_L0 n C38 (dr := q206_dr) (hT := fun m _ => .m1 (K38 m))
theorem integer_number_text_ok (n : Nat) : FnOK Tryz.prog (q206_E n) := fn_c Tryz.f206 (C38 n) (ll := [q206_L0.e n]) (dr := q206_dr) (hT := ⟨.nil, K38 n, .nil, (.cc (q206_L0_ok n) .nil), .nil⟩)
abbrev C39 (n : Nat) : List Ent := q206_E n :: C38 n
theorem K39 (n : Nat) : AllOK Tryz.prog (C39 n) := .cons (integer_number_text_ok n) (K38 n)
def integer_Parse_L2_B (G : ByteArray → Int → Addr → Int → Int → M (Unit)) (n : Nat) (a0 : ByteArray) (a1 : Int) (a2 : Addr) (a3 : Int) (a4 : Int) : M (Unit) :=
  if decide (a4 < a3) then
    M.bind (idxS a0 a4) fun x0 =>
    M.bind (ldL .sl (a2.plus 1)) fun (x1 : Sl) =>
    M.bind (chk [some (a2.plus 1)] (integer_digit n (↑x0.toNat : Int))) fun x2 =>
    M.bind (integer_small n x1 a1 x2) fun x3 =>
    M.bind (stN (a2.plus 1) [vsl x3]) fun x4 =>
    G a0 a1 a2 a3 (IntKind.i64.wrap (a4 + 1))
  else
    M.pure ()
def integer_Parse_L2 : Nat → ByteArray → Int → Addr → Int → Int → M (Unit)
  | 0 => fun _ _ _ _ _ => M.fail
  | n + 1 => integer_Parse_L2_B (integer_Parse_L2 n) n
theorem integer_Parse_L2_succ (n : Nat) : integer_Parse_L2 (n + 1) = integer_Parse_L2_B (integer_Parse_L2 n) n := rfl
def integer_Parse_L0_B (G : ByteArray → Int → Addr → Int → Int → M ((Unit) ⊕ (ByteArray × Int))) (n : Nat) (a0 : ByteArray) (a1 : Int) (a2 : Addr) (a3 : Int) (a4 : Int) : M ((Unit) ⊕ (ByteArray × Int)) :=
  if decide (a4 < a3) then
    M.bind (idxS a0 a4) fun x0 =>
    M.bind (integer_digit n (↑x0.toNat : Int)) fun x1 =>
    if decide (a1 ≤ x1) then
      M.pure (Sum.inr ((ofBytes []), 3))
    else
      G a0 a1 a2 a3 (IntKind.i64.wrap (a4 + 1))
  else
    M.pure (Sum.inl ())
def integer_Parse_L0 : Nat → ByteArray → Int → Addr → Int → Int → M ((Unit) ⊕ (ByteArray × Int))
  | 0 => fun _ _ _ _ _ => M.fail
  | n + 1 => integer_Parse_L0_B (integer_Parse_L0 n) n
theorem integer_Parse_L0_succ (n : Nat) : integer_Parse_L0 (n + 1) = integer_Parse_L0_B (integer_Parse_L0 n) n := rfl
def integer_Parse_L1_B (G : ByteArray → Int → Addr → M (ByteArray)) (n : Nat) (a0 : ByteArray) (a1 : Int) (a2 : Addr) : M (ByteArray) :=
  if !eqS a0 (ofBytes []) then
    M.bind (idxS a0 0) fun x0 =>
    if decide ((↑x0.toNat : Int) = 48) then
      M.bind (sliceS a0 1 (↑a0.size : Int)) fun x1 =>
      G x1 a1 a2
    else
      M.pure a0
  else
    M.pure a0
def integer_Parse_L1 : Nat → ByteArray → Int → Addr → M (ByteArray)
  | 0 => fun _ _ _ => M.fail
  | n + 1 => integer_Parse_L1_B (integer_Parse_L1 n) n
theorem integer_Parse_L1_succ (n : Nat) : integer_Parse_L1 (n + 1) = integer_Parse_L1_B (integer_Parse_L1 n) n := rfl
def integer_Parse_J0 (n : Nat) (a0 : ByteArray) (a1 : Int) (a2 : Addr) : M (ByteArray × Int) :=
  if eqS a0 (ofBytes []) then
    M.pure ((ofBytes []), 3)
  else
    M.bind (integer_Parse_L0 n a0 a1 a2 (↑a0.size : Int) 0) (sumElim (fun x0 =>
      M.bind (integer_Parse_L1 n a0 a1 a2) fun x1 =>
      if decide (1600 < (↑(ByteArray.size x1) : Int)) then
        M.pure ((ofBytes []), 6)
      else
        M.bind (integer_Parse_L2 n x1 a1 a2 (↑(ByteArray.size x1) : Int) 0) fun x2 =>
        M.bind (ldLs [.bool, .sl] a2) fun (x3 : Bool × Sl) =>
        M.bind (integer_number_text n (x3.1, x3.2)) fun x4 =>
        M.pure (x4.1, x4.2))
    (fun x0 =>
      M.pure (x0.1, x0.2)))
def integer_Parse (n : Nat) (a0 : ByteArray) (a1 : Int) : M (ByteArray × Int) :=
  M.bind (integer_known n a1) fun x0 =>
  if !x0 then
    M.pure ((ofBytes []), 1)
  else
    M.bind (newB none T_integer_number [Value.bool false, vsl0]) fun x1 =>
    M.bind (stN (adr x1) [Value.bool false, vsl0]) fun x2 =>
    if !eqS a0 (ofBytes []) then
      M.bind (idxS a0 0) fun x3 =>
      if decide ((↑x3.toNat : Int) = 43) then
        M.bind (idxS a0 0) fun x4 =>
        M.bind (stN ((adr x1).plus 0) [Value.bool (decide ((↑x4.toNat : Int) = 45))]) fun x5 =>
        M.bind (sliceS a0 1 (↑a0.size : Int)) fun x6 =>
        integer_Parse_J0 n x6 a1 (adr x1)
      else
        M.bind (idxS a0 0) fun x4 =>
        if decide ((↑x4.toNat : Int) = 45) then
          M.bind (idxS a0 0) fun x5 =>
          M.bind (stN ((adr x1).plus 0) [Value.bool (decide ((↑x5.toNat : Int) = 45))]) fun x6 =>
          M.bind (sliceS a0 1 (↑a0.size : Int)) fun x7 =>
          integer_Parse_J0 n x7 a1 (adr x1)
        else
          integer_Parse_J0 n a0 a1 (adr x1)
    else
      integer_Parse_J0 n a0 a1 (adr x1)
abbrev q194_E (n : Nat) : Ent := ⟨194, [tyS, tyI], [tyS, tyI], fun x => integer_Parse n (x.1) (x.2)⟩
abbrev q194_L0 : L2 := ⟨[0, 1, 0, 1, 1, 1, 1, 1], [(0, tyS), (1, tyI), (6, tyA), (34, tyI), (35, tyI)], [], [(4, tyS), (5, tyI)], [4, 5, 7] ++ List.range' 35 10, 0, .ret, fun n x => integer_Parse_L0 n (x.1) (x.2.1) (x.2.2.1) (x.2.2.2.1) (x.2.2.2.2)⟩
abbrev q194_L1 : L1 := ⟨[0, 0, 1, 1, 1, 1, 1, 1], [(0, tyS), (1, tyI), (6, tyA)], [(0, tyS)], [0] ++ List.range' 45 9, 2, fun n x => integer_Parse_L1 n (x.1) (x.2.1) (x.2.2)⟩
abbrev q194_L2 : L1 := ⟨[0, 1, 0, 1, 1, 1, 1, 1, 1, 1, 1], [(0, tyS), (1, tyI), (6, tyA), (58, tyI), (59, tyI)], [], [8] ++ List.range' 59 13, 4, fun n x => integer_Parse_L2 n (x.1) (x.2.1) (x.2.2.1) (x.2.2.2.1) (x.2.2.2.2)⟩
def q194_dr (i : Nat) : Option (List (Nat × List Nat)) := cond (Nat.beq i 22) (some [(0, []), (2, []), (3, []), (4, []), (5, []), (1, []), (6, [1]), (7, []), (8, []), (9, [])]) (none)
abbrev q194_jt (n : Nat) : List (JEnt (ByteArray × Int)) := [⟨[0, 0, 1, 1, 1, 1], [.code [1, 0, 1, 1, 1, 1], .code [1, 1, 1, 1, 1]], [(0, tyS), (1, tyI), (6, tyA)], fun x => integer_Parse_J0 n (x.1) (x.2.1) (x.2.2)⟩]
theorem q194_L2_ok (n : Nat) : LOK Tryz.prog Tryz.f194 (q194_L2.e n) q194_L2.ws := L1.ok Tryz.f194 q194_L2 n C39 (dr := q194_dr) (hT := fun m _ => .m1 (K39 m))
theorem q194_L0_ok (n : Nat) : LOK Tryz.prog Tryz.f194 (q194_L0.e n) q194_L0.ws := L2.ok Tryz.f194 q194_L0 n C39 (dr := q194_dr) (hT := fun m _ => .m1 (K39 m))
theorem q194_L1_ok (n : Nat) : LOK Tryz.prog Tryz.f194 (q194_L1.e n) q194_L1.ws := L1.ok Tryz.f194 q194_L1 n C39 (dr := q194_dr) (hT := fun m _ => .m1 (K39 m))
theorem integer_Parse_ok (n : Nat) : FnOK Tryz.prog (q194_E n) := fn_c Tryz.f194 (C39 n) (ll := [q194_L0.e n, q194_L1.e n, q194_L2.e n]) (dr := q194_dr) (js := q194_jt n) (hT := ⟨.nil, K39 n, .nil, (.cc (q194_L0_ok n) (.cc (q194_L1_ok n) (.cc (q194_L2_ok n) .nil))), (.cc .nil)⟩)
abbrev C40 (n : Nat) : List Ent := q194_E n :: C39 n
theorem K40 (n : Nat) : AllOK Tryz.prog (C40 n) := .cons (integer_Parse_ok n) (K39 n)
def integer_trim_L0_B (G : Sl → M (Sl)) (n : Nat) (a0 : Sl) : M (Sl) :=
  if decide (0 < (↑a0.len : Int)) then
    M.bind (idxA a0 (IntKind.i64.wrap ((↑a0.len : Int) - 1)) 1) fun x0 =>
    M.bind (ldL (.int IntKind.u8) x0) fun (x1 : Int) =>
    if decide (x1 = 0) then
      M.bind (sliceL a0 0 (IntKind.i64.wrap ((↑a0.len : Int) - 1)) T_u8 1) fun x2 =>
      G x2
    else
      M.pure a0
  else
    M.pure a0
def integer_trim_L0 : Nat → Sl → M (Sl)
  | 0 => fun _ => M.fail
  | n + 1 => integer_trim_L0_B (integer_trim_L0 n) n
theorem integer_trim_L0_succ (n : Nat) : integer_trim_L0 (n + 1) = integer_trim_L0_B (integer_trim_L0 n) n := rfl
def integer_trim (n : Nat) (a0 : Sl) : M (Sl) :=
  M.bind (integer_trim_L0 n a0) fun x0 =>
  M.pure x0
abbrev q219_E (n : Nat) : Ent := ⟨219, [tyL], [tyL], fun x => integer_trim n x⟩
abbrev q219_L0 : L1 := ⟨[0, 0, 1], [(0, tyL)], [(0, tyL)], [0] ++ List.range' 3 17, 0, fun n x => integer_trim_L0 n x⟩
theorem q219_L0_ok (n : Nat) : LOK Tryz.prog Tryz.f219 (q219_L0.e n) q219_L0.ws := L1.ok Tryz.f219 q219_L0 n C40 (hT := fun m _ => .m1 (K40 m))
theorem integer_trim_ok (n : Nat) : FnOK Tryz.prog (q219_E n) := fn_c Tryz.f219 (C40 n) (ll := [q219_L0.e n]) (hT := ⟨.nil, K40 n, .nil, (.cc (q219_L0_ok n) .nil), .nil⟩)
abbrev C41 (n : Nat) : List Ent := q219_E n :: C40 n
theorem K41 (n : Nat) : AllOK Tryz.prog (C41 n) := .cons (integer_trim_ok n) (K40 n)
def integer_read_L0_J0_B (G : Addr → Addr → ByteArray → Int → Int → M ((Unit) ⊕ (Bool))) (n : Nat) (a0 : Addr) (a1 : Addr) (a2 : ByteArray) (a3 : Int) (a4 : Int) (a5 : Int) : M ((Unit) ⊕ (Bool)) :=
  M.bind (idxS a2 a3) fun x0 =>
  M.bind (ldL .sl (a1.plus 1)) fun (x1 : Sl) =>
  M.bind (idxA x1 (IntKind.i64.wrap (IntKind.i64.wrap ((↑a2.size : Int) - 1) - a3)) 1) fun x2 =>
  M.bind (stN x2 [Value.int IntKind.u8 (IntKind.u8.wrap ((↑x0.toNat : Int) - 48))]) fun x3 =>
  G a0 a1 a2 a4 (IntKind.i64.wrap (a5 + 1))
def integer_read_L0_B (G : Addr → Addr → ByteArray → Int → Int → M ((Unit) ⊕ (Bool))) (n : Nat) (a0 : Addr) (a1 : Addr) (a2 : ByteArray) (a3 : Int) (a4 : Int) : M ((Unit) ⊕ (Bool)) :=
  if decide (a4 < a3) then
    M.bind (idxS a2 a4) fun x0 =>
    if decide ((↑x0.toNat : Int) < 48) then
      M.bind (stN a0 [Value.bool false, vsl0]) fun x1 =>
      M.pure (Sum.inr false)
    else
      M.bind (idxS a2 a4) fun x1 =>
      if decide (57 < (↑x1.toNat : Int)) then
        M.bind (stN a0 [Value.bool false, vsl0]) fun x2 =>
        M.pure (Sum.inr false)
      else
        integer_read_L0_J0_B G n a0 a1 a2 a4 a3 a4
  else
    M.pure (Sum.inl ())
def integer_read_L0 : Nat → Addr → Addr → ByteArray → Int → Int → M ((Unit) ⊕ (Bool))
  | 0 => fun _ _ _ _ _ => M.fail
  | n + 1 => integer_read_L0_B (integer_read_L0 n) n
theorem integer_read_L0_succ (n : Nat) : integer_read_L0 (n + 1) = integer_read_L0_B (integer_read_L0 n) n := rfl
def integer_read_L0_J0 (n : Nat) := integer_read_L0_J0_B (integer_read_L0 n) n
def integer_read_J1 (n : Nat) (a0 : Addr) (a1 : Addr) (a2 : ByteArray) : M ((Bool × Sl) × Bool) :=
  M.bind (mkS none T_u8 [Value.int IntKind.u8 0] (↑a2.size : Int) (↑a2.size : Int)) fun x0 =>
  M.bind (stN (a1.plus 1) [vsl x0]) fun x1 =>
  M.bind (integer_read_L0 n a0 a1 a2 (↑a2.size : Int) 0) (sumElim (fun x2 =>
    M.bind (ldL .sl (a1.plus 1)) fun (x3 : Sl) =>
    M.bind (integer_trim n x3) fun x4 =>
    M.bind (stN (a1.plus 1) [vsl x4]) fun x5 =>
    M.bind (ldLs [.bool, .sl] a1) fun (x6 : Bool × Sl) =>
    M.bind (stN a0 [Value.bool x6.1, vsl x6.2]) fun x7 =>
    M.bind (ldLs [.bool, .sl] a0) fun (x8 : Bool × Sl) =>
    M.pure ((x8.1, x8.2), true))
  (fun x2 =>
    M.bind (ldLs [.bool, .sl] a0) fun (x3 : Bool × Sl) =>
    M.pure ((x3.1, x3.2), x2)))
def integer_read_J0 (n : Nat) (a0 : ByteArray) (a1 : Addr) (a2 : Addr) (a3 : ByteArray) : M ((Bool × Sl) × Bool) :=
  if decide ((↑a3.size : Int) = 0) then
    M.bind (stN a1 [Value.bool false, vsl0]) fun x0 =>
    M.bind (ldLs [.bool, .sl] a1) fun (x1 : Bool × Sl) =>
    M.pure ((x1.1, x1.2), false)
  else
    if decide (400 < (↑a3.size : Int)) then
      M.bind (stN a1 [Value.bool false, vsl0]) fun x0 =>
      M.bind (ldLs [.bool, .sl] a1) fun (x1 : Bool × Sl) =>
      M.pure ((x1.1, x1.2), false)
    else
      M.bind (idxS a3 0) fun x0 =>
      if decide ((↑x0.toNat : Int) = 48) then
        if decide (1 < (↑a0.size : Int)) then
          M.bind (stN a1 [Value.bool false, vsl0]) fun x1 =>
          M.bind (ldLs [.bool, .sl] a1) fun (x2 : Bool × Sl) =>
          M.pure ((x2.1, x2.2), false)
        else
          integer_read_J1 n a1 a2 a3
      else
        integer_read_J1 n a1 a2 a3
def integer_read (n : Nat) (a0 : ByteArray) : M ((Bool × Sl) × Bool) :=
  M.bind (newB none T_integer_number [Value.bool false, vsl0]) fun x0 =>
  M.bind (newB none T_integer_number [Value.bool false, vsl0]) fun x1 =>
  M.bind (stN (adr x1) [Value.bool false, vsl0]) fun x2 =>
  if decide (1 < (↑a0.size : Int)) then
    M.bind (idxS a0 0) fun x3 =>
    if decide ((↑x3.toNat : Int) = 45) then
      M.bind (stN ((adr x1).plus 0) [Value.bool true]) fun x4 =>
      M.bind (sliceS a0 1 (↑a0.size : Int)) fun x5 =>
      integer_read_J0 n a0 (adr x0) (adr x1) x5
    else
      integer_read_J0 n a0 (adr x0) (adr x1) a0
  else
    integer_read_J0 n a0 (adr x0) (adr x1) a0
abbrev q207_E (n : Nat) : Ent := ⟨207, [tyS], [.agg [.bool, .sl], tyB], fun x => integer_read n x⟩
abbrev q207_L0 : L2 := ⟨[0, 1, 0, 1, 1, 1, 1, 1, 1], [(2, tyA), (4, tyA), (5, tyS), (44, tyI), (45, tyI)], [], [(3, tyB)], [3, 6] ++ List.range' 45 27, 0, .ret, fun n x => integer_read_L0 n (x.1) (x.2.1) (x.2.2.1) (x.2.2.2.1) (x.2.2.2.2)⟩
def q207_dr (i : Nat) : Option (List (Nat × List Nat)) := cond (Nat.beq i 14) (some [(0, []), (2, []), (3, []), (4, []), (5, []), (6, []), (7, []), (8, []), (9, []), (10, []), (1, []), (11, []), (12, [])]) (none)
abbrev q207_L0_jt (n : Nat) : List (JEnt ((Unit) ⊕ (Bool))) := [⟨[1, 1, 0, 0, 1, 1, 0, 0, 1, 0, 1, 1, 1, 1, 1, 1], [.blk 1, .code [1, 1, 1, 0, 0, 1, 0, 1, 1, 1, 1, 1, 1]], [(2, tyA), (4, tyA), (5, tyS), (6, tyI), (44, tyI), (45, tyI)], fun x => integer_read_L0_J0 n (x.1) (x.2.1) (x.2.2.1) (x.2.2.2.1) (x.2.2.2.2.1) (x.2.2.2.2.2)⟩]
abbrev q207_jt (n : Nat) : List (JEnt ((Bool × Sl) × Bool)) := [⟨[0, 0, 1, 1, 1, 1], [.code [1, 0, 1, 1, 1, 1], .code [1, 1, 1, 1, 1]], [(0, tyS), (2, tyA), (4, tyA), (5, tyS)], fun x => integer_read_J0 n (x.1) (x.2.1) (x.2.2.1) (x.2.2.2)⟩,
  ⟨[0, 1, 1, 1, 1, 1], [.code [1, 1, 1, 1, 1, 1]], [(2, tyA), (4, tyA), (5, tyS)], fun x => integer_read_J1 n (x.1) (x.2.1) (x.2.2)⟩]
theorem q207_L0_ok (n : Nat) : LOK Tryz.prog Tryz.f207 (q207_L0.e n) q207_L0.ws := L2.ok Tryz.f207 q207_L0 n C41 (dr := q207_dr) (jt := q207_L0_jt) (hT := fun m _ => ⟨.nil, K41 m, .nil, .nil, (.cc .nil)⟩)
theorem integer_read_ok (n : Nat) : FnOK Tryz.prog (q207_E n) := fn_c Tryz.f207 (C41 n) (ll := [q207_L0.e n]) (dr := q207_dr) (js := q207_jt n) (hT := ⟨.nil, K41 n, .nil, (.cc (q207_L0_ok n) .nil), (.cc (.cc .nil))⟩)
abbrev C42 (n : Nat) : List Ent := q207_E n :: C41 n
theorem K42 (n : Nat) : AllOK Tryz.prog (C42 n) := .cons (integer_read_ok n) (K41 n)
def integer_plus_L0_J0_B (G : Sl → Sl → Int → Int → Int → M (Unit)) (n : Nat) (a0 : Sl) (a1 : Sl) (a2 : Int) (a3 : Int) (a4 : Int) (a5 : Int) : M (Unit) :=
  M.bind (idxA a1 a3 1) fun x0 =>
  M.bind (ldL (.int IntKind.u8) x0) fun (x1 : Int) =>
  M.bind (ckM (decide (10 ≠ 0))) fun x2 =>
  M.bind (idxA a1 a3 1) fun x3 =>
  M.bind (stN x3 [Value.int IntKind.u8 ((IntKind.u8.wrap (a2 + x1)).tmod 10)]) fun x4 =>
  M.bind (ckM (decide (10 ≠ 0))) fun x5 =>
  G a0 a1 (IntKind.u8.wrap ((IntKind.u8.wrap (a2 + x1)).tdiv 10)) a4 (IntKind.i64.wrap (a5 + 1))
def integer_plus_L0_B (G : Sl → Sl → Int → Int → Int → M (Unit)) (n : Nat) (a0 : Sl) (a1 : Sl) (a2 : Int) (a3 : Int) (a4 : Int) : M (Unit) :=
  if decide (a4 < a3) then
    if decide (a4 < (↑a0.len : Int)) then
      M.bind (idxA a0 a4 1) fun x0 =>
      M.bind (ldL (.int IntKind.u8) x0) fun (x1 : Int) =>
      integer_plus_L0_J0_B G n a0 a1 (IntKind.u8.wrap (a2 + x1)) a4 a3 a4
    else
      integer_plus_L0_J0_B G n a0 a1 a2 a4 a3 a4
  else
    M.pure ()
def integer_plus_L0 : Nat → Sl → Sl → Int → Int → Int → M (Unit)
  | 0 => fun _ _ _ _ _ => M.fail
  | n + 1 => integer_plus_L0_B (integer_plus_L0 n) n
theorem integer_plus_L0_succ (n : Nat) : integer_plus_L0 (n + 1) = integer_plus_L0_B (integer_plus_L0 n) n := rfl
def integer_plus_L0_J0 (n : Nat) := integer_plus_L0_J0_B (integer_plus_L0 n) n
def integer_plus_J0 (n : Nat) (a0 : Sl) (a1 : Sl) : M (Sl) :=
  M.bind (mkS none T_u8 [Value.int IntKind.u8 0] (IntKind.i64.wrap ((↑a0.len : Int) + 1)) (IntKind.i64.wrap ((↑a0.len : Int) + 1))) fun x0 =>
  M.bind (copyS x0 a0 1) fun x1 =>
  M.bind (integer_plus_L0 n a1 x0 0 (↑x0.len : Int) 0) fun x2 =>
  M.bind (integer_trim n x0) fun x3 =>
  M.pure x3
def integer_plus (n : Nat) (a0 : Sl) (a1 : Sl) : M (Sl) :=
  if decide ((↑a0.len : Int) < (↑a1.len : Int)) then
    integer_plus_J0 n a1 a0
  else
    integer_plus_J0 n a0 a1
abbrev q208_E (n : Nat) : Ent := ⟨208, [tyL, tyL], [tyL], fun x => integer_plus n (x.1) (x.2)⟩
abbrev q208_L0 : L1 := ⟨[0, 1, 0, 1, 1, 1, 1, 1], [(1, tyL), (5, tyL), (6, .one (.int .u8)), (23, tyI), (24, tyI)], [], [6, 7] ++ List.range' 24 27, 0, fun n x => integer_plus_L0 n (x.1) (x.2.1) (x.2.2.1) (x.2.2.2.1) (x.2.2.2.2)⟩
abbrev q208_L0_jt (n : Nat) : List (JEnt (Unit)) := [⟨[0, 1, 1, 0, 0, 1, 1, 0, 0, 1, 0, 1, 1, 1, 1, 1], [.code [1, 1, 1, 0, 0, 1, 1, 0, 0, 1, 0, 1, 1, 1, 1, 1], .blk 1, .code [1, 1, 1, 0, 0, 1, 0, 1, 1, 1, 1, 1]], [(1, tyL), (5, tyL), (6, .one (.int .u8)), (7, tyI), (23, tyI), (24, tyI)], fun x => integer_plus_L0_J0 n (x.1) (x.2.1) (x.2.2.1) (x.2.2.2.1) (x.2.2.2.2.1) (x.2.2.2.2.2)⟩]
abbrev q208_jt (n : Nat) : List (JEnt (Sl)) := [⟨[0, 1, 1], [.code [1, 1, 1]], [(0, tyL), (1, tyL)], fun x => integer_plus_J0 n (x.1) (x.2)⟩]
theorem q208_L0_ok (n : Nat) : LOK Tryz.prog Tryz.f208 (q208_L0.e n) q208_L0.ws := L1.ok Tryz.f208 q208_L0 n C42 (jt := q208_L0_jt) (hT := fun m _ => ⟨.nil, K42 m, .nil, .nil, (.cc .nil)⟩)
theorem integer_plus_ok (n : Nat) : FnOK Tryz.prog (q208_E n) := fn_c Tryz.f208 (C42 n) (ll := [q208_L0.e n]) (js := q208_jt n) (hT := ⟨.nil, K42 n, .nil, (.cc (q208_L0_ok n) .nil), (.cc .nil)⟩)
abbrev C43 (n : Nat) : List Ent := q208_E n :: C42 n
theorem K43 (n : Nat) : AllOK Tryz.prog (C43 n) := .cons (integer_plus_ok n) (K42 n)
def integer_size_L0_B (G : Sl → Sl → Int → M ((Unit) ⊕ (Int))) (n : Nat) (a0 : Sl) (a1 : Sl) (a2 : Int) : M ((Unit) ⊕ (Int)) :=
  if decide (0 ≤ a2) then
    M.bind (idxA a0 a2 1) fun x0 =>
    M.bind (idxA a1 a2 1) fun x1 =>
    M.bind (ldL (.int IntKind.u8) x0) fun (x2 : Int) =>
    M.bind (ldL (.int IntKind.u8) x1) fun (x3 : Int) =>
    if !decide (x2 = x3) then
      M.bind (idxA a0 a2 1) fun x4 =>
      M.bind (idxA a1 a2 1) fun x5 =>
      M.bind (ldL (.int IntKind.u8) x4) fun (x6 : Int) =>
      M.bind (ldL (.int IntKind.u8) x5) fun (x7 : Int) =>
      if decide (x6 < x7) then
        M.pure (Sum.inr (-1))
      else
        M.pure (Sum.inr 1)
    else
      G a0 a1 (IntKind.i64.wrap (a2 - 1))
  else
    M.pure (Sum.inl ())
def integer_size_L0 : Nat → Sl → Sl → Int → M ((Unit) ⊕ (Int))
  | 0 => fun _ _ _ => M.fail
  | n + 1 => integer_size_L0_B (integer_size_L0 n) n
theorem integer_size_L0_succ (n : Nat) : integer_size_L0 (n + 1) = integer_size_L0_B (integer_size_L0 n) n := rfl
def integer_size (n : Nat) (a0 : Sl) (a1 : Sl) : M (Int) :=
  if !decide ((↑a0.len : Int) = (↑a1.len : Int)) then
    if decide ((↑a0.len : Int) < (↑a1.len : Int)) then
      M.pure (-1)
    else
      M.pure 1
  else
    M.bind (integer_size_L0 n a0 a1 (IntKind.i64.wrap ((↑a0.len : Int) - 1))) (sumElim (fun x0 =>
      M.pure 0)
    (fun x0 =>
      M.pure x0))
abbrev q209_E (n : Nat) : Ent := ⟨209, [tyL, tyL], [tyI], fun x => integer_size n (x.1) (x.2)⟩
abbrev q209_L0 : L2 := ⟨[0, 1, 0, 1, 1], [(0, tyL), (1, tyL), (5, tyI)], [], [(4, tyI)], [4, 5] ++ List.range' 19 22, 0, .ret, fun n x => integer_size_L0 n (x.1) (x.2.1) (x.2.2)⟩
def q209_dr (i : Nat) : Option (List (Nat × List Nat)) := cond (Nat.beq i 8) (some [(0, []), (1, []), (2, []), (4, []), (5, []), (6, []), (3, []), (7, []), (8, [])]) (cond (Nat.beq i 9) (some [(0, []), (1, []), (2, []), (4, []), (5, []), (6, []), (3, []), (7, []), (8, [])]) (none))
theorem q209_L0_ok (n : Nat) : LOK Tryz.prog Tryz.f209 (q209_L0.e n) q209_L0.ws := L2.ok Tryz.f209 q209_L0 n C43 (dr := q209_dr) (hT := fun m _ => .m1 (K43 m))
theorem integer_size_ok (n : Nat) : FnOK Tryz.prog (q209_E n) := fn_c Tryz.f209 (C43 n) (ll := [q209_L0.e n]) (dr := q209_dr) (hT := ⟨.nil, K43 n, .nil, (.cc (q209_L0_ok n) .nil), .nil⟩)
abbrev C44 (n : Nat) : List Ent := q209_E n :: C43 n
theorem K44 (n : Nat) : AllOK Tryz.prog (C44 n) := .cons (integer_size_ok n) (K43 n)
def integer_Fits_L0_B (G : Addr → Sl → Int → Int → M (Sl)) (n : Nat) (a0 : Addr) (a1 : Sl) (a2 : Int) (a3 : Int) : M (Sl) :=
  if decide (a3 < a2) then
    M.bind (integer_plus n a1 a1) fun x0 =>
    G a0 x0 a2 (IntKind.i64.wrap (a3 + 1))
  else
    M.pure a1
def integer_Fits_L0 : Nat → Addr → Sl → Int → Int → M (Sl)
  | 0 => fun _ _ _ _ => M.fail
  | n + 1 => integer_Fits_L0_B (integer_Fits_L0 n) n
theorem integer_Fits_L0_succ (n : Nat) : integer_Fits_L0 (n + 1) = integer_Fits_L0_B (integer_Fits_L0 n) n := rfl
def integer_Fits_J0 (n : Nat) (a0 : Int) (a1 : Addr) : M (Bool) :=
  if decide (1600 < a0) then
    M.pure true
  else
    M.bind (newB none T_u8 [Value.int IntKind.u8 1]) fun x0 =>
    M.bind (integer_Fits_L0 n a1 { a := some (adr x0), len := 1, cap := 2 } (IntKind.i64.wrap (a0 - 1)) 0) fun x1 =>
    M.bind (ldL .sl (a1.plus 1)) fun (x2 : Sl) =>
    M.bind (integer_size n x2 x1) fun x3 =>
    if decide (x3 < 0) then
      M.pure true
    else
      M.bind (ldL .bool (a1.plus 0)) fun (x4 : Bool) =>
      if x4 then
        M.pure (decide (x3 = 0))
      else
        M.pure false
def integer_Fits (n : Nat) (a0 : ByteArray) (a1 : Int) : M (Bool) :=
  M.bind (integer_read n a0) fun x0 =>
  M.bind (newB none T_integer_number [Value.bool false, vsl0]) fun x1 =>
  M.bind (stN (adr x1) [Value.bool x0.1.1, vsl x0.1.2]) fun x2 =>
  if !x0.2 then
    M.pure false
  else
    if decide (a1 < 1) then
      M.pure false
    else
      integer_Fits_J0 n a1 (adr x1)
abbrev q195_E (n : Nat) : Ent := ⟨195, [tyS, tyI], [tyB], fun x => integer_Fits n (x.1) (x.2)⟩
abbrev q195_L0 : L1 := ⟨[0, 1, 0, 1, 1, 1, 1, 1], [(5, tyA), (7, tyL), (24, tyI), (25, tyI)], [(7, tyL)], [7] ++ List.range' 25 6, 0, fun n x => integer_Fits_L0 n (x.1) (x.2.1) (x.2.2.1) (x.2.2.2)⟩
abbrev q195_jt (n : Nat) : List (JEnt (Bool)) := [⟨[0, 0, 1, 1, 1], [.code [1, 0, 1, 1, 1], .code [1, 1, 1, 1]], [(1, tyI), (5, tyA)], fun x => integer_Fits_J0 n (x.1) (x.2)⟩]
theorem q195_L0_ok (n : Nat) : LOK Tryz.prog Tryz.f195 (q195_L0.e n) q195_L0.ws := L1.ok Tryz.f195 q195_L0 n C44 (hT := fun m _ => .m1 (K44 m))
theorem integer_Fits_ok (n : Nat) : FnOK Tryz.prog (q195_E n) := fn_c Tryz.f195 (C44 n) (ll := [q195_L0.e n]) (js := q195_jt n) (hT := ⟨.nil, K44 n, .nil, (.cc (q195_L0_ok n) .nil), (.cc .nil)⟩)
abbrev C45 (n : Nat) : List Ent := q195_E n :: C44 n
theorem K45 (n : Nat) : AllOK Tryz.prog (C45 n) := .cons (integer_Fits_ok n) (K44 n)
def toml_whole (n : Nat) (a0 : ByteArray) (a1 : Int) : M ((Int × ByteArray × Bool × Sl × Sl) × Int) :=
  M.bind (newB none T_api_Node [vi 0, Value.string (ofBytes []), Value.bool false, vsl0, vsl0]) fun x0 =>
  M.bind (integer_Parse n a0 a1) fun x1 =>
  if decide (x1.2 = 6) then
    M.bind (stN (adr x0) [vi 0, Value.string (ofBytes []), Value.bool false, vsl0, vsl0]) fun x2 =>
    M.bind (ldLs [li, .str, .bool, .sl, .sl] (adr x0)) fun (x3 : Int × ByteArray × Bool × Sl × Sl) =>
    M.pure ((x3.1, x3.2.1, x3.2.2.1, x3.2.2.2.1, x3.2.2.2.2), 2)
  else
    if decide (x1.2 = 0) then
      M.bind (integer_Fits n x1.1 64) fun x2 =>
      if !x2 then
        M.bind (stN (adr x0) [vi 0, Value.string (ofBytes []), Value.bool false, vsl0, vsl0]) fun x3 =>
        M.bind (ldLs [li, .str, .bool, .sl, .sl] (adr x0)) fun (x4 : Int × ByteArray × Bool × Sl × Sl) =>
        M.pure ((x4.1, x4.2.1, x4.2.2.1, x4.2.2.2.1, x4.2.2.2.2), 2)
      else
        if !decide (x1.2 = 0) then
          M.bind (stN (adr x0) [vi 0, Value.string (ofBytes []), Value.bool false, vsl0, vsl0]) fun x3 =>
          M.bind (ldLs [li, .str, .bool, .sl, .sl] (adr x0)) fun (x4 : Int × ByteArray × Bool × Sl × Sl) =>
          M.pure ((x4.1, x4.2.1, x4.2.2.1, x4.2.2.2.1, x4.2.2.2.2), 12)
        else
          M.bind (stN (adr x0) [vi 2, Value.string x1.1, Value.bool false, vsl0, vsl0]) fun x3 =>
          M.bind (ldLs [li, .str, .bool, .sl, .sl] (adr x0)) fun (x4 : Int × ByteArray × Bool × Sl × Sl) =>
          M.pure ((x4.1, x4.2.1, x4.2.2.1, x4.2.2.2.1, x4.2.2.2.2), 0)
    else
      if !decide (x1.2 = 0) then
        M.bind (stN (adr x0) [vi 0, Value.string (ofBytes []), Value.bool false, vsl0, vsl0]) fun x2 =>
        M.bind (ldLs [li, .str, .bool, .sl, .sl] (adr x0)) fun (x3 : Int × ByteArray × Bool × Sl × Sl) =>
        M.pure ((x3.1, x3.2.1, x3.2.2.1, x3.2.2.2.1, x3.2.2.2.2), 12)
      else
        M.bind (stN (adr x0) [vi 2, Value.string x1.1, Value.bool false, vsl0, vsl0]) fun x2 =>
        M.bind (ldLs [li, .str, .bool, .sl, .sl] (adr x0)) fun (x3 : Int × ByteArray × Bool × Sl × Sl) =>
        M.pure ((x3.1, x3.2.1, x3.2.2.1, x3.2.2.2.1, x3.2.2.2.2), 0)
abbrev q182_E (n : Nat) : Ent := ⟨182, [tyS, tyI], [.agg [.int .i64, .str, .bool, .sl, .sl], tyI], fun x => toml_whole n (x.1) (x.2)⟩
theorem toml_whole_ok (n : Nat) : FnOK Tryz.prog (q182_E n) := fn_c Tryz.f182 (C45 n) (hT := .m1 (K45 n))
abbrev C46 (n : Nat) : List Ent := q182_E n :: C45 n
theorem K46 (n : Nat) : AllOK Tryz.prog (C46 n) := .cons (toml_whole_ok n) (K45 n)
def toml_numeral_1_L0_B (G : Addr → Addr → Int → M (Unit)) (n : Nat) (a0 : Addr) (a1 : Addr) (a2 : Int) : M (Unit) :=
  M.bind (ldL (li) a0) fun (x0 : Int) =>
  M.bind (ldL .str a1) fun (x1 : ByteArray) =>
  if decide (x0 < (↑(ByteArray.size x1) : Int)) then
    M.bind (ldL .str a1) fun (x2 : ByteArray) =>
    M.bind (ldL (li) a0) fun (x3 : Int) =>
    M.bind (idxS x2 x3) fun x4 =>
    M.bind (toml_digit n (↑x4.toNat : Int)) fun x5 =>
    if x5 then
      M.bind (ldL (li) a0) fun (x6 : Int) =>
      M.bind (stN a0 [vi (IntKind.i64.wrap (x6 + 1))]) fun x7 =>
      G a0 a1 a2
    else
      M.pure ()
  else
    M.pure ()
def toml_numeral_1_L0 : Nat → Addr → Addr → Int → M (Unit)
  | 0 => fun _ _ _ => M.fail
  | n + 1 => toml_numeral_1_L0_B (toml_numeral_1_L0 n) n
theorem toml_numeral_1_L0_succ (n : Nat) : toml_numeral_1_L0 (n + 1) = toml_numeral_1_L0_B (toml_numeral_1_L0 n) n := rfl
def toml_numeral_1 (n : Nat) (a0 : Addr) (a1 : Addr) : M (Int) :=
  M.bind (ldL (li) a0) fun (x0 : Int) =>
  M.bind (toml_numeral_1_L0 n a0 a1 x0) fun x1 =>
  M.bind (ldL (li) a0) fun (x2 : Int) =>
  M.pure (IntKind.i64.wrap (x2 - x0))
abbrev q196_E (n : Nat) : Ent := ⟨196, [tyA, tyA], [tyI], fun x => toml_numeral_1 n (x.1) (x.2)⟩
abbrev q196_L0 : L1 := ⟨[0, 0, 1, 1], [(0, tyA), (1, tyA), (3, tyI)], [], List.range' 5 12, 0, fun n x => toml_numeral_1_L0 n (x.1) (x.2.1) (x.2.2)⟩
theorem q196_L0_ok (n : Nat) : LOK Tryz.prog Tryz.f196 (q196_L0.e n) q196_L0.ws := L1.ok Tryz.f196 q196_L0 n C46 (hT := fun m _ => .m1 (K46 m))
theorem toml_numeral_1_ok (n : Nat) : FnOK Tryz.prog (q196_E n) := fn_c Tryz.f196 (C46 n) (ll := [q196_L0.e n]) (hT := ⟨.nil, K46 n, .nil, (.cc (q196_L0_ok n) .nil), .nil⟩)
abbrev C47 (n : Nat) : List Ent := q196_E n :: C46 n
theorem K47 (n : Nat) : AllOK Tryz.prog (C47 n) := .cons (toml_numeral_1_ok n) (K46 n)
end Go.Sh
