/-
The shallow functions of this seat, part 3, and that each is sound; written by program. No theorem about what they compute stands here.
-/
import Derived.Test.YtnkemhepkppkoaaGreatDoorSh2
set_option maxRecDepth 100000
set_option maxHeartbeats 0
set_option linter.all false
namespace Go.Sh
open Go Go.Ago Go.Proofs
def decimal_run_L0_B (G : ByteArray → Int → M (Int)) (n : Nat) (a0 : ByteArray) (a1 : Int) : M (Int) :=
  if decide (a1 < (↑a0.size : Int)) then
    M.bind (idxS a0 a1) fun x0 =>
    if decide (48 ≤ (↑x0.toNat : Int)) then
      M.bind (idxS a0 a1) fun x1 =>
      if decide ((↑x1.toNat : Int) ≤ 57) then
        G a0 (IntKind.i64.wrap (a1 + 1))
      else
        M.pure a1
    else
      M.pure a1
  else
    M.pure a1
def decimal_run_L0 : Nat → ByteArray → Int → M (Int)
  | 0 => fun _ _ => M.fail
  | n + 1 => decimal_run_L0_B (decimal_run_L0 n) n
theorem decimal_run_L0_succ (n : Nat) : decimal_run_L0 (n + 1) = decimal_run_L0_B (decimal_run_L0 n) n := rfl
def decimal_run (n : Nat) (a0 : ByteArray) : M (Int) :=
  M.bind (decimal_run_L0 n a0 0) fun x0 =>
  M.pure x0
abbrev q210_E (n : Nat) : Ent := ⟨210, [tyS], [tyI], fun x => decimal_run n x⟩
abbrev q210_L0 : L1 := ⟨[0, 0, 1, 1], [(0, tyS), (3, tyI)], [(3, tyI)], List.range' 3 19, 0, fun n x => decimal_run_L0 n (x.1) (x.2)⟩
theorem q210_L0_ok (n : Nat) : LOK Tryz.prog Tryz.f210 (q210_L0.e n) q210_L0.ws := L1.ok Tryz.f210 q210_L0 n C48 (hT := fun m _ => .m1 (K48 m))
theorem decimal_run_ok (n : Nat) : FnOK Tryz.prog (q210_E n) := fn_c Tryz.f210 (C48 n) (ll := [q210_L0.e n]) (hT := ⟨.nil, K48 n, .nil, (.cc (q210_L0_ok n) .nil), .nil⟩)
abbrev C49 (n : Nat) : List Ent := q210_E n :: C48 n
theorem K49 (n : Nat) : AllOK Tryz.prog (C49 n) := .cons (decimal_run_ok n) (K48 n)
def decimal_bytes_L0_B (G : ByteArray → Sl → Int → Int → M (Unit)) (n : Nat) (a0 : ByteArray) (a1 : Sl) (a2 : Int) (a3 : Int) : M (Unit) :=
  if decide (a3 < a2) then
    M.bind (idxS a0 a3) fun x0 =>
    M.bind (idxA a1 a3 1) fun x1 =>
    M.bind (stN x1 [Value.int IntKind.u8 (IntKind.u8.wrap ((↑x0.toNat : Int) - 48))]) fun x2 =>
    G a0 a1 a2 (IntKind.i64.wrap (a3 + 1))
  else
    M.pure ()
def decimal_bytes_L0 : Nat → ByteArray → Sl → Int → Int → M (Unit)
  | 0 => fun _ _ _ _ => M.fail
  | n + 1 => decimal_bytes_L0_B (decimal_bytes_L0 n) n
theorem decimal_bytes_L0_succ (n : Nat) : decimal_bytes_L0 (n + 1) = decimal_bytes_L0_B (decimal_bytes_L0 n) n := rfl
def decimal_bytes (n : Nat) (a0 : ByteArray) : M (Sl) :=
  M.bind (mkS none T_u8 [Value.int IntKind.u8 0] (↑a0.size : Int) (↑a0.size : Int)) fun x0 =>
  M.bind (decimal_bytes_L0 n a0 x0 (↑a0.size : Int) 0) fun x1 =>
  M.pure x0
abbrev q211_E (n : Nat) : Ent := ⟨211, [tyS], [tyL], fun x => decimal_bytes n x⟩
abbrev q211_L0 : L1 := ⟨[0, 1, 0, 1, 1], [(0, tyS), (3, tyL), (9, tyI), (10, tyI)], [], [4] ++ List.range' 10 11, 0, fun n x => decimal_bytes_L0 n (x.1) (x.2.1) (x.2.2.1) (x.2.2.2)⟩
theorem q211_L0_ok (n : Nat) : LOK Tryz.prog Tryz.f211 (q211_L0.e n) q211_L0.ws := L1.ok Tryz.f211 q211_L0 n C49 (hT := fun m _ => .m1 (K49 m))
theorem decimal_bytes_ok (n : Nat) : FnOK Tryz.prog (q211_E n) := fn_c Tryz.f211 (C49 n) (ll := [q211_L0.e n]) (hT := ⟨.nil, K49 n, .nil, (.cc (q211_L0_ok n) .nil), .nil⟩)
abbrev C50 (n : Nat) : List Ent := q211_E n :: C49 n
theorem K50 (n : Nat) : AllOK Tryz.prog (C50 n) := .cons (decimal_bytes_ok n) (K49 n)
def decimal_small_L0_B (G : ByteArray → Int → Int → Int → M (Int)) (n : Nat) (a0 : ByteArray) (a1 : Int) (a2 : Int) (a3 : Int) : M (Int) :=
  if decide (a3 < a2) then
    M.bind (idxS a0 a3) fun x0 =>
    G a0 (if 1099511627776 < IntKind.i64.wrap (IntKind.i64.wrap (10 * a1) + IntKind.i64.wrap (IntKind.u8.wrap ((↑x0.toNat : Int) - 48))) then 1099511627776 else IntKind.i64.wrap (IntKind.i64.wrap (10 * a1) + IntKind.i64.wrap (IntKind.u8.wrap ((↑x0.toNat : Int) - 48)))) a2 (IntKind.i64.wrap (a3 + 1))
  else
    M.pure a1
def decimal_small_L0 : Nat → ByteArray → Int → Int → Int → M (Int)
  | 0 => fun _ _ _ _ => M.fail
  | n + 1 => decimal_small_L0_B (decimal_small_L0 n) n
theorem decimal_small_L0_succ (n : Nat) : decimal_small_L0 (n + 1) = decimal_small_L0_B (decimal_small_L0 n) n := rfl
def decimal_small (n : Nat) (a0 : ByteArray) : M (Int) :=
  M.bind (decimal_small_L0 n a0 0 (↑a0.size : Int) 0) fun x0 =>
  M.pure x0
abbrev q212_E (n : Nat) : Ent := ⟨212, [tyS], [tyI], fun x => decimal_small n x⟩
abbrev q212_L0 : L1 := ⟨[0, 1, 0, 1, 1], [(0, tyS), (3, tyI), (6, tyI), (7, tyI)], [(3, tyI)], [3, 4] ++ List.range' 7 13, 0, fun n x => decimal_small_L0 n (x.1) (x.2.1) (x.2.2.1) (x.2.2.2)⟩
theorem q212_L0_ok (n : Nat) : LOK Tryz.prog Tryz.f212 (q212_L0.e n) q212_L0.ws := L1.ok Tryz.f212 q212_L0 n C50 (hT := fun m _ => .m1 (K50 m))
theorem decimal_small_ok (n : Nat) : FnOK Tryz.prog (q212_E n) := fn_c Tryz.f212 (C50 n) (ll := [q212_L0.e n]) (hT := ⟨.nil, K50 n, .nil, (.cc (q212_L0_ok n) .nil), .nil⟩)
abbrev C51 (n : Nat) : List Ent := q212_E n :: C50 n
theorem K51 (n : Nat) : AllOK Tryz.prog (C51 n) := .cons (decimal_small_ok n) (K50 n)
def decimal_norm_L1_B (G : Bool → Sl → Int → Addr → M (Sl × Int)) (n : Nat) (a0 : Bool) (a1 : Sl) (a2 : Int) (a3 : Addr) : M (Sl × Int) :=
  if decide (0 < (↑a1.len : Int)) then
    M.bind (idxA a1 (IntKind.i64.wrap ((↑a1.len : Int) - 1)) 1) fun x0 =>
    M.bind (ldL (.int IntKind.u8) x0) fun (x1 : Int) =>
    if decide (x1 = 0) then
      M.bind (sliceL a1 0 (IntKind.i64.wrap ((↑a1.len : Int) - 1)) T_u8 1) fun x2 =>
      G a0 x2 (IntKind.i64.wrap (a2 + 1)) a3
    else
      M.pure (a1, a2)
  else
    M.pure (a1, a2)
def decimal_norm_L1 : Nat → Bool → Sl → Int → Addr → M (Sl × Int)
  | 0 => fun _ _ _ _ => M.fail
  | n + 1 => decimal_norm_L1_B (decimal_norm_L1 n) n
theorem decimal_norm_L1_succ (n : Nat) : decimal_norm_L1 (n + 1) = decimal_norm_L1_B (decimal_norm_L1 n) n := rfl
def decimal_norm_L0_B (G : Bool → Sl → Int → Addr → M (Sl)) (n : Nat) (a0 : Bool) (a1 : Sl) (a2 : Int) (a3 : Addr) : M (Sl) :=
  if decide (0 < (↑a1.len : Int)) then
    M.bind (idxA a1 0 1) fun x0 =>
    M.bind (ldL (.int IntKind.u8) x0) fun (x1 : Int) =>
    if decide (x1 = 0) then
      M.bind (sliceL a1 1 (↑a1.len : Int) T_u8 1) fun x2 =>
      G a0 x2 a2 a3
    else
      M.pure a1
  else
    M.pure a1
def decimal_norm_L0 : Nat → Bool → Sl → Int → Addr → M (Sl)
  | 0 => fun _ _ _ _ => M.fail
  | n + 1 => decimal_norm_L0_B (decimal_norm_L0 n) n
theorem decimal_norm_L0_succ (n : Nat) : decimal_norm_L0 (n + 1) = decimal_norm_L0_B (decimal_norm_L0 n) n := rfl
def decimal_norm (n : Nat) (a0 : Bool) (a1 : Sl) (a2 : Int) : M (Bool × Sl × Int) :=
  M.bind (newB none T_decimal_num [Value.bool false, vsl0, vi 0]) fun x0 =>
  M.bind (decimal_norm_L0 n a0 a1 a2 (adr x0)) fun x1 =>
  M.bind (decimal_norm_L1 n a0 x1 a2 (adr x0)) fun x2 =>
  if decide ((↑x2.1.len : Int) = 0) then
    M.bind (stN (adr x0) [Value.bool false, vsl0, vi 0]) fun x3 =>
    M.bind (ldLs [.bool, .sl, li] (adr x0)) fun (x4 : Bool × Sl × Int) =>
    M.pure (x4.1, x4.2.1, x4.2.2)
  else
    M.bind (mkS none T_u8 [Value.int IntKind.u8 0] (↑x2.1.len : Int) (↑x2.1.len : Int)) fun x3 =>
    M.bind (copyS x3 x2.1 1) fun x4 =>
    M.bind (stN (adr x0) [Value.bool a0, vsl x3, vi x2.2]) fun x5 =>
    M.bind (ldLs [.bool, .sl, li] (adr x0)) fun (x6 : Bool × Sl × Int) =>
    M.pure (x6.1, x6.2.1, x6.2.2)
abbrev q213_E (n : Nat) : Ent := ⟨213, [tyB, tyL, tyI], [.agg [.bool, .sl, .int .i64]], fun x => decimal_norm n (x.1) (x.2.1) (x.2.2)⟩
abbrev q213_L0 : L1 := ⟨[0, 0, 1], [(0, tyB), (1, tyL), (2, tyI), (6, tyA)], [(1, tyL)], [1] ++ List.range' 8 11, 0, fun n x => decimal_norm_L0 n (x.1) (x.2.1) (x.2.2.1) (x.2.2.2)⟩
abbrev q213_L1 : L1 := ⟨[0, 0, 1, 1], [(0, tyB), (1, tyL), (2, tyI), (6, tyA)], [(1, tyL), (2, tyI)], [1, 2] ++ List.range' 19 19, 2, fun n x => decimal_norm_L1 n (x.1) (x.2.1) (x.2.2.1) (x.2.2.2)⟩
theorem q213_L1_ok (n : Nat) : LOK Tryz.prog Tryz.f213 (q213_L1.e n) q213_L1.ws := L1.ok Tryz.f213 q213_L1 n C51 (hT := fun m _ => .m1 (K51 m))
theorem q213_L0_ok (n : Nat) : LOK Tryz.prog Tryz.f213 (q213_L0.e n) q213_L0.ws := L1.ok Tryz.f213 q213_L0 n C51 (hT := fun m _ => .m1 (K51 m))
theorem decimal_norm_ok (n : Nat) : FnOK Tryz.prog (q213_E n) := fn_c Tryz.f213 (C51 n) (ll := [q213_L0.e n, q213_L1.e n]) (hT := ⟨.nil, K51 n, .nil, (.cc (q213_L0_ok n) (.cc (q213_L1_ok n) .nil)), .nil⟩)
abbrev C52 (n : Nat) : List Ent := q213_E n :: C51 n
theorem K52 (n : Nat) : AllOK Tryz.prog (C52 n) := .cons (decimal_norm_ok n) (K51 n)
def decimal_numeral_J5 (n : Nat) (a0 : ByteArray) (a1 : Addr) (a2 : Bool) (a3 : Sl) (a4 : Int) (a5 : Bool) : M ((Bool × Sl × Int) × Bool) :=
  M.bind (decimal_small n a0) fun x0 =>
  if a5 then
    M.bind (decimal_norm n a2 a3 (IntKind.i64.wrap (a4 + IntKind.i64.wrap (0 - x0)))) fun x1 =>
    M.bind (stN a1 [Value.bool x1.1, vsl x1.2.1, vi x1.2.2]) fun x2 =>
    M.bind (ldLs [.bool, .sl, li] a1) fun (x3 : Bool × Sl × Int) =>
    M.pure ((x3.1, x3.2.1, x3.2.2), true)
  else
    M.bind (decimal_norm n a2 a3 (IntKind.i64.wrap (a4 + x0))) fun x1 =>
    M.bind (stN a1 [Value.bool x1.1, vsl x1.2.1, vi x1.2.2]) fun x2 =>
    M.bind (ldLs [.bool, .sl, li] a1) fun (x3 : Bool × Sl × Int) =>
    M.pure ((x3.1, x3.2.1, x3.2.2), true)
def decimal_numeral_J4 (n : Nat) (a0 : ByteArray) (a1 : Addr) (a2 : Bool) (a3 : Sl) (a4 : Int) (a5 : Bool) : M ((Bool × Sl × Int) × Bool) :=
  if eqS a0 (ofBytes []) then
    M.bind (stN a1 [Value.bool false, vsl0, vi 0]) fun x0 =>
    M.bind (ldLs [.bool, .sl, li] a1) fun (x1 : Bool × Sl × Int) =>
    M.pure ((x1.1, x1.2.1, x1.2.2), false)
  else
    M.bind (decimal_run n a0) fun x0 =>
    if !decide (x0 = (↑a0.size : Int)) then
      M.bind (stN a1 [Value.bool false, vsl0, vi 0]) fun x1 =>
      M.bind (ldLs [.bool, .sl, li] a1) fun (x2 : Bool × Sl × Int) =>
      M.pure ((x2.1, x2.2.1, x2.2.2), false)
    else
      decimal_numeral_J5 n a0 a1 a2 a3 a4 a5
def decimal_numeral_J3 (n : Nat) (a0 : ByteArray) (a1 : Addr) (a2 : Bool) (a3 : Sl) (a4 : Int) : M ((Bool × Sl × Int) × Bool) :=
  M.bind (sliceS a0 1 (↑a0.size : Int)) fun x0 =>
  M.bind (strings_HasPrefix n x0 (ofBytes [45])) fun x1 =>
  if x1 then
    M.bind (sliceS x0 1 (↑x0.size : Int)) fun x2 =>
    decimal_numeral_J4 n x2 a1 a2 a3 a4 x1
  else
    M.bind (strings_HasPrefix n x0 (ofBytes [43])) fun x2 =>
    if x2 then
      M.bind (sliceS x0 1 (↑x0.size : Int)) fun x3 =>
      decimal_numeral_J4 n x3 a1 a2 a3 a4 x1
    else
      decimal_numeral_J4 n x0 a1 a2 a3 a4 x1
def decimal_numeral_J2 (n : Nat) (a0 : ByteArray) (a1 : Addr) (a2 : Bool) (a3 : Sl) (a4 : Int) : M ((Bool × Sl × Int) × Bool) :=
  if !eqS a0 (ofBytes []) then
    M.bind (idxS a0 0) fun x0 =>
    if !decide ((↑x0.toNat : Int) = 101) then
      M.bind (idxS a0 0) fun x1 =>
      if !decide ((↑x1.toNat : Int) = 69) then
        M.bind (stN a1 [Value.bool false, vsl0, vi 0]) fun x2 =>
        M.bind (ldLs [.bool, .sl, li] a1) fun (x3 : Bool × Sl × Int) =>
        M.pure ((x3.1, x3.2.1, x3.2.2), false)
      else
        decimal_numeral_J3 n a0 a1 a2 a3 a4
    else
      decimal_numeral_J3 n a0 a1 a2 a3 a4
  else
    M.bind (decimal_norm n a2 a3 a4) fun x0 =>
    M.bind (stN a1 [Value.bool x0.1, vsl x0.2.1, vi x0.2.2]) fun x1 =>
    M.bind (ldLs [.bool, .sl, li] a1) fun (x2 : Bool × Sl × Int) =>
    M.pure ((x2.1, x2.2.1, x2.2.2), true)
def decimal_numeral_J1 (n : Nat) (a0 : ByteArray) (a1 : Addr) (a2 : Bool) (a3 : Int) : M ((Bool × Sl × Int) × Bool) :=
  M.bind (sliceS a0 0 a3) fun x0 =>
  M.bind (decimal_bytes n x0) fun x1 =>
  M.bind (sliceS a0 a3 (↑a0.size : Int)) fun x2 =>
  M.bind (strings_HasPrefix n x2 (ofBytes [46])) fun x3 =>
  if x3 then
    M.bind (sliceS x2 1 (↑x2.size : Int)) fun x4 =>
    M.bind (decimal_run n x4) fun x5 =>
    if decide (x5 = 0) then
      M.bind (stN a1 [Value.bool false, vsl0, vi 0]) fun x6 =>
      M.bind (ldLs [.bool, .sl, li] a1) fun (x7 : Bool × Sl × Int) =>
      M.pure ((x7.1, x7.2.1, x7.2.2), false)
    else
      M.bind (sliceS x2 1 (IntKind.i64.wrap (x5 + 1))) fun x6 =>
      M.bind (decimal_bytes n x6) fun x7 =>
      M.bind (rdS x7 1) fun x8 =>
      M.bind (app false x1 1 T_u8 x7.len x8) fun x9 =>
      M.bind (sliceS x2 (IntKind.i64.wrap (x5 + 1)) (↑x2.size : Int)) fun x10 =>
      decimal_numeral_J2 n x10 a1 a2 x9 (IntKind.i64.wrap (0 - x5))
  else
    decimal_numeral_J2 n x2 a1 a2 x1 0
def decimal_numeral_J0 (n : Nat) (a0 : ByteArray) (a1 : Addr) (a2 : Bool) : M ((Bool × Sl × Int) × Bool) :=
  M.bind (decimal_run n a0) fun x0 =>
  if decide (x0 = 0) then
    M.bind (stN a1 [Value.bool false, vsl0, vi 0]) fun x1 =>
    M.bind (ldLs [.bool, .sl, li] a1) fun (x2 : Bool × Sl × Int) =>
    M.pure ((x2.1, x2.2.1, x2.2.2), false)
  else
    if decide (1 < x0) then
      M.bind (idxS a0 0) fun x1 =>
      if decide ((↑x1.toNat : Int) = 48) then
        M.bind (stN a1 [Value.bool false, vsl0, vi 0]) fun x2 =>
        M.bind (ldLs [.bool, .sl, li] a1) fun (x3 : Bool × Sl × Int) =>
        M.pure ((x3.1, x3.2.1, x3.2.2), false)
      else
        decimal_numeral_J1 n a0 a1 a2 x0
    else
      decimal_numeral_J1 n a0 a1 a2 x0
def decimal_numeral (n : Nat) (a0 : ByteArray) : M ((Bool × Sl × Int) × Bool) :=
  M.bind (newB none T_decimal_num [Value.bool false, vsl0, vi 0]) fun x0 =>
  M.bind (strings_HasPrefix n a0 (ofBytes [45])) fun x1 =>
  if x1 then
    M.bind (sliceS a0 1 (↑a0.size : Int)) fun x2 =>
    decimal_numeral_J0 n x2 (adr x0) x1
  else
    decimal_numeral_J0 n a0 (adr x0) x1
abbrev q197_E (n : Nat) : Ent := ⟨197, [tyS], [.agg [.bool, .sl, .int .i64], tyB], fun x => decimal_numeral n x⟩
abbrev q197_jt (n : Nat) : List (JEnt ((Bool × Sl × Int) × Bool)) := [⟨[0, 1, 1, 1], [.code [1, 1, 1, 1]], [(0, tyS), (2, tyA), (4, tyB)], fun x => decimal_numeral_J0 n (x.1) (x.2.1) (x.2.2)⟩,
  ⟨[0, 1, 1, 1, 1, 1], [.code [1, 1, 1, 1, 1, 1]], [(0, tyS), (2, tyA), (4, tyB), (5, tyI)], fun x => decimal_numeral_J1 n (x.1) (x.2.1) (x.2.2.1) (x.2.2.2)⟩,
  ⟨[0, 0, 1, 1, 1, 1, 1, 1, 1, 1, 1], [.code [1, 0, 1, 1, 1, 1, 1, 1, 1, 1, 1], .code [1, 1, 1, 1, 1, 1, 1, 1, 1, 1]], [(0, tyS), (2, tyA), (4, tyB), (6, tyL), (7, tyI)], fun x => decimal_numeral_J2 n (x.1) (x.2.1) (x.2.2.1) (x.2.2.2.1) (x.2.2.2.2)⟩,
  ⟨[0, 1, 0, 1, 0, 1, 1, 1, 1, 1, 1, 1, 1, 1], [.code [1, 1, 0, 1, 0, 1, 1, 1, 1, 1, 1, 1, 1, 1], .code [1, 1, 1, 1, 1, 1, 1, 1, 1, 1]], [(0, tyS), (2, tyA), (4, tyB), (6, tyL), (7, tyI)], fun x => decimal_numeral_J3 n (x.1) (x.2.1) (x.2.2.1) (x.2.2.2.1) (x.2.2.2.2)⟩,
  ⟨[0, 0, 1, 1, 1, 1, 0, 1, 0, 1, 1, 1, 1, 1, 1, 1, 1, 1], [.code [1, 0, 1, 1, 1, 1, 0, 1, 0, 1, 1, 1, 1, 1, 1, 1, 1, 1], .code [1, 1, 1, 1, 1, 0, 1, 0, 1, 1, 1, 1, 1, 1, 1, 1, 1], .code [1, 1, 1, 1, 1, 1, 1, 1, 1, 1]], [(0, tyS), (2, tyA), (4, tyB), (6, tyL), (7, tyI), (8, tyB)], fun x => decimal_numeral_J4 n (x.1) (x.2.1) (x.2.2.1) (x.2.2.2.1) (x.2.2.2.2.1) (x.2.2.2.2.2)⟩,
  ⟨[0, 1, 1, 1, 1, 1, 0, 1, 0, 1, 1, 1, 1, 1, 1, 1, 1, 1], [.code [1, 1, 1, 1, 1, 1, 0, 1, 0, 1, 1, 1, 1, 1, 1, 1, 1, 1], .code [1, 1, 1, 1, 1, 1, 1, 1, 1, 1]], [(0, tyS), (2, tyA), (4, tyB), (6, tyL), (7, tyI), (8, tyB)], fun x => decimal_numeral_J5 n (x.1) (x.2.1) (x.2.2.1) (x.2.2.2.1) (x.2.2.2.2.1) (x.2.2.2.2.2)⟩]
theorem decimal_numeral_ok (n : Nat) : FnOK Tryz.prog (q197_E n) := fn_c Tryz.f197 (C52 n) (js := q197_jt n) (hT := ⟨.nil, K52 n, .nil, .nil, (.cc (.cc (.cc (.cc (.cc (.cc .nil))))))⟩)
abbrev C53 (n : Nat) : List Ent := q197_E n :: C52 n
theorem K53 (n : Nat) : AllOK Tryz.prog (C53 n) := .cons (decimal_numeral_ok n) (K52 n)
def decimal_num_limit (n : Nat) (a0 : Bool × Sl × Int) : M (Int) :=
  M.bind (newB none T_decimal_num [Value.bool a0.1, vsl a0.2.1, vi a0.2.2]) fun x0 =>
  M.bind (ldL .sl ((adr x0).plus 1)) fun (x1 : Sl) =>
  if decide (400 < (↑x1.len : Int)) then
    M.pure 6
  else
    M.bind (ldL (li) ((adr x0).plus 2)) fun (x2 : Int) =>
    if decide (x2 < -2000) then
      M.pure 2
    else
      M.bind (ldL (li) ((adr x0).plus 2)) fun (x3 : Int) =>
      if decide (2000 < x3) then
        M.pure 2
      else
        M.pure 0
abbrev q214_E (n : Nat) : Ent := ⟨214, [.agg [.bool, .sl, .int .i64]], [tyI], fun x => decimal_num_limit n x⟩
theorem decimal_num_limit_ok (n : Nat) : FnOK Tryz.prog (q214_E n) := fn_c Tryz.f214 (C53 n) (hT := .m1 (K53 n))
abbrev C54 (n : Nat) : List Ent := q214_E n :: C53 n
theorem K54 (n : Nat) : AllOK Tryz.prog (C54 n) := .cons (decimal_num_limit_ok n) (K53 n)
def decimal_num_sign (n : Nat) (a0 : Bool × Sl × Int) : M (ByteArray) :=
  M.bind (newB none T_decimal_num [Value.bool a0.1, vsl a0.2.1, vi a0.2.2]) fun x0 =>
  M.bind (ldL .bool ((adr x0).plus 0)) fun (x1 : Bool) =>
  if x1 then
    M.pure (ofBytes [45])
  else
    M.pure (ofBytes [])
abbrev q222_E (n : Nat) : Ent := ⟨222, [.agg [.bool, .sl, .int .i64]], [tyS], fun x => decimal_num_sign n x⟩
theorem decimal_num_sign_ok (n : Nat) : FnOK Tryz.prog (q222_E n) := fn_c Tryz.f222 (C54 n) (hT := .m1 (K54 n))
abbrev C55 (n : Nat) : List Ent := q222_E n :: C54 n
theorem K55 (n : Nat) : AllOK Tryz.prog (C55 n) := .cons (decimal_num_sign_ok n) (K54 n)
def decimal_num_digits_L0_B (G : Sl → Sl → Int → Int → M (Unit)) (n : Nat) (a0 : Sl) (a1 : Sl) (a2 : Int) (a3 : Int) : M (Unit) :=
  if decide (a3 < a2) then
    M.bind (idxA a1 a3 1) fun x0 =>
    M.bind (ldL (.int IntKind.u8) x0) fun (x1 : Int) =>
    M.bind (idxA a0 a3 1) fun x2 =>
    M.bind (stN x2 [Value.int IntKind.u8 (IntKind.u8.wrap (48 + x1))]) fun x3 =>
    G a0 a1 a2 (IntKind.i64.wrap (a3 + 1))
  else
    M.pure ()
def decimal_num_digits_L0 : Nat → Sl → Sl → Int → Int → M (Unit)
  | 0 => fun _ _ _ _ => M.fail
  | n + 1 => decimal_num_digits_L0_B (decimal_num_digits_L0 n) n
theorem decimal_num_digits_L0_succ (n : Nat) : decimal_num_digits_L0 (n + 1) = decimal_num_digits_L0_B (decimal_num_digits_L0 n) n := rfl
def decimal_num_digits (n : Nat) (a0 : Bool × Sl × Int) : M (ByteArray) :=
  M.bind (newB none T_decimal_num [Value.bool a0.1, vsl a0.2.1, vi a0.2.2]) fun x0 =>
  M.bind (ldL .sl ((adr x0).plus 1)) fun (x1 : Sl) =>
  M.bind (mkS none T_u8 [Value.int IntKind.u8 0] (↑x1.len : Int) (↑x1.len : Int)) fun x2 =>
  M.bind (ldL .sl ((adr x0).plus 1)) fun (x3 : Sl) =>
  M.bind (decimal_num_digits_L0 n x2 x3 (↑x3.len : Int) 0) fun x4 =>
  M.bind (strOf x2) fun x5 =>
  M.pure x5
abbrev q223_E (n : Nat) : Ent := ⟨223, [.agg [.bool, .sl, .int .i64]], [tyS], fun x => decimal_num_digits n x⟩
abbrev q223_L0 : L1 := ⟨[0, 1, 0, 1, 1], [(3, tyL), (11, tyL), (12, tyI), (13, tyI)], [], [4, 5] ++ List.range' 13 11, 0, fun n x => decimal_num_digits_L0 n (x.1) (x.2.1) (x.2.2.1) (x.2.2.2)⟩
theorem q223_L0_ok (n : Nat) : LOK Tryz.prog Tryz.f223 (q223_L0.e n) q223_L0.ws := L1.ok Tryz.f223 q223_L0 n C55 (hT := fun m _ => .m1 (K55 m))
theorem decimal_num_digits_ok (n : Nat) : FnOK Tryz.prog (q223_E n) := fn_c Tryz.f223 (C55 n) (ll := [q223_L0.e n]) (hT := ⟨.nil, K55 n, .nil, (.cc (q223_L0_ok n) .nil), .nil⟩)
abbrev C56 (n : Nat) : List Ent := q223_E n :: C55 n
theorem K56 (n : Nat) : AllOK Tryz.prog (C56 n) := .cons (decimal_num_digits_ok n) (K55 n)
def decimal_num_coef (n : Nat) (a0 : Bool × Sl × Int) : M (ByteArray) :=
  M.bind (newB none T_decimal_num [Value.bool a0.1, vsl a0.2.1, vi a0.2.2]) fun x0 =>
  M.bind (ldL .sl ((adr x0).plus 1)) fun (x1 : Sl) =>
  if decide ((↑x1.len : Int) = 0) then
    M.pure (ofBytes [48])
  else
    M.bind (ldLs [.bool, .sl, li] (adr x0)) fun (x2 : Bool × Sl × Int) =>
    M.bind (ldLs [.bool, .sl, li] (adr x0)) fun (x3 : Bool × Sl × Int) =>
    M.bind (chk [some (adr x0)] (decimal_num_sign n (x2.1, x2.2.1, x2.2.2))) fun x4 =>
    M.bind (decimal_num_digits n (x3.1, x3.2.1, x3.2.2)) fun x5 =>
    M.bind (catS x4 x5) fun x6 =>
    M.pure x6
abbrev q220_E (n : Nat) : Ent := ⟨220, [.agg [.bool, .sl, .int .i64]], [tyS], fun x => decimal_num_coef n x⟩
def q220_dr (i : Nat) : Option (List (Nat × List Nat)) := cond (Nat.beq i 3) (some [(0, []), (2, []), (1, [2]), (3, []), (4, []), (5, [])]) (none)
theorem decimal_num_coef_ok (n : Nat) : FnOK Tryz.prog (q220_E n) := fn_c Tryz.f220 (C56 n) (dr := q220_dr) (hT := .m1 (K56 n))
abbrev C57 (n : Nat) : List Ent := q220_E n :: C56 n
theorem K57 (n : Nat) : AllOK Tryz.prog (C57 n) := .cons (decimal_num_coef_ok n) (K56 n)
def decimal_num_text (n : Nat) (a0 : Bool × Sl × Int) : M (ByteArray) :=
  M.bind (newB none T_decimal_num [Value.bool a0.1, vsl a0.2.1, vi a0.2.2]) fun x0 =>
  M.bind (ldLs [.bool, .sl, li] (adr x0)) fun (x1 : Bool × Sl × Int) =>
  M.bind (ldL (li) ((adr x0).plus 2)) fun (x2 : Int) =>
  M.bind (chk [some ((adr x0).plus 2)] (decimal_num_coef n (x1.1, x1.2.1, x1.2.2))) fun x3 =>
  M.bind (catS x3 (ofBytes [101])) fun x4 =>
  M.bind (strconv_Itoa n x2) fun x5 =>
  M.bind (catS x4 x5) fun x6 =>
  M.pure x6
abbrev q215_E (n : Nat) : Ent := ⟨215, [.agg [.bool, .sl, .int .i64]], [tyS], fun x => decimal_num_text n x⟩
def q215_dr (i : Nat) : Option (List (Nat × List Nat)) := cond (Nat.beq i 1) (some [(3, []), (0, []), (4, []), (1, [4]), (2, []), (5, []), (6, []), (7, [])]) (none)
theorem decimal_num_text_ok (n : Nat) : FnOK Tryz.prog (q215_E n) := fn_c Tryz.f215 (C57 n) (dr := q215_dr) (hT := .m1 (K57 n))
abbrev C58 (n : Nat) : List Ent := q215_E n :: C57 n
theorem K58 (n : Nat) : AllOK Tryz.prog (C58 n) := .cons (decimal_num_text_ok n) (K57 n)
def decimal_num_result (n : Nat) (a0 : Bool × Sl × Int) : M (ByteArray × Int) :=
  M.bind (newB none T_decimal_num [Value.bool a0.1, vsl a0.2.1, vi a0.2.2]) fun x0 =>
  M.bind (ldLs [.bool, .sl, li] (adr x0)) fun (x1 : Bool × Sl × Int) =>
  M.bind (decimal_num_limit n (x1.1, x1.2.1, x1.2.2)) fun x2 =>
  if !decide (x2 = 0) then
    M.pure ((ofBytes []), x2)
  else
    M.bind (ldLs [.bool, .sl, li] (adr x0)) fun (x3 : Bool × Sl × Int) =>
    M.bind (decimal_num_text n (x3.1, x3.2.1, x3.2.2)) fun x4 =>
    M.pure (x4, 0)
abbrev q198_E (n : Nat) : Ent := ⟨198, [.agg [.bool, .sl, .int .i64]], [tyS, tyI], fun x => decimal_num_result n x⟩
theorem decimal_num_result_ok (n : Nat) : FnOK Tryz.prog (q198_E n) := fn_c Tryz.f198 (C58 n) (hT := .m1 (K58 n))
abbrev C59 (n : Nat) : List Ent := q198_E n :: C58 n
theorem K59 (n : Nat) : AllOK Tryz.prog (C59 n) := .cons (decimal_num_result_ok n) (K58 n)
def decimal_Parse (n : Nat) (a0 : ByteArray) : M (ByteArray × Int) :=
  M.bind (decimal_numeral n a0) fun x0 =>
  M.bind (newB none T_decimal_num [Value.bool false, vsl0, vi 0]) fun x1 =>
  M.bind (stN (adr x1) [Value.bool x0.1.1, vsl x0.1.2.1, vi x0.1.2.2]) fun x2 =>
  if !x0.2 then
    M.pure ((ofBytes []), 3)
  else
    M.bind (ldLs [.bool, .sl, li] (adr x1)) fun (x3 : Bool × Sl × Int) =>
    M.bind (decimal_num_result n (x3.1, x3.2.1, x3.2.2)) fun x4 =>
    M.pure (x4.1, x4.2)
abbrev q184_E (n : Nat) : Ent := ⟨184, [tyS], [tyS, tyI], fun x => decimal_Parse n x⟩
theorem decimal_Parse_ok (n : Nat) : FnOK Tryz.prog (q184_E n) := fn_c Tryz.f184 (C59 n) (hT := .m1 (K59 n))
abbrev C60 (n : Nat) : List Ent := q184_E n :: C59 n
theorem K60 (n : Nat) : AllOK Tryz.prog (C60 n) := .cons (decimal_Parse_ok n) (K59 n)
def toml_number_J2 (n : Nat) (a0 : ByteArray) (a1 : Addr) : M ((Int × ByteArray × Bool × Sl × Sl) × Int) :=
  M.bind (idxS a0 1) fun x0 =>
  if !decide ((↑x0.toNat : Int) = 120) then
    M.bind (idxS a0 1) fun x1 =>
    if decide ((↑x1.toNat : Int) = 98) then
      M.bind (sliceS a0 2 (↑a0.size : Int)) fun x2 =>
      M.bind (toml_bare n x2 (Value.func (Fn.func F_toml_digit) #[] #[])) fun x3 =>
      if !x3.2 then
        M.bind (stN a1 [vi 0, Value.string (ofBytes []), Value.bool false, vsl0, vsl0]) fun x4 =>
        M.bind (ldLs [li, .str, .bool, .sl, .sl] a1) fun (x5 : Int × ByteArray × Bool × Sl × Sl) =>
        M.pure ((x5.1, x5.2.1, x5.2.2.1, x5.2.2.2.1, x5.2.2.2.2), 12)
      else
        M.bind (idxS x3.1 0) fun x4 =>
        if decide ((↑x4.toNat : Int) = 45) then
          M.bind (stN a1 [vi 0, Value.string (ofBytes []), Value.bool false, vsl0, vsl0]) fun x5 =>
          M.bind (ldLs [li, .str, .bool, .sl, .sl] a1) fun (x6 : Int × ByteArray × Bool × Sl × Sl) =>
          M.pure ((x6.1, x6.2.1, x6.2.2.1, x6.2.2.2.1, x6.2.2.2.2), 12)
        else
          M.bind (idxS x3.1 0) fun x5 =>
          if decide ((↑x5.toNat : Int) = 43) then
            M.bind (stN a1 [vi 0, Value.string (ofBytes []), Value.bool false, vsl0, vsl0]) fun x6 =>
            M.bind (ldLs [li, .str, .bool, .sl, .sl] a1) fun (x7 : Int × ByteArray × Bool × Sl × Sl) =>
            M.pure ((x7.1, x7.2.1, x7.2.2.1, x7.2.2.2.1, x7.2.2.2.2), 12)
          else
            M.bind (toml_whole n x3.1 2) fun x6 =>
            M.bind (stN a1 [vi x6.1.1, Value.string x6.1.2.1, Value.bool x6.1.2.2.1, vsl x6.1.2.2.2.1, vsl x6.1.2.2.2.2]) fun x7 =>
            M.bind (ldLs [li, .str, .bool, .sl, .sl] a1) fun (x8 : Int × ByteArray × Bool × Sl × Sl) =>
            M.pure ((x8.1, x8.2.1, x8.2.2.1, x8.2.2.2.1, x8.2.2.2.2), x6.2)
    else
      M.bind (sliceS a0 2 (↑a0.size : Int)) fun x2 =>
      M.bind (toml_bare n x2 (Value.func (Fn.func F_toml_digit) #[] #[])) fun x3 =>
      if !x3.2 then
        M.bind (stN a1 [vi 0, Value.string (ofBytes []), Value.bool false, vsl0, vsl0]) fun x4 =>
        M.bind (ldLs [li, .str, .bool, .sl, .sl] a1) fun (x5 : Int × ByteArray × Bool × Sl × Sl) =>
        M.pure ((x5.1, x5.2.1, x5.2.2.1, x5.2.2.2.1, x5.2.2.2.2), 12)
      else
        M.bind (idxS x3.1 0) fun x4 =>
        if decide ((↑x4.toNat : Int) = 45) then
          M.bind (stN a1 [vi 0, Value.string (ofBytes []), Value.bool false, vsl0, vsl0]) fun x5 =>
          M.bind (ldLs [li, .str, .bool, .sl, .sl] a1) fun (x6 : Int × ByteArray × Bool × Sl × Sl) =>
          M.pure ((x6.1, x6.2.1, x6.2.2.1, x6.2.2.2.1, x6.2.2.2.2), 12)
        else
          M.bind (idxS x3.1 0) fun x5 =>
          if decide ((↑x5.toNat : Int) = 43) then
            M.bind (stN a1 [vi 0, Value.string (ofBytes []), Value.bool false, vsl0, vsl0]) fun x6 =>
            M.bind (ldLs [li, .str, .bool, .sl, .sl] a1) fun (x7 : Int × ByteArray × Bool × Sl × Sl) =>
            M.pure ((x7.1, x7.2.1, x7.2.2.1, x7.2.2.2.1, x7.2.2.2.2), 12)
          else
            M.bind (toml_whole n x3.1 8) fun x6 =>
            M.bind (stN a1 [vi x6.1.1, Value.string x6.1.2.1, Value.bool x6.1.2.2.1, vsl x6.1.2.2.2.1, vsl x6.1.2.2.2.2]) fun x7 =>
            M.bind (ldLs [li, .str, .bool, .sl, .sl] a1) fun (x8 : Int × ByteArray × Bool × Sl × Sl) =>
            M.pure ((x8.1, x8.2.1, x8.2.2.1, x8.2.2.2.1, x8.2.2.2.2), x6.2)
  else
    M.bind (sliceS a0 2 (↑a0.size : Int)) fun x1 =>
    M.bind (toml_bare n x1 (Value.func (Fn.func F_toml_hexadecimal) #[] #[])) fun x2 =>
    if !x2.2 then
      M.bind (stN a1 [vi 0, Value.string (ofBytes []), Value.bool false, vsl0, vsl0]) fun x3 =>
      M.bind (ldLs [li, .str, .bool, .sl, .sl] a1) fun (x4 : Int × ByteArray × Bool × Sl × Sl) =>
      M.pure ((x4.1, x4.2.1, x4.2.2.1, x4.2.2.2.1, x4.2.2.2.2), 12)
    else
      M.bind (idxS x2.1 0) fun x3 =>
      if decide ((↑x3.toNat : Int) = 45) then
        M.bind (stN a1 [vi 0, Value.string (ofBytes []), Value.bool false, vsl0, vsl0]) fun x4 =>
        M.bind (ldLs [li, .str, .bool, .sl, .sl] a1) fun (x5 : Int × ByteArray × Bool × Sl × Sl) =>
        M.pure ((x5.1, x5.2.1, x5.2.2.1, x5.2.2.2.1, x5.2.2.2.2), 12)
      else
        M.bind (idxS x2.1 0) fun x4 =>
        if decide ((↑x4.toNat : Int) = 43) then
          M.bind (stN a1 [vi 0, Value.string (ofBytes []), Value.bool false, vsl0, vsl0]) fun x5 =>
          M.bind (ldLs [li, .str, .bool, .sl, .sl] a1) fun (x6 : Int × ByteArray × Bool × Sl × Sl) =>
          M.pure ((x6.1, x6.2.1, x6.2.2.1, x6.2.2.2.1, x6.2.2.2.2), 12)
        else
          M.bind (toml_whole n x2.1 16) fun x5 =>
          M.bind (stN a1 [vi x5.1.1, Value.string x5.1.2.1, Value.bool x5.1.2.2.1, vsl x5.1.2.2.2.1, vsl x5.1.2.2.2.2]) fun x6 =>
          M.bind (ldLs [li, .str, .bool, .sl, .sl] a1) fun (x7 : Int × ByteArray × Bool × Sl × Sl) =>
          M.pure ((x7.1, x7.2.1, x7.2.2.1, x7.2.2.2.1, x7.2.2.2.2), x5.2)
def toml_number_J1 (n : Nat) (a0 : Addr) (a1 : ByteArray) : M ((Int × ByteArray × Bool × Sl × Sl) × Int) :=
  M.bind (toml_numeral n a1) fun x0 =>
  if !x0 then
    M.bind (stN a0 [vi 0, Value.string (ofBytes []), Value.bool false, vsl0, vsl0]) fun x1 =>
    M.bind (ldLs [li, .str, .bool, .sl, .sl] a0) fun (x2 : Int × ByteArray × Bool × Sl × Sl) =>
    M.pure ((x2.1, x2.2.1, x2.2.2.1, x2.2.2.2.1, x2.2.2.2.2), 12)
  else
    M.bind (strings_ContainsAny n a1 (ofBytes [46, 101, 69])) fun x1 =>
    if !x1 then
      M.bind (toml_whole n a1 10) fun x2 =>
      M.bind (stN a0 [vi x2.1.1, Value.string x2.1.2.1, Value.bool x2.1.2.2.1, vsl x2.1.2.2.2.1, vsl x2.1.2.2.2.2]) fun x3 =>
      M.bind (ldLs [li, .str, .bool, .sl, .sl] a0) fun (x4 : Int × ByteArray × Bool × Sl × Sl) =>
      M.pure ((x4.1, x4.2.1, x4.2.2.1, x4.2.2.2.1, x4.2.2.2.2), x2.2)
    else
      M.bind (decimal_Parse n a1) fun x2 =>
      if !decide (x2.2 = 0) then
        M.bind (stN a0 [vi 0, Value.string (ofBytes []), Value.bool false, vsl0, vsl0]) fun x3 =>
        M.bind (ldLs [li, .str, .bool, .sl, .sl] a0) fun (x4 : Int × ByteArray × Bool × Sl × Sl) =>
        M.pure ((x4.1, x4.2.1, x4.2.2.1, x4.2.2.2.1, x4.2.2.2.2), 12)
      else
        M.bind (stN a0 [vi 3, Value.string x2.1, Value.bool false, vsl0, vsl0]) fun x3 =>
        M.bind (ldLs [li, .str, .bool, .sl, .sl] a0) fun (x4 : Int × ByteArray × Bool × Sl × Sl) =>
        M.pure ((x4.1, x4.2.1, x4.2.2.1, x4.2.2.2.1, x4.2.2.2.2), 0)
def toml_number_J0 (n : Nat) (a0 : ByteArray) (a1 : Addr) : M ((Int × ByteArray × Bool × Sl × Sl) × Int) :=
  M.bind (toml_bare n a0 (Value.func (Fn.func F_toml_digit) #[] #[])) fun x0 =>
  if !x0.2 then
    M.bind (stN a1 [vi 0, Value.string (ofBytes []), Value.bool false, vsl0, vsl0]) fun x1 =>
    M.bind (ldLs [li, .str, .bool, .sl, .sl] a1) fun (x2 : Int × ByteArray × Bool × Sl × Sl) =>
    M.pure ((x2.1, x2.2.1, x2.2.2.1, x2.2.2.2.1, x2.2.2.2.2), 12)
  else
    if decide (1 < (↑(ByteArray.size x0.1) : Int)) then
      M.bind (idxS x0.1 0) fun x1 =>
      if decide ((↑x1.toNat : Int) = 43) then
        M.bind (idxS x0.1 1) fun x2 =>
        M.bind (toml_digit n (↑x2.toNat : Int)) fun x3 =>
        if x3 then
          M.bind (sliceS x0.1 1 (↑(ByteArray.size x0.1) : Int)) fun x4 =>
          toml_number_J1 n a1 x4
        else
          toml_number_J1 n a1 x0.1
      else
        toml_number_J1 n a1 x0.1
    else
      toml_number_J1 n a1 x0.1
def toml_number (n : Nat) (a0 : ByteArray) : M ((Int × ByteArray × Bool × Sl × Sl) × Int) :=
  M.bind (newB none T_api_Node [vi 0, Value.string (ofBytes []), Value.bool false, vsl0, vsl0]) fun x0 =>
  if decide (2 < (↑a0.size : Int)) then
    M.bind (idxS a0 0) fun x1 =>
    if decide ((↑x1.toNat : Int) = 48) then
      M.bind (idxS a0 1) fun x2 =>
      M.bind (strings_IndexByte n (ofBytes [120, 111, 98]) (↑x2.toNat : Int)) fun x3 =>
      if decide (0 ≤ x3) then
        toml_number_J2 n a0 (adr x0)
      else
        toml_number_J0 n a0 (adr x0)
    else
      toml_number_J0 n a0 (adr x0)
  else
    toml_number_J0 n a0 (adr x0)
abbrev q165_E (n : Nat) : Ent := ⟨165, [tyS], [.agg [.int .i64, .str, .bool, .sl, .sl], tyI], fun x => toml_number n x⟩
abbrev q165_jt (n : Nat) : List (JEnt ((Int × ByteArray × Bool × Sl × Sl) × Int)) := [⟨[0, 1, 1], [.code [1, 1, 1]], [(0, tyS), (2, tyA)], fun x => toml_number_J0 n (x.1) (x.2)⟩,
  ⟨[0, 0, 1, 1, 1, 1, 1], [.code [1, 0, 1, 1, 1, 1, 1], .code [1, 1, 1, 1, 1, 1]], [(2, tyA), (8, tyS)], fun x => toml_number_J1 n (x.1) (x.2)⟩,
  ⟨[0, 0, 1, 0, 1], [.code [1, 0, 1, 0, 1], .code [1, 1]], [(0, tyS), (2, tyA)], fun x => toml_number_J2 n (x.1) (x.2)⟩]
theorem toml_number_ok (n : Nat) : FnOK Tryz.prog (q165_E n) := fn_c Tryz.f165 (C60 n) (js := q165_jt n) (hT := ⟨.nil, K60 n, .nil, .nil, (.cc (.cc (.cc .nil)))⟩)
abbrev C61 (n : Nat) : List Ent := q165_E n :: C60 n
theorem K61 (n : Nat) : AllOK Tryz.prog (C61 n) := .cons (toml_number_ok n) (K60 n)
def toml_parser_scalar_J4 (n : Nat) (a0 : Option Addr) (a1 : ByteArray) (a2 : Int) (a3 : Addr) : M ((Int × ByteArray × Bool × Sl × Sl) ⊕ Value) :=
  M.bind (instant_Instant n a1) fun x0 =>
  if decide (x0.2 = 0) then
    M.bind (stN a3 [vi 7, Value.string x0.1, Value.bool false, vsl0, vsl0]) fun x1 =>
    M.bind (M.bind (ldLs [li, .str, .bool, .sl, .sl] a3) fun (x2 : Int × ByteArray × Bool × Sl × Sl) =>
      M.pure (x2.1, x2.2.1, x2.2.2.1, x2.2.2.2.1, x2.2.2.2.2)) fun x2 =>
    M.pure (Sum.inl x2)
  else
    M.bind (instant_Local n a1) fun x1 =>
    if !decide (x1.2 = 0) then
      M.bind (toml_parser_fail n a0 a2 13) (sumElim (fun x2 =>
        M.bind (stN a3 [vi 8, Value.string x1.1, Value.bool false, vsl0, vsl0]) fun x3 =>
        M.bind (M.bind (ldLs [li, .str, .bool, .sl, .sl] a3) fun (x4 : Int × ByteArray × Bool × Sl × Sl) =>
          M.pure (x4.1, x4.2.1, x4.2.2.1, x4.2.2.2.1, x4.2.2.2.2)) fun x4 =>
        M.pure (Sum.inl x4))
      (fun x2 =>
        M.pure (Sum.inr x2)))
    else
      M.bind (stN a3 [vi 8, Value.string x1.1, Value.bool false, vsl0, vsl0]) fun x2 =>
      M.bind (M.bind (ldLs [li, .str, .bool, .sl, .sl] a3) fun (x3 : Int × ByteArray × Bool × Sl × Sl) =>
        M.pure (x3.1, x3.2.1, x3.2.2.1, x3.2.2.2.1, x3.2.2.2.2)) fun x3 =>
      M.pure (Sum.inl x3)
def toml_parser_scalar_J3 (n : Nat) (a0 : Option Addr) (a1 : ByteArray) (a2 : Int) (a3 : Addr) : M ((Int × ByteArray × Bool × Sl × Sl) ⊕ Value) :=
  M.bind (toml_number n a1) fun x0 =>
  M.bind (newB none T_api_Node [vi 0, Value.string (ofBytes []), Value.bool false, vsl0, vsl0]) fun x1 =>
  M.bind (stN (adr x1) [vi x0.1.1, Value.string x0.1.2.1, Value.bool x0.1.2.2.1, vsl x0.1.2.2.2.1, vsl x0.1.2.2.2.2]) fun x2 =>
  if !decide (x0.2 = 0) then
    M.bind (toml_parser_fail n a0 a2 x0.2) (sumElim (fun x3 =>
      M.bind (ldLs [li, .str, .bool, .sl, .sl] (adr x1)) fun (x4 : Int × ByteArray × Bool × Sl × Sl) =>
      M.bind (stN a3 [vi x4.1, Value.string x4.2.1, Value.bool x4.2.2.1, vsl x4.2.2.2.1, vsl x4.2.2.2.2]) fun x5 =>
      M.bind (M.bind (ldLs [li, .str, .bool, .sl, .sl] a3) fun (x6 : Int × ByteArray × Bool × Sl × Sl) =>
        M.pure (x6.1, x6.2.1, x6.2.2.1, x6.2.2.2.1, x6.2.2.2.2)) fun x6 =>
      M.pure (Sum.inl x6))
    (fun x3 =>
      M.pure (Sum.inr x3)))
  else
    M.bind (ldLs [li, .str, .bool, .sl, .sl] (adr x1)) fun (x3 : Int × ByteArray × Bool × Sl × Sl) =>
    M.bind (stN a3 [vi x3.1, Value.string x3.2.1, Value.bool x3.2.2.1, vsl x3.2.2.2.1, vsl x3.2.2.2.2]) fun x4 =>
    M.bind (M.bind (ldLs [li, .str, .bool, .sl, .sl] a3) fun (x5 : Int × ByteArray × Bool × Sl × Sl) =>
      M.pure (x5.1, x5.2.1, x5.2.2.1, x5.2.2.2.1, x5.2.2.2.2)) fun x5 =>
    M.pure (Sum.inl x5)
def toml_parser_scalar_J2 (n : Nat) (a0 : Option Addr) (a1 : ByteArray) (a2 : Int) (a3 : Addr) : M ((Int × ByteArray × Bool × Sl × Sl) ⊕ Value) :=
  M.bind (idxS a1 0) fun x0 =>
  M.bind (toml_digit n (↑x0.toNat : Int)) fun x1 =>
  if x1 then
    toml_parser_scalar_J3 n a0 a1 a2 a3
  else
    M.bind (idxS a1 0) fun x2 =>
    if decide ((↑x2.toNat : Int) = 43) then
      toml_parser_scalar_J3 n a0 a1 a2 a3
    else
      M.bind (idxS a1 0) fun x3 =>
      if decide ((↑x3.toNat : Int) = 45) then
        toml_parser_scalar_J3 n a0 a1 a2 a3
      else
        M.bind (toml_parser_fail n a0 a2 4) (sumElim (fun x4 =>
          M.bind (stN a3 [vi 0, Value.string (ofBytes []), Value.bool false, vsl0, vsl0]) fun x5 =>
          M.bind (M.bind (ldLs [li, .str, .bool, .sl, .sl] a3) fun (x6 : Int × ByteArray × Bool × Sl × Sl) =>
            M.pure (x6.1, x6.2.1, x6.2.2.1, x6.2.2.2.1, x6.2.2.2.2)) fun x6 =>
          M.pure (Sum.inl x6))
        (fun x4 =>
          M.pure (Sum.inr x4)))
def toml_parser_scalar_J1 (n : Nat) (a0 : Option Addr) (a1 : ByteArray) (a2 : Int) (a3 : Addr) : M ((Int × ByteArray × Bool × Sl × Sl) ⊕ Value) :=
  M.bind (strings_Contains n a1 (ofBytes [58])) fun x0 =>
  if x0 then
    toml_parser_scalar_J4 n a0 a1 a2 a3
  else
    if decide (4 < (↑a1.size : Int)) then
      M.bind (idxS a1 0) fun x1 =>
      M.bind (toml_digit n (↑x1.toNat : Int)) fun x2 =>
      if x2 then
        M.bind (idxS a1 1) fun x3 =>
        M.bind (toml_digit n (↑x3.toNat : Int)) fun x4 =>
        if x4 then
          M.bind (idxS a1 2) fun x5 =>
          M.bind (toml_digit n (↑x5.toNat : Int)) fun x6 =>
          if x6 then
            M.bind (idxS a1 3) fun x7 =>
            M.bind (toml_digit n (↑x7.toNat : Int)) fun x8 =>
            if x8 then
              M.bind (idxS a1 4) fun x9 =>
              if decide ((↑x9.toNat : Int) = 45) then
                toml_parser_scalar_J4 n a0 a1 a2 a3
              else
                toml_parser_scalar_J2 n a0 a1 a2 a3
            else
              toml_parser_scalar_J2 n a0 a1 a2 a3
          else
            toml_parser_scalar_J2 n a0 a1 a2 a3
        else
          toml_parser_scalar_J2 n a0 a1 a2 a3
      else
        toml_parser_scalar_J2 n a0 a1 a2 a3
    else
      toml_parser_scalar_J2 n a0 a1 a2 a3
def toml_parser_scalar_J0 (n : Nat) (a0 : Option Addr) (a1 : ByteArray) (a2 : Int) (a3 : Addr) : M ((Int × ByteArray × Bool × Sl × Sl) ⊕ Value) :=
  if eqS a1 (ofBytes [105, 110, 102]) then
    M.bind (toml_parser_fail n a0 a2 12) (sumElim (fun x0 =>
      M.bind (toml_parser_fail n a0 a2 4) (sumElim (fun x1 =>
        M.bind (stN a3 [vi 0, Value.string (ofBytes []), Value.bool false, vsl0, vsl0]) fun x2 =>
        M.bind (M.bind (ldLs [li, .str, .bool, .sl, .sl] a3) fun (x3 : Int × ByteArray × Bool × Sl × Sl) =>
          M.pure (x3.1, x3.2.1, x3.2.2.1, x3.2.2.2.1, x3.2.2.2.2)) fun x3 =>
        M.pure (Sum.inl x3))
      (fun x1 =>
        M.pure (Sum.inr x1))))
    (fun x0 =>
      M.pure (Sum.inr x0)))
  else
    if eqS a1 (ofBytes [110, 97, 110]) then
      M.bind (toml_parser_fail n a0 a2 12) (sumElim (fun x0 =>
        M.bind (toml_parser_fail n a0 a2 4) (sumElim (fun x1 =>
          M.bind (stN a3 [vi 0, Value.string (ofBytes []), Value.bool false, vsl0, vsl0]) fun x2 =>
          M.bind (M.bind (ldLs [li, .str, .bool, .sl, .sl] a3) fun (x3 : Int × ByteArray × Bool × Sl × Sl) =>
            M.pure (x3.1, x3.2.1, x3.2.2.1, x3.2.2.2.1, x3.2.2.2.2)) fun x3 =>
          M.pure (Sum.inl x3))
        (fun x1 =>
          M.pure (Sum.inr x1))))
      (fun x0 =>
        M.pure (Sum.inr x0)))
    else
      toml_parser_scalar_J1 n a0 a1 a2 a3
def toml_parser_scalar (n : Nat) (a0 : Option Addr) (a1 : ByteArray) (a2 : Int) : M ((Int × ByteArray × Bool × Sl × Sl) ⊕ Value) :=
  M.bind (newB none T_api_Node [vi 0, Value.string (ofBytes []), Value.bool false, vsl0, vsl0]) fun x0 =>
  if eqS a1 (ofBytes [116, 114, 117, 101]) then
    M.bind (stN (adr x0) [vi 1, Value.string a1, Value.bool false, vsl0, vsl0]) fun x1 =>
    M.bind (M.bind (ldLs [li, .str, .bool, .sl, .sl] (adr x0)) fun (x2 : Int × ByteArray × Bool × Sl × Sl) =>
      M.pure (x2.1, x2.2.1, x2.2.2.1, x2.2.2.2.1, x2.2.2.2.2)) fun x2 =>
    M.pure (Sum.inl x2)
  else
    if eqS a1 (ofBytes [102, 97, 108, 115, 101]) then
      M.bind (stN (adr x0) [vi 1, Value.string a1, Value.bool false, vsl0, vsl0]) fun x1 =>
      M.bind (M.bind (ldLs [li, .str, .bool, .sl, .sl] (adr x0)) fun (x2 : Int × ByteArray × Bool × Sl × Sl) =>
        M.pure (x2.1, x2.2.1, x2.2.2.1, x2.2.2.2.1, x2.2.2.2.2)) fun x2 =>
      M.pure (Sum.inl x2)
    else
      toml_parser_scalar_J0 n a0 a1 a2 (adr x0)
abbrev q133_E (n : Nat) : PEnt := ⟨133, [tyP, tyS, tyI], [.agg [.int .i64, .str, .bool, .sl, .sl]], fun x => toml_parser_scalar n (x.1) (x.2.1) (x.2.2)⟩
abbrev q133_pt (n : Nat) : List PEnt := [q53_E n]
abbrev q133_jt (n : Nat) : List (JEnt ((Int × ByteArray × Bool × Sl × Sl) ⊕ Value)) := [⟨[0, 1, 1, 0, 0, 1], [.code [1, 1, 1, 0, 0, 1], .blk 0, .code [1, 1]], [(0, tyP), (1, tyS), (2, tyI), (6, tyA)], fun x => toml_parser_scalar_J0 n (x.1) (x.2.1) (x.2.2.1) (x.2.2.2)⟩,
  ⟨[0, 1, 1, 1, 1, 0, 0, 1], [.code [1, 1, 1, 1, 1, 0, 0, 1], .blk 0, .code [1, 1]], [(0, tyP), (1, tyS), (2, tyI), (6, tyA)], fun x => toml_parser_scalar_J1 n (x.1) (x.2.1) (x.2.2.1) (x.2.2.2)⟩,
  ⟨[0, 1, 1, 1, 1, 1, 1, 0, 0, 1], [.code [1, 1, 1, 1, 1, 1, 1, 0, 0, 1], .blk 0, .code [1, 1]], [(0, tyP), (1, tyS), (2, tyI), (6, tyA)], fun x => toml_parser_scalar_J2 n (x.1) (x.2.1) (x.2.2.1) (x.2.2.2)⟩,
  ⟨[0, 0, 1, 1, 1, 1, 1, 1, 1, 0, 0, 1], [.code [1, 0, 1, 1, 1, 1, 1, 1, 1, 0, 0, 1], .blk 0, .code [1, 1]], [(0, tyP), (1, tyS), (2, tyI), (6, tyA)], fun x => toml_parser_scalar_J3 n (x.1) (x.2.1) (x.2.2.1) (x.2.2.2)⟩,
  ⟨[0, 0, 0, 1, 1, 1, 1, 1, 0, 0, 1], [.code [1, 0, 0, 1, 1, 1, 1, 1, 0, 0, 1], .code [1, 0, 1, 1, 1, 1, 1, 0, 0, 1], .blk 0, .code [1, 1]], [(0, tyP), (1, tyS), (2, tyI), (6, tyA)], fun x => toml_parser_scalar_J4 n (x.1) (x.2.1) (x.2.2.1) (x.2.2.2)⟩]
theorem toml_parser_scalar_ok (n : Nat) : PFnOK Tryz.prog (q133_E n) :=
  fnp_t (q133_E n) Tryz.f133 (bodyOf Tryz.f133) [(0, tyP), (1, tyS), (2, tyI)] [] (C61 n) [] (q133_pt n) [] (q133_jt n) (fun _ => none) (by kernel_rfl) (by kernel_rfl) (by kernel_rfl) (by kernel_rfl) (by kernel_rfl) ⟨.nil, K61 n, .nil, (.cons (toml_parser_fail_ok n) .nil), by kernel_rfl, .nil, (.cc (.cc (.cc (.cc (.cc .nil)))))⟩ (fun x => by kernel_rfl)
def toml_parser_lines_L0_B (G : Option Addr → M (Unit)) (n : Nat) (a0 : Option Addr) : M (Unit) :=
  M.bind (toml_parser_token n a0) fun x0 =>
  if decide (x0.1 = 1) then
    M.bind (nn a0) fun x1 =>
    M.bind (ldL (li) (x1.plus 2)) fun (x2 : Int) =>
    M.bind (nn a0) fun x3 =>
    M.bind (stN (x3.plus 2) [vi (IntKind.i64.wrap (x2 + 1))]) fun x4 =>
    G a0
  else
    M.pure ()
def toml_parser_lines_L0 : Nat → Option Addr → M (Unit)
  | 0 => fun _ => M.fail
  | n + 1 => toml_parser_lines_L0_B (toml_parser_lines_L0 n) n
theorem toml_parser_lines_L0_succ (n : Nat) : toml_parser_lines_L0 (n + 1) = toml_parser_lines_L0_B (toml_parser_lines_L0 n) n := rfl
def toml_parser_lines (n : Nat) (a0 : Option Addr) : M (Unit) :=
  M.bind (toml_parser_lines_L0 n a0) fun x0 =>
  M.pure ()
abbrev q166_E (n : Nat) : Ent := ⟨166, [tyP], [], fun x => toml_parser_lines n x⟩
abbrev q166_L0 : L1 := ⟨[0], [(0, tyP)], [], List.range' 2 11, 0, fun n x => toml_parser_lines_L0 n x⟩
theorem q166_L0_ok (n : Nat) : LOK Tryz.prog Tryz.f166 (q166_L0.e n) q166_L0.ws := L1.ok Tryz.f166 q166_L0 n C61 (hT := fun m _ => .m1 (K61 m))
theorem toml_parser_lines_ok (n : Nat) : FnOK Tryz.prog (q166_E n) := fn_c Tryz.f166 (C61 n) (ll := [q166_L0.e n]) (hT := ⟨.nil, K61 n, .nil, (.cc (q166_L0_ok n) .nil), .nil⟩)
abbrev C62 (n : Nat) : List Ent := q166_E n :: C61 n
theorem K62 (n : Nat) : AllOK Tryz.prog (C62 n) := .cons (toml_parser_lines_ok n) (K61 n)
structure Cl_toml_parser_value where
  toml_parser_value : Option Addr → (Int × Int × Int × Int × Int × Int × Int × Bool × Bool) → Int → M ((Int) ⊕ Value)
  toml_parser_array_L0 : Option Addr → Int → Addr → Int → Int → M ((Unit) ⊕ Value)
  toml_parser_array : Option Addr → (Int × Int × Int × Int × Int × Int × Int × Bool × Bool) → Int → M ((Int) ⊕ Value)
def toml_parser_value_J2_B (G : Cl_toml_parser_value) (n : Nat) (a0 : Option Addr) (a1 : Int) (a2 : Addr) (a3 : Addr) (a4 : Addr) : M ((Int) ⊕ Value) :=
  M.bind (ldL (li) (a3.plus 1)) fun (x0 : Int) =>
  M.bind (toml_parser_limits n a0 a1 x0) (sumElim (fun x1 =>
    M.bind (ldLs [li, .str, .bool, .sl, .sl] a4) fun (x2 : Int × ByteArray × Bool × Sl × Sl) =>
    M.bind (toml_parser_node n a0 (x2.1, x2.2.1, x2.2.2.1, x2.2.2.2.1, x2.2.2.2.2)) fun x3 =>
    M.bind (stN (a2.plus 0) [vi x3]) fun x4 =>
    M.bind (ldLs [li, li, li, li, li, li, li, .bool, .bool] a2) fun (x5 : Int × Int × Int × Int × Int × Int × Int × Bool × Bool) =>
    M.bind (toml_parser_span n a0 (x5.1, x5.2.1, x5.2.2.1, x5.2.2.2.1, x5.2.2.2.2.1, x5.2.2.2.2.2.1, x5.2.2.2.2.2.2.1, x5.2.2.2.2.2.2.2.1, x5.2.2.2.2.2.2.2.2)) fun x6 =>
    M.bind (ldL (li) (a2.plus 0)) fun (x7 : Int) =>
    M.pure (Sum.inl x7))
  (fun x1 =>
    M.pure (Sum.inr x1)))
def toml_parser_value_J1_B (G : Cl_toml_parser_value) (n : Nat) (a0 : Option Addr) (a1 : Int) (a2 : Addr) (a3 : Addr) (a4 : Addr) : M ((Int) ⊕ Value) :=
  M.bind (ldL .str (a3.plus 3)) fun (x0 : ByteArray) =>
  M.bind (stN a4 [vi 5, Value.string x0, Value.bool false, vsl0, vsl0]) fun x1 =>
  M.bind (ldL (li) (a3.plus 2)) fun (x2 : Int) =>
  M.bind (stN (a2.plus 4) [vi x2]) fun x3 =>
  M.bind (nn a0) fun x4 =>
  M.bind (ldL (li) (x4.plus 2)) fun (x5 : Int) =>
  M.bind (nn a0) fun x6 =>
  M.bind (stN (x6.plus 2) [vi (IntKind.i64.wrap (x5 + 1))]) fun x7 =>
  toml_parser_value_J2_B G n a0 a1 a2 a3 a4
def toml_parser_value_J0_B (G : Cl_toml_parser_value) (n : Nat) (a0 : Option Addr) (a1 : Int) (a2 : Addr) (a3 : Addr) (a4 : Addr) : M ((Int) ⊕ Value) :=
  M.bind (toml_parser_is n a0 (ofBytes [91])) fun x0 =>
  if x0 then
    M.bind (ldLs [li, li, li, li, li, li, li, .bool, .bool] a2) fun (x1 : Int × Int × Int × Int × Int × Int × Int × Bool × Bool) =>
    M.bind (G.toml_parser_array a0 (x1.1, x1.2.1, x1.2.2.1, x1.2.2.2.1, x1.2.2.2.2.1, x1.2.2.2.2.2.1, x1.2.2.2.2.2.2.1, x1.2.2.2.2.2.2.2.1, x1.2.2.2.2.2.2.2.2) a1) (sumElim (fun x2 =>
      M.pure (Sum.inl x2))
    (fun x2 =>
      M.pure (Sum.inr x2)))
  else
    M.bind (toml_parser_is n a0 (ofBytes [123])) fun x1 =>
    if x1 then
      M.bind (ldLs [li, li, li, li, li, li, li, .bool, .bool] a2) fun (x2 : Int × Int × Int × Int × Int × Int × Int × Bool × Bool) =>
      M.fail
    else
      M.bind (ldL (li) (a3.plus 1)) fun (x2 : Int) =>
      M.bind (toml_parser_fail n a0 x2 4) (sumElim (fun x3 =>
        toml_parser_value_J2_B G n a0 a1 a2 a3 a4)
      (fun x3 =>
        M.pure (Sum.inr x3)))
def toml_parser_value_B (G : Cl_toml_parser_value) (n : Nat) (a0 : Option Addr) (a1 : Int × Int × Int × Int × Int × Int × Int × Bool × Bool) (a2 : Int) : M ((Int) ⊕ Value) :=
  M.bind (newB none T_api_Span [vi a1.1, vi a1.2.1, vi a1.2.2.1, vi a1.2.2.2.1, vi a1.2.2.2.2.1, vi a1.2.2.2.2.2.1, vi a1.2.2.2.2.2.2.1, Value.bool a1.2.2.2.2.2.2.2.1, Value.bool a1.2.2.2.2.2.2.2.2]) fun x0 =>
  M.bind (toml_parser_token n a0) fun x1 =>
  M.bind (newB none T_tomllex_Token [vi 0, vi 0, vi 0, Value.string (ofBytes [])]) fun x2 =>
  M.bind (stN (adr x2) [vi x1.1, vi x1.2.1, vi x1.2.2.1, Value.string x1.2.2.2]) fun x3 =>
  M.bind (ldL (li) ((adr x2).plus 1)) fun (x4 : Int) =>
  M.bind (stN ((adr x0).plus 3) [vi x4]) fun x5 =>
  M.bind (stN ((adr x0).plus 8) [Value.bool true]) fun x6 =>
  M.bind (newB none T_api_Node [vi 0, Value.string (ofBytes []), Value.bool false, vsl0, vsl0]) fun x7 =>
  M.bind (ldL (li) ((adr x2).plus 0)) fun (x8 : Int) =>
  if decide (x8 = 3) then
    M.bind (toml_parser_atom n a0) fun x9 =>
    M.bind (ldL (li) ((adr x2).plus 1)) fun (x10 : Int) =>
    M.bind (toml_parser_scalar n a0 x9 x10) (sumElim (fun x11 =>
      M.bind (stN (adr x7) [vi x11.1, Value.string x11.2.1, Value.bool x11.2.2.1, vsl x11.2.2.2.1, vsl x11.2.2.2.2]) fun x12 =>
      M.bind (ldL (li) ((adr x2).plus 1)) fun (x13 : Int) =>
      M.bind (stN ((adr x0).plus 4) [vi (IntKind.i64.wrap (x13 + (↑(ByteArray.size x9) : Int)))]) fun x14 =>
      toml_parser_value_J2_B G n a0 a2 (adr x0) (adr x2) (adr x7))
    (fun x11 =>
      M.pure (Sum.inr x11)))
  else
    M.bind (ldL (li) ((adr x2).plus 0)) fun (x9 : Int) =>
    if decide (4 ≤ x9) then
      M.bind (ldL (li) ((adr x2).plus 0)) fun (x10 : Int) =>
      if decide (x10 ≤ 7) then
        toml_parser_value_J1_B G n a0 a2 (adr x0) (adr x2) (adr x7)
      else
        toml_parser_value_J0_B G n a0 a2 (adr x0) (adr x2) (adr x7)
    else
      toml_parser_value_J0_B G n a0 a2 (adr x0) (adr x2) (adr x7)
def toml_parser_array_L0_B (G : Cl_toml_parser_value) (n : Nat) (a0 : Option Addr) (a1 : Int) (a2 : Addr) (a3 : Int) (a4 : Int) : M ((Unit) ⊕ Value) :=
  M.bind (toml_parser_lines n a0) fun x0 =>
  M.bind (toml_parser_is n a0 (ofBytes [93])) fun x1 =>
  if x1 then
    M.pure (Sum.inl ())
  else
    M.bind (ldL (li) (a2.plus 0)) fun (x2 : Int) =>
    M.bind (chk [some (a2.plus 0)] (G.toml_parser_value a0 (0, a3, a4, 0, 0, 0, 0, false, false) (IntKind.i64.wrap (a1 + 1)))) (sumElim (fun x3 =>
      M.bind (toml_parser_item n a0 x2 x3) fun x4 =>
      M.bind (toml_parser_lines n a0) fun x5 =>
      M.bind (toml_parser_is n a0 (ofBytes [44])) fun x6 =>
      if !x6 then
        M.pure (Sum.inl ())
      else
        M.bind (nn a0) fun x7 =>
        M.bind (ldL (li) (x7.plus 2)) fun (x8 : Int) =>
        M.bind (nn a0) fun x9 =>
        M.bind (stN (x9.plus 2) [vi (IntKind.i64.wrap (x8 + 1))]) fun x10 =>
        G.toml_parser_array_L0 a0 a1 a2 a3 (IntKind.i64.wrap (a4 + 1)))
    (fun x3 =>
      M.pure (Sum.inr x3)))
def toml_parser_array_B (G : Cl_toml_parser_value) (n : Nat) (a0 : Option Addr) (a1 : Int × Int × Int × Int × Int × Int × Int × Bool × Bool) (a2 : Int) : M ((Int) ⊕ Value) :=
  M.bind (newB none T_api_Span [vi a1.1, vi a1.2.1, vi a1.2.2.1, vi a1.2.2.2.1, vi a1.2.2.2.2.1, vi a1.2.2.2.2.2.1, vi a1.2.2.2.2.2.2.1, Value.bool a1.2.2.2.2.2.2.2.1, Value.bool a1.2.2.2.2.2.2.2.2]) fun x0 =>
  M.bind (ldL (li) ((adr x0).plus 3)) fun (x1 : Int) =>
  M.bind (toml_parser_limits n a0 a2 x1) (sumElim (fun x2 =>
    M.bind (toml_parser_node n a0 (9, (ofBytes []), false, sl0, sl0)) fun x3 =>
    M.bind (stN ((adr x0).plus 0) [vi x3]) fun x4 =>
    M.bind (ldLs [li, li, li, li, li, li, li, .bool, .bool] (adr x0)) fun (x5 : Int × Int × Int × Int × Int × Int × Int × Bool × Bool) =>
    M.bind (toml_parser_span n a0 (x5.1, x5.2.1, x5.2.2.1, x5.2.2.2.1, x5.2.2.2.2.1, x5.2.2.2.2.2.1, x5.2.2.2.2.2.2.1, x5.2.2.2.2.2.2.2.1, x5.2.2.2.2.2.2.2.2)) fun x6 =>
    M.bind (nn a0) fun x7 =>
    M.bind (ldL (li) (x7.plus 2)) fun (x8 : Int) =>
    M.bind (nn a0) fun x9 =>
    M.bind (stN (x9.plus 2) [vi (IntKind.i64.wrap (x8 + 1))]) fun x10 =>
    M.bind (G.toml_parser_array_L0 a0 a2 (adr x0) x6 0) (sumElim (fun x11 =>
      M.bind (nn a0) fun x12 =>
      M.bind (ldL .sl ((x12.plus 3).plus 4)) fun (x13 : Sl) =>
      M.bind (chk [some ((x12.plus 3).plus 4)] (toml_parser_token n a0)) fun x14 =>
      M.bind (idxA x13 x6 9) fun x15 =>
      M.bind (stN (x15.plus 4) [vi x14.2.2.1]) fun x16 =>
      M.bind (toml_parser_expect n a0 (ofBytes [93])) (sumElim (fun x17 =>
        M.bind (ldL (li) ((adr x0).plus 0)) fun (x18 : Int) =>
        M.pure (Sum.inl x18))
      (fun x17 =>
        M.pure (Sum.inr x17))))
    (fun x11 =>
      M.pure (Sum.inr x11))))
  (fun x2 =>
    M.pure (Sum.inr x2)))
def Cl_toml_parser_value.at : Nat → Cl_toml_parser_value
  | 0 => ⟨fun _ _ _ => M.fail, fun _ _ _ _ _ => M.fail, fun _ _ _ => M.fail⟩
  | n + 1 => ⟨toml_parser_value_B (Cl_toml_parser_value.at n) n, toml_parser_array_L0_B (Cl_toml_parser_value.at n) n, toml_parser_array_B (Cl_toml_parser_value.at n) n⟩
def toml_parser_value (n : Nat) := (Cl_toml_parser_value.at n).toml_parser_value
theorem toml_parser_value_succ (n : Nat) : toml_parser_value (n + 1) = toml_parser_value_B (Cl_toml_parser_value.at n) n := rfl
def toml_parser_array_L0 (n : Nat) := (Cl_toml_parser_value.at n).toml_parser_array_L0
theorem toml_parser_array_L0_succ (n : Nat) : toml_parser_array_L0 (n + 1) = toml_parser_array_L0_B (Cl_toml_parser_value.at n) n := rfl
def toml_parser_array (n : Nat) := (Cl_toml_parser_value.at n).toml_parser_array
theorem toml_parser_array_succ (n : Nat) : toml_parser_array (n + 1) = toml_parser_array_B (Cl_toml_parser_value.at n) n := rfl
def toml_parser_value_J0 (n : Nat) := toml_parser_value_J0_B (Cl_toml_parser_value.at n) n
def toml_parser_value_J1 (n : Nat) := toml_parser_value_J1_B (Cl_toml_parser_value.at n) n
def toml_parser_value_J2 (n : Nat) := toml_parser_value_J2_B (Cl_toml_parser_value.at n) n
abbrev q94_E (n : Nat) : PEnt := ⟨94, [tyP, .agg [.int .i64, .int .i64, .int .i64, .int .i64, .int .i64, .int .i64, .int .i64, .bool, .bool], tyI], [tyI], fun x => toml_parser_value n (x.1) (x.2.1) (x.2.2)⟩
abbrev q134_E (n : Nat) : PEnt := ⟨134, [tyP, .agg [.int .i64, .int .i64, .int .i64, .int .i64, .int .i64, .int .i64, .int .i64, .bool, .bool], tyI], [tyI], fun x => toml_parser_array n (x.1) (x.2.1) (x.2.2)⟩
abbrev q134_L0_w : List Nat := [8] ++ List.range' 28 29
abbrev q134_L0_a : List (Nat × Ty) := [(0, tyP), (2, tyI), (4, tyA), (7, tyI), (8, tyI)]
abbrev q134_L0_p : Path := [0, 1, 0, 1, 1, 1, 1, 1]
abbrev q134_L0_g (n : Nat) (x : TsDen (tys q134_L0_a)) : M ((Unit) ⊕ Value) := toml_parser_array_L0 n (x.1) (x.2.1) (x.2.2.1) (x.2.2.2.1) (x.2.2.2.2)
abbrev q134_L0_l (n : Nat) : LEnt := ⟨q134_L0_p, q134_L0_a, actL1P q134_L0_a [] q134_L0_w 0 (q134_L0_g n)⟩
abbrev q94_pt (n : Nat) : List PEnt := [q53_E n, q130_E n, q133_E n, q134_E n]
abbrev q94_jt (n : Nat) : List (JEnt ((Int) ⊕ Value)) := [⟨[0, 1, 1, 1, 1, 0, 0, 1, 1, 1, 1], [.code [1, 1, 1, 1, 1, 0, 0, 1, 1, 1, 1], .blk 0, .code [1, 1, 1, 1, 1]], [(0, tyP), (2, tyI), (4, tyA), (7, tyA), (8, tyA)], fun x => toml_parser_value_J0 n (x.1) (x.2.1) (x.2.2.1) (x.2.2.2.1) (x.2.2.2.2)⟩,
  ⟨[0, 0, 1, 1, 1, 0, 0, 1, 1, 1, 1], [.code [1, 0, 1, 1, 1, 0, 0, 1, 1, 1, 1], .blk 0, .code [1, 1, 1, 1, 1]], [(0, tyP), (2, tyI), (4, tyA), (7, tyA), (8, tyA)], fun x => toml_parser_value_J1 n (x.1) (x.2.1) (x.2.2.1) (x.2.2.2.1) (x.2.2.2.2)⟩,
  ⟨[0, 1, 1, 1, 1, 1], [.code [1, 1, 1, 1, 1, 1]], [(0, tyP), (2, tyI), (4, tyA), (7, tyA), (8, tyA)], fun x => toml_parser_value_J2 n (x.1) (x.2.1) (x.2.2.1) (x.2.2.2.1) (x.2.2.2.2)⟩]
abbrev q134_pt (n : Nat) : List PEnt := [q88_E n, q94_E n, q130_E n]
def q134_dr (i : Nat) : Option (List (Nat × List Nat)) := cond (Nat.beq i 9) (some [(0, []), (1, []), (3, []), (4, []), (5, []), (6, []), (7, []), (8, []), (2, []), (9, [2]), (10, [])]) (cond (Nat.beq i 13) (some [(0, []), (1, []), (2, []), (3, []), (5, []), (6, []), (4, []), (7, [4]), (8, []), (9, []), (10, []), (11, [])]) (none))
def P_toml_parser_value (n : Nat) : Prop := PFnOK Tryz.prog (q94_E n) ∧ PFnOK Tryz.prog (q134_E n)
theorem toml_parser_value_ok_step (n : Nat) (H : ∀ m, m < n + 1 → P_toml_parser_value m) : PFnOK Tryz.prog (q94_E (n + 1)) :=
  fnp_t (q94_E (n + 1)) Tryz.f94 (bodyOf Tryz.f94) [(0, tyP), (1, .agg [.int .i64, .int .i64, .int .i64, .int .i64, .int .i64, .int .i64, .int .i64, .bool, .bool]), (2, tyI)] [] (C62 n) [] (q94_pt n) [] (q94_jt n) (fun _ => none) (by kernel_rfl) (by kernel_rfl) (by kernel_rfl) (by kernel_rfl) (by kernel_rfl) ⟨.nil, K62 n, .nil, (.cons (toml_parser_fail_ok n) (.cons (toml_parser_limits_ok n) (.cons (toml_parser_scalar_ok n) (.cons (H n (Nat.lt_succ_self n)).2 .nil)))), by kernel_rfl, .nil, (.cc (.cc (.cc .nil)))⟩ (fun x => by kernel_rfl)
theorem q134_L0_ok (n : Nat) (H : ∀ m, m < n → P_toml_parser_value m) {W : Wr} (hW : subW W 72 q134_L0_w = true) : LEntOK Tryz.prog (bodyOf Tryz.f134) W (q134_L0_l n) :=
  loop1P_t (bodyOf Tryz.f134) q134_L0_p q134_L0_a [] 0 72 q134_L0_w [] C62 (fun _ => []) q134_pt (fun _ => []) q134_dr q134_L0_g (fun _ => []) (by kernel_rfl) (fun _ => by kernel_rfl) (fun n x => by kernel_rfl) n (fun m hm => ⟨.nil, K62 m, .nil, (.cons (toml_parser_expect_ok m) (.cons (H m hm).1 (.cons (toml_parser_limits_ok m) .nil))), by kernel_rfl, .nil, .nil⟩) hW
theorem toml_parser_array_ok_step (n : Nat) (H : ∀ m, m < n + 1 → P_toml_parser_value m) : PFnOK Tryz.prog (q134_E (n + 1)) :=
  fnp_t (q134_E (n + 1)) Tryz.f134 (bodyOf Tryz.f134) [(0, tyP), (1, .agg [.int .i64, .int .i64, .int .i64, .int .i64, .int .i64, .int .i64, .int .i64, .bool, .bool]), (2, tyI)] [] (C62 n) [] (q134_pt n) [q134_L0_l n] [] q134_dr (by kernel_rfl) (by kernel_rfl) (by kernel_rfl) (by kernel_rfl) (by kernel_rfl) ⟨.nil, K62 n, .nil, (.cons (toml_parser_expect_ok n) (.cons (H n (Nat.lt_succ_self n)).1 (.cons (toml_parser_limits_ok n) .nil))), by kernel_rfl, (.cons (q134_L0_ok n (fun k hk => H k (Nat.lt_succ_of_lt hk)) (by kernel_rfl)) .nil), .nil⟩ (fun x => by kernel_rfl)
theorem P_toml_parser_value_all : ∀ n m, m < n → P_toml_parser_value m := by
  intro n
  induction n with
  | zero => intro m hm; exact absurd hm (Nat.not_lt_zero m)
  | succ n ih =>
    intro m hm
    cases m with
    | zero => exact ⟨fnp_zero (fn := Tryz.f94) (by kernel_rfl) (by kernel_rfl) (by kernel_rfl) (fun _ => rfl), fnp_zero (fn := Tryz.f134) (by kernel_rfl) (by kernel_rfl) (by kernel_rfl) (fun _ => rfl)⟩
    | succ k => exact ⟨toml_parser_value_ok_step k fun m hm => ih m (by omega), toml_parser_array_ok_step k fun m hm => ih m (by omega)⟩
theorem toml_parser_value_ok (n : Nat) : PFnOK Tryz.prog (q94_E n) := (P_toml_parser_value_all (n + 1) n (Nat.lt_succ_self n)).1
theorem toml_parser_array_ok (n : Nat) : PFnOK Tryz.prog (q134_E n) := (P_toml_parser_value_all (n + 1) n (Nat.lt_succ_self n)).2
def toml_parser_pair_L0_B (G : Option Addr → Int → Addr → Sl → Int → Int → M ((Int) ⊕ Value)) (n : Nat) (a0 : Option Addr) (a1 : Int) (a2 : Addr) (a3 : Sl) (a4 : Int) (a5 : Int) : M ((Int) ⊕ Value) :=
  if decide (a5 < a4) then
    M.bind (idxA a3 a5 4) fun x0 =>
    M.bind (ldLs [li, li, li, .str] x0) fun (x1 : Int × Int × Int × ByteArray) =>
    M.bind (newB none T_tomllex_Token [vi 0, vi 0, vi 0, Value.string (ofBytes [])]) fun x2 =>
    M.bind (stN (adr x2) [vi x1.1, vi x1.2.1, vi x1.2.2.1, Value.string x1.2.2.2]) fun x3 =>
    M.bind (ldLs [li, li, li, .str] (adr x2)) fun (x4 : Int × Int × Int × ByteArray) =>
    M.bind (toml_parser_find n a0 a1 (x4.1, x4.2.1, x4.2.2.1, x4.2.2.2)) fun x5 =>
    if !x5.2 then
      M.bind (ldLs [li, li, li, .str] (adr x2)) fun (x6 : Int × Int × Int × ByteArray) =>
      M.bind (toml_parser_create n a0 a1 (x6.1, x6.2.1, x6.2.2.1, x6.2.2.2) 3 10) (sumElim (fun x7 =>
        G a0 x7 a2 a3 a4 (IntKind.i64.wrap (a5 + 1)))
      (fun x7 =>
        M.pure (Sum.inr x7)))
    else
      M.bind (toml_parser_kindOf n a0 x5.1) fun x6 =>
      if !decide (x6 = 3) then
        M.bind (ldL (li) ((adr x2).plus 1)) fun (x7 : Int) =>
        M.bind (toml_parser_fail n a0 x7 8) (sumElim (fun x8 =>
          G a0 x5.1 a2 a3 a4 (IntKind.i64.wrap (a5 + 1)))
        (fun x8 =>
          M.pure (Sum.inr x8)))
      else
        M.bind (nn a0) fun x7 =>
        M.bind (nn a0) fun x8 =>
        M.bind (ldL .mp (x7.plus 9)) fun (x9 : Option Nat) =>
        M.bind (mpGet T_i64 (Ty.one .ptr) none x9 (vi x5.1)) fun (x10 : Bool × Option Addr) =>
        M.bind (nn x10.2) fun x11 =>
        M.bind (ldL (li) (x11.plus 1)) fun (x12 : Int) =>
        M.bind (ldL (li) (x8.plus 10)) fun (x13 : Int) =>
        if !decide (x12 = x13) then
          M.bind (ldL (li) ((adr x2).plus 1)) fun (x14 : Int) =>
          M.bind (toml_parser_fail n a0 x14 8) (sumElim (fun x15 =>
            G a0 x5.1 a2 a3 a4 (IntKind.i64.wrap (a5 + 1)))
          (fun x15 =>
            M.pure (Sum.inr x15)))
        else
          G a0 x5.1 a2 a3 a4 (IntKind.i64.wrap (a5 + 1))
  else
    M.pure (Sum.inl a1)
def toml_parser_pair_L0 : Nat → Option Addr → Int → Addr → Sl → Int → Int → M ((Int) ⊕ Value)
  | 0 => fun _ _ _ _ _ _ => M.fail
  | n + 1 => toml_parser_pair_L0_B (toml_parser_pair_L0 n) n
theorem toml_parser_pair_L0_succ (n : Nat) : toml_parser_pair_L0 (n + 1) = toml_parser_pair_L0_B (toml_parser_pair_L0 n) n := rfl
def toml_parser_pair_J0 (n : Nat) (a0 : Option Addr) (a1 : Int) (a2 : Addr) : M ((Unit) ⊕ Value) :=
  M.bind (ldLs [li, li, li, .str] a2) fun (x0 : Int × Int × Int × ByteArray) =>
  M.bind (toml_parser_enter n a0 a1 (x0.1, x0.2.1, x0.2.2.1, x0.2.2.2) 0) (sumElim (fun x1 =>
    M.bind (newB none T_api_Span [vi 0, vi 0, vi 0, vi 0, vi 0, vi 0, vi 0, Value.bool false, Value.bool false]) fun x2 =>
    M.bind (stN (adr x2) [vi x1.1, vi x1.2.1, vi x1.2.2.1, vi x1.2.2.2.1, vi x1.2.2.2.2.1, vi x1.2.2.2.2.2.1, vi x1.2.2.2.2.2.2.1, Value.bool x1.2.2.2.2.2.2.2.1, Value.bool x1.2.2.2.2.2.2.2.2]) fun x3 =>
    M.bind (toml_parser_expect n a0 (ofBytes [61])) (sumElim (fun x4 =>
      M.bind (nn a0) fun x5 =>
      M.bind (ldLs [li, li, li, li, li, li, li, .bool, .bool] (adr x2)) fun (x6 : Int × Int × Int × Int × Int × Int × Int × Bool × Bool) =>
      M.bind (ldL .mp (x5.plus 9)) fun (x7 : Option Nat) =>
      M.bind (mpGet T_i64 (Ty.one .ptr) none x7 (vi a1)) fun (x8 : Bool × Option Addr) =>
      M.bind (nn x8.2) fun x9 =>
      M.bind (ldL (li) (x9.plus 2)) fun (x10 : Int) =>
      M.bind (toml_parser_value n a0 (x6.1, x6.2.1, x6.2.2.1, x6.2.2.2.1, x6.2.2.2.2.1, x6.2.2.2.2.2.1, x6.2.2.2.2.2.2.1, x6.2.2.2.2.2.2.2.1, x6.2.2.2.2.2.2.2.2) (IntKind.i64.wrap (x10 + 1))) (sumElim (fun x11 =>
        M.bind (toml_parser_item n a0 a1 x11) fun x12 =>
        M.pure (Sum.inl ()))
      (fun x11 =>
        M.pure (Sum.inr x11))))
    (fun x4 =>
      M.pure (Sum.inr x4))))
  (fun x1 =>
    M.pure (Sum.inr x1)))
def toml_parser_pair (n : Nat) (a0 : Option Addr) (a1 : Int) : M ((Unit) ⊕ Value) :=
  M.bind (toml_parser_key n a0) (sumElim (fun x0 =>
    M.bind (idxA x0 (IntKind.i64.wrap ((↑x0.len : Int) - 1)) 4) fun x1 =>
    M.bind (ldLs [li, li, li, .str] x1) fun (x2 : Int × Int × Int × ByteArray) =>
    M.bind (newB none T_tomllex_Token [vi 0, vi 0, vi 0, Value.string (ofBytes [])]) fun x3 =>
    M.bind (stN (adr x3) [vi x2.1, vi x2.2.1, vi x2.2.2.1, Value.string x2.2.2.2]) fun x4 =>
    M.bind (sliceL x0 0 (IntKind.i64.wrap ((↑x0.len : Int) - 1)) T_tomllex_Token 4) fun x5 =>
    M.bind (toml_parser_pair_L0 n a0 a1 (adr x3) x5 (↑x5.len : Int) 0) (sumElim (fun x6 =>
      M.bind (ldLs [li, li, li, .str] (adr x3)) fun (x7 : Int × Int × Int × ByteArray) =>
      M.bind (toml_parser_find n a0 x6 (x7.1, x7.2.1, x7.2.2.1, x7.2.2.2)) fun x8 =>
      if x8.2 then
        M.bind (ldL (li) ((adr x3).plus 1)) fun (x9 : Int) =>
        M.bind (toml_parser_fail n a0 x9 8) (sumElim (fun x10 =>
          toml_parser_pair_J0 n a0 x6 (adr x3))
        (fun x10 =>
          M.pure (Sum.inr x10)))
      else
        toml_parser_pair_J0 n a0 x6 (adr x3))
    (fun x6 =>
      M.pure (Sum.inr x6))))
  (fun x0 =>
    M.pure (Sum.inr x0)))
abbrev q52_E (n : Nat) : PEnt := ⟨52, [tyP, tyI], [], fun x => toml_parser_pair n (x.1) (x.2)⟩
abbrev q52_L0_w : List Nat := [1, 7, 8, 9] ++ List.range' 28 45
abbrev q52_L0_a : List (Nat × Ty) := [(0, tyP), (1, tyI), (5, tyA), (26, tyL), (27, tyI), (28, tyI)]
abbrev q52_L0_p : Path := [0, 1, 0, 1, 1]
abbrev q52_L0_g (n : Nat) (x : TsDen (tys q52_L0_a)) : M ((Int) ⊕ Value) := toml_parser_pair_L0 n (x.1) (x.2.1) (x.2.2.1) (x.2.2.2.1) (x.2.2.2.2.1) (x.2.2.2.2.2)
abbrev q52_L0_l (n : Nat) : LEnt := ⟨q52_L0_p, q52_L0_a, actL1P q52_L0_a [(1, tyI)] q52_L0_w 0 (q52_L0_g n)⟩
abbrev q52_pt (n : Nat) : List PEnt := [q53_E n, q87_E n, q88_E n, q90_E n, q93_E n, q94_E n]
def q52_dr (i : Nat) : Option (List (Nat × List Nat)) := cond (Nat.beq i 8) (some [(0, []), (1, []), (2, []), (3, []), (4, []), (5, []), (6, []), (7, []), (9, []), (14, []), (15, []), (16, []), (8, []), (10, []), (11, []), (12, []), (13, []), (17, []), (18, []), (19, []), (20, [])]) (cond (Nat.beq i 17) (some [(0, []), (2, []), (3, []), (4, []), (6, []), (1, []), (5, []), (7, []), (8, []), (9, []), (10, []), (11, []), (12, []), (13, [])]) (none))
abbrev q52_jt (n : Nat) : List (JEnt ((Unit) ⊕ Value)) := [⟨[0, 1, 1, 1, 1], [.code [1, 1, 1, 1, 1]], [(0, tyP), (1, tyI), (5, tyA)], fun x => toml_parser_pair_J0 n (x.1) (x.2.1) (x.2.2)⟩]
theorem q52_L0_ok (n : Nat) {W : Wr} (hW : subW W 108 q52_L0_w = true) : LEntOK Tryz.prog (bodyOf Tryz.f52) W (q52_L0_l n) :=
  loop1P_t (bodyOf Tryz.f52) q52_L0_p q52_L0_a [(1, tyI)] 0 108 q52_L0_w [] C62 (fun _ => []) q52_pt (fun _ => []) q52_dr q52_L0_g (fun _ => []) (by kernel_rfl) (fun _ => by kernel_rfl) (fun n x => by kernel_rfl) n (fun m hm => ⟨.nil, K62 m, .nil, (.cons (toml_parser_fail_ok m) (.cons (toml_parser_key_ok m) (.cons (toml_parser_expect_ok m) (.cons (toml_parser_create_ok m) (.cons (toml_parser_enter_ok m) (.cons (toml_parser_value_ok m) .nil)))))), by kernel_rfl, .nil, .nil⟩) hW
theorem toml_parser_pair_ok (n : Nat) : PFnOK Tryz.prog (q52_E n) :=
  fnp_t (q52_E n) Tryz.f52 (bodyOf Tryz.f52) [(0, tyP), (1, tyI)] [] (C62 n) [] (q52_pt n) [q52_L0_l n] (q52_jt n) q52_dr (by kernel_rfl) (by kernel_rfl) (by kernel_rfl) (by kernel_rfl) (by kernel_rfl) ⟨.nil, K62 n, .nil, (.cons (toml_parser_fail_ok n) (.cons (toml_parser_key_ok n) (.cons (toml_parser_expect_ok n) (.cons (toml_parser_create_ok n) (.cons (toml_parser_enter_ok n) (.cons (toml_parser_value_ok n) .nil)))))), by kernel_rfl, (.cons (q52_L0_ok n (by kernel_rfl)) .nil), (.cc .nil)⟩ (fun x => by kernel_rfl)
def toml_parser_document_L0_J0_B (G : Option Addr → Int → M ((Unit) ⊕ Value)) (n : Nat) (a0 : Option Addr) (a1 : Int) : M ((Unit) ⊕ Value) :=
  M.bind (toml_parser_token n a0) fun x0 =>
  M.bind (newB none T_tomllex_Token [vi 0, vi 0, vi 0, Value.string (ofBytes [])]) fun x1 =>
  M.bind (stN (adr x1) [vi x0.1, vi x0.2.1, vi x0.2.2.1, Value.string x0.2.2.2]) fun x2 =>
  M.bind (ldL (li) ((adr x1).plus 0)) fun (x3 : Int) =>
  if decide (x3 = 8) then
    M.pure (Sum.inl ())
  else
    if decide (x3 = 1) then
      M.bind (nn a0) fun x4 =>
      M.bind (ldL (li) (x4.plus 2)) fun (x5 : Int) =>
      M.bind (nn a0) fun x6 =>
      M.bind (stN (x6.plus 2) [vi (IntKind.i64.wrap (x5 + 1))]) fun x7 =>
      G a0 a1
    else
      M.bind (ldL (li) ((adr x1).plus 1)) fun (x4 : Int) =>
      M.bind (toml_parser_fail n a0 x4 4) (sumElim (fun x5 =>
        G a0 a1)
      (fun x5 =>
        M.pure (Sum.inr x5)))
def toml_parser_document_L0_B (G : Option Addr → Int → M ((Unit) ⊕ Value)) (n : Nat) (a0 : Option Addr) (a1 : Int) : M ((Unit) ⊕ Value) :=
  M.bind (toml_parser_is n a0 (ofBytes [91])) fun x0 =>
  if x0 then
    M.bind (toml_parser_head n a0) (sumElim (fun x1 =>
      toml_parser_document_L0_J0_B G n a0 x1)
    (fun x1 =>
      M.pure (Sum.inr x1)))
  else
    M.bind (toml_parser_token n a0) fun x1 =>
    if !decide (x1.1 = 1) then
      M.bind (toml_parser_token n a0) fun x2 =>
      if !decide (x2.1 = 8) then
        M.bind (toml_parser_pair n a0 a1) (sumElim (fun x3 =>
          toml_parser_document_L0_J0_B G n a0 a1)
        (fun x3 =>
          M.pure (Sum.inr x3)))
      else
        toml_parser_document_L0_J0_B G n a0 a1
    else
      toml_parser_document_L0_J0_B G n a0 a1
def toml_parser_document_L0 : Nat → Option Addr → Int → M ((Unit) ⊕ Value)
  | 0 => fun _ _ => M.fail
  | n + 1 => toml_parser_document_L0_B (toml_parser_document_L0 n) n
theorem toml_parser_document_L0_succ (n : Nat) : toml_parser_document_L0 (n + 1) = toml_parser_document_L0_B (toml_parser_document_L0 n) n := rfl
def toml_parser_document_L0_J0 (n : Nat) := toml_parser_document_L0_J0_B (toml_parser_document_L0 n) n
def toml_parser_document (n : Nat) (a0 : Option Addr) : M ((Unit) ⊕ Value) :=
  M.bind (toml_parser_node n a0 (10, (ofBytes []), false, sl0, sl0)) fun x0 =>
  M.bind (nn a0) fun x1 =>
  M.bind (ldL .str (x1.plus 0)) fun (x2 : ByteArray) =>
  M.bind (toml_parser_span n a0 (0, -1, 0, 0, (↑(ByteArray.size x2) : Int), 0, 0, false, false)) fun x3 =>
  M.bind (nn a0) fun x4 =>
  M.bind (ldL .mp (x4.plus 9)) fun (x5 : Option Nat) =>
  M.bind (mpNew T_string) fun x6 =>
  M.bind (newB none T_toml_mark [vi 1, vi 0, vi 0, vi 0, Value.map (some x6)]) fun x7 =>
  M.bind (mpSet T_i64 x5 (vi 0) (Value.pointer (some (adr x7)))) fun x8 =>
  M.bind (toml_parser_document_L0 n a0 0) (sumElim (fun x9 =>
    M.pure (Sum.inl ()))
  (fun x9 =>
    M.pure (Sum.inr x9)))
abbrev q17_E (n : Nat) : PEnt := ⟨17, [tyP], [], fun x => toml_parser_document n x⟩
abbrev q17_L0_w : List Nat := [2, 3] ++ List.range' 22 38
abbrev q17_L0_a : List (Nat × Ty) := [(0, tyP), (2, tyI)]
abbrev q17_L0_p : Path := [0, 1, 1, 1, 1]
abbrev q17_L0_g (n : Nat) (x : TsDen (tys q17_L0_a)) : M ((Unit) ⊕ Value) := toml_parser_document_L0 n (x.1) (x.2)
abbrev q17_L0_l (n : Nat) : LEnt := ⟨q17_L0_p, q17_L0_a, actLrP q17_L0_a [] q17_L0_w (q17_L0_g n)⟩
abbrev q17_pt (n : Nat) : List PEnt := [q50_E n, q52_E n, q53_E n]
abbrev q17_L0_jt (n : Nat) : List (JEnt ((Unit) ⊕ Value)) := [⟨[0, 1, 0, 0, 0, 1, 1, 1, 1], [.code [1, 1, 0, 0, 0, 1, 1, 1, 1], .blk 1], [(0, tyP), (2, tyI)], fun x => toml_parser_document_L0_J0 n (x.1) (x.2)⟩]
theorem q17_L0_ok (n : Nat) {W : Wr} (hW : subW W 60 q17_L0_w = true) : LEntOK Tryz.prog (bodyOf Tryz.f17) W (q17_L0_l n) :=
  loopRP_t (bodyOf Tryz.f17) q17_L0_p q17_L0_a [] 60 q17_L0_w [] C62 (fun _ => []) q17_pt (fun _ => []) (fun _ => none) q17_L0_g q17_L0_jt (by kernel_rfl) (fun _ => by kernel_rfl) (fun n x => by kernel_rfl) n (fun m hm => ⟨.nil, K62 m, .nil, (.cons (toml_parser_head_ok m) (.cons (toml_parser_pair_ok m) (.cons (toml_parser_fail_ok m) .nil))), by kernel_rfl, .nil, (.cc .nil)⟩) hW
theorem toml_parser_document_ok (n : Nat) : PFnOK Tryz.prog (q17_E n) :=
  fnp_t (q17_E n) Tryz.f17 (bodyOf Tryz.f17) [(0, tyP)] [] (C62 n) [] (q17_pt n) [q17_L0_l n] [] (fun _ => none) (by kernel_rfl) (by kernel_rfl) (by kernel_rfl) (by kernel_rfl) (by kernel_rfl) ⟨.nil, K62 n, .nil, (.cons (toml_parser_head_ok n) (.cons (toml_parser_pair_ok n) (.cons (toml_parser_fail_ok n) .nil))), by kernel_rfl, (.cons (q17_L0_ok n (by kernel_rfl)) .nil), .nil⟩ (fun x => by kernel_rfl)
end Go.Sh
