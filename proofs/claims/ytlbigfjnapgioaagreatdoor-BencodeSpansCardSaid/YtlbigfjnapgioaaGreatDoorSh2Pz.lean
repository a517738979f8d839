/-
The shallow functions of this seat, part 2, and that each is sound; written by program. No theorem about what they compute stands here.
-/
import Derived.Test.YtlbigfjnapgioaaGreatDoorSh1
set_option maxRecDepth 100000
set_option maxHeartbeats 0
set_option linter.all false
namespace Go.Sh
open Go Go.Ago Go.Proofs
def graph_depth_L4_B (G : Addr → Sl → Sl → Bool → Sl → Sl → Int → Int → Int → Sl → Int → Int → Sl → Int → Int → Sl → Int → Int → M (Bool)) (n : Nat) (a0 : Addr) (a1 : Sl) (a2 : Sl) (a3 : Bool) (a4 : Sl) (a5 : Sl) (a6 : Int) (a7 : Int) (a8 : Int) (a9 : Sl) (a10 : Int) (a11 : Int) (a12 : Sl) (a13 : Int) (a14 : Int) (a15 : Sl) (a16 : Int) (a17 : Int) : M (Bool) :=
  if decide (a17 < a16) then
    M.bind (idxA a15 a17 1) fun x0 =>
    M.bind (ldL (li) x0) fun (x1 : Int) =>
    M.bind (idxA a1 x1 1) fun x2 =>
    M.bind (ldL (li) x2) fun (x3 : Int) =>
    if decide (x3 = a6) then
      G a0 a1 a2 false a4 a5 a6 a7 a8 a9 a10 a11 a12 a13 a14 a15 a16 (IntKind.i64.wrap (a17 + 1))
    else
      M.bind (idxA a4 a6 1) fun x4 =>
      M.bind (idxA a1 x1 1) fun x5 =>
      M.bind (ldL (li) x4) fun (x6 : Int) =>
      M.bind (ldL (li) x5) fun (x7 : Int) =>
      M.bind (idxA a4 x7 1) fun x8 =>
      M.bind (ldL (li) x8) fun (x9 : Int) =>
      M.bind (idxA a4 a6 1) fun x10 =>
      M.bind (stN x10 [vi (if x6 < x9 then x9 else x6)]) fun x11 =>
      G a0 a1 a2 a3 a4 a5 a6 a7 a8 a9 a10 a11 a12 a13 a14 a15 a16 (IntKind.i64.wrap (a17 + 1))
  else
    M.pure a3
def graph_depth_L4 : Nat → Addr → Sl → Sl → Bool → Sl → Sl → Int → Int → Int → Sl → Int → Int → Sl → Int → Int → Sl → Int → Int → M (Bool)
  | 0 => fun _ _ _ _ _ _ _ _ _ _ _ _ _ _ _ _ _ _ => M.fail
  | n + 1 => graph_depth_L4_B (graph_depth_L4 n) n
theorem graph_depth_L4_succ (n : Nat) : graph_depth_L4 (n + 1) = graph_depth_L4_B (graph_depth_L4 n) n := rfl
def graph_depth_L3_B (G : Addr → Sl → Sl → Bool → Sl → Sl → Int → Int → Int → Sl → Int → Int → Sl → Int → Int → M (Bool)) (n : Nat) (a0 : Addr) (a1 : Sl) (a2 : Sl) (a3 : Bool) (a4 : Sl) (a5 : Sl) (a6 : Int) (a7 : Int) (a8 : Int) (a9 : Sl) (a10 : Int) (a11 : Int) (a12 : Sl) (a13 : Int) (a14 : Int) : M (Bool) :=
  if decide (a14 < a13) then
    M.bind (idxA a12 a14 1) fun x0 =>
    M.bind (ldL .sl x0) fun (x1 : Sl) =>
    M.bind (graph_depth_L4 n a0 a1 a2 a3 a4 a5 a6 a7 a8 a9 a10 a11 a12 a13 a14 x1 (↑x1.len : Int) 0) fun x2 =>
    G a0 a1 a2 x2 a4 a5 a6 a7 a8 a9 a10 a11 a12 a13 (IntKind.i64.wrap (a14 + 1))
  else
    M.pure a3
def graph_depth_L3 : Nat → Addr → Sl → Sl → Bool → Sl → Sl → Int → Int → Int → Sl → Int → Int → Sl → Int → Int → M (Bool)
  | 0 => fun _ _ _ _ _ _ _ _ _ _ _ _ _ _ _ => M.fail
  | n + 1 => graph_depth_L3_B (graph_depth_L3 n) n
theorem graph_depth_L3_succ (n : Nat) : graph_depth_L3 (n + 1) = graph_depth_L3_B (graph_depth_L3 n) n := rfl
def graph_depth_L2_B (G : Addr → Sl → Sl → Bool → Sl → Sl → Int → Int → Int → Sl → Int → Int → M (Bool)) (n : Nat) (a0 : Addr) (a1 : Sl) (a2 : Sl) (a3 : Bool) (a4 : Sl) (a5 : Sl) (a6 : Int) (a7 : Int) (a8 : Int) (a9 : Sl) (a10 : Int) (a11 : Int) : M (Bool) :=
  if decide (a11 < a10) then
    M.bind (idxA a9 a11 1) fun x0 =>
    M.bind (ldL (li) x0) fun (x1 : Int) =>
    M.bind (reserve 15) fun x2 =>
    M.bind (ldL .sl (a0.plus 0)) fun (x3 : Sl) =>
    M.bind (idxA x3 x1 5) fun x4 =>
    M.bind (ldL .sl (x4.plus 3)) fun (x5 : Sl) =>
    M.bind (ldL .sl (a0.plus 0)) fun (x6 : Sl) =>
    M.bind (idxA x6 x1 5) fun x7 =>
    M.bind (ldL .sl (x7.plus 4)) fun (x8 : Sl) =>
    M.bind (newB (some (x2 + 12)) T_sl_i64 [vsl x5, vsl x8]) fun x9 =>
    M.bind (graph_depth_L3 n a0 a1 a2 a3 a4 a5 a6 a7 a8 a9 a10 a11 { a := some (adr x9), len := 2, cap := 3 } (↑2 : Int) 0) fun x10 =>
    G a0 a1 a2 x10 a4 a5 a6 a7 a8 a9 a10 (IntKind.i64.wrap (a11 + 1))
  else
    M.pure a3
def graph_depth_L2 : Nat → Addr → Sl → Sl → Bool → Sl → Sl → Int → Int → Int → Sl → Int → Int → M (Bool)
  | 0 => fun _ _ _ _ _ _ _ _ _ _ _ _ => M.fail
  | n + 1 => graph_depth_L2_B (graph_depth_L2 n) n
theorem graph_depth_L2_succ (n : Nat) : graph_depth_L2 (n + 1) = graph_depth_L2_B (graph_depth_L2 n) n := rfl
def graph_depth_L1_B (G : Addr → Sl → Sl → Bool → Sl → Sl → Int → Int → M (Bool)) (n : Nat) (a0 : Addr) (a1 : Sl) (a2 : Sl) (a3 : Bool) (a4 : Sl) (a5 : Sl) (a6 : Int) (a7 : Int) : M (Bool) :=
  if decide (a7 < a6) then
    M.bind (idxA a5 a7 1) fun x0 =>
    M.bind (ldL .sl x0) fun (x1 : Sl) =>
    M.bind (graph_depth_L2 n a0 a1 a2 a3 a4 a5 a7 a6 a7 x1 (↑x1.len : Int) 0) fun x2 =>
    M.bind (idxA a4 a7 1) fun x3 =>
    M.bind (idxA a2 a7 1) fun x4 =>
    M.bind (ldL (li) x3) fun (x5 : Int) =>
    M.bind (ldL (li) x4) fun (x6 : Int) =>
    M.bind (idxA a4 a7 1) fun x7 =>
    M.bind (stN x7 [vi (IntKind.i64.wrap (x5 + x6))]) fun x8 =>
    G a0 a1 a2 x2 a4 a5 a6 (IntKind.i64.wrap (a7 + 1))
  else
    M.pure a3
def graph_depth_L1 : Nat → Addr → Sl → Sl → Bool → Sl → Sl → Int → Int → M (Bool)
  | 0 => fun _ _ _ _ _ _ _ _ => M.fail
  | n + 1 => graph_depth_L1_B (graph_depth_L1 n) n
theorem graph_depth_L1_succ (n : Nat) : graph_depth_L1 (n + 1) = graph_depth_L1_B (graph_depth_L1 n) n := rfl
def graph_depth_L0_B (G : Addr → Sl → Sl → Bool → Sl → Sl → Sl → Int → Int → M (Unit)) (n : Nat) (a0 : Addr) (a1 : Sl) (a2 : Sl) (a3 : Bool) (a4 : Sl) (a5 : Sl) (a6 : Sl) (a7 : Int) (a8 : Int) : M (Unit) :=
  if decide (a8 < a7) then
    M.bind (idxA a6 a8 1) fun x0 =>
    M.bind (ldL (li) x0) fun (x1 : Int) =>
    M.bind (idxA a5 x1 1) fun x2 =>
    M.bind (ldL .sl x2) fun (x3 : Sl) =>
    M.bind (app false x3 1 T_i64 1 [vi a8]) fun x4 =>
    M.bind (idxA a5 x1 1) fun x5 =>
    M.bind (stN x5 [vsl x4]) fun x6 =>
    G a0 a1 a2 a3 a4 a5 a6 a7 (IntKind.i64.wrap (a8 + 1))
  else
    M.pure ()
def graph_depth_L0 : Nat → Addr → Sl → Sl → Bool → Sl → Sl → Sl → Int → Int → M (Unit)
  | 0 => fun _ _ _ _ _ _ _ _ _ => M.fail
  | n + 1 => graph_depth_L0_B (graph_depth_L0 n) n
theorem graph_depth_L0_succ (n : Nat) : graph_depth_L0 (n + 1) = graph_depth_L0_B (graph_depth_L0 n) n := rfl
def graph_depth (n : Nat) (a0 : Sl × Int) : M (Int × Bool) :=
  M.bind (newB none T_api_Graph [vsl a0.1, vi a0.2]) fun x0 =>
  M.bind (ldLs [.sl, li] (adr x0)) fun (x1 : Sl × Int) =>
  M.bind (graph_components n (x1.1, x1.2)) fun x2 =>
  M.bind (mkS none T_i64 [vi 0] (↑x2.2.len : Int) (↑x2.2.len : Int)) fun x3 =>
  M.bind (mkS none T_sl_i64 [vsl0] (↑x2.2.len : Int) (↑x2.2.len : Int)) fun x4 =>
  M.bind (graph_depth_L0 n (adr x0) x2.1 x2.2 true x3 x4 x2.1 (↑x2.1.len : Int) 0) fun x5 =>
  M.bind (graph_depth_L1 n (adr x0) x2.1 x2.2 true x3 x4 (↑x2.2.len : Int) 0) fun x6 =>
  M.bind (ldL (li) ((adr x0).plus 1)) fun (x7 : Int) =>
  M.bind (idxA x2.1 x7 1) fun x8 =>
  M.bind (ldL (li) x8) fun (x9 : Int) =>
  M.bind (idxA x3 x9 1) fun x10 =>
  M.bind (ldL (li) x10) fun (x11 : Int) =>
  M.pure (IntKind.i64.wrap (x11 - 1), x6)
def graph_depth_dt (n : Nat) : List DEnt := []
def graph_depth_ct (n : Nat) : List Ent := [⟨80, [.agg [.sl, .int .i64]], [.one (.sl), .one (.sl)], fun x => graph_components n (x)⟩]
def graph_depth_dr (i : Nat) : Option (List (Nat × List Nat)) := cond (Nat.beq i 16) (some [(0, []), (2, []), (6, []), (8, []), (14, []), (1, []), (3, []), (4, []), (5, []), (7, []), (9, []), (10, []), (11, []), (12, []), (13, [])]) (cond (Nat.beq i 24) (some [(0, []), (1, []), (2, []), (3, []), (4, []), (6, []), (7, []), (8, []), (9, []), (5, []), (10, []), (11, []), (12, []), (13, []), (14, []), (15, [])]) (cond (Nat.beq i 28) (some [(0, []), (1, []), (2, []), (4, []), (5, []), (6, []), (3, []), (7, []), (8, []), (9, []), (10, [])]) (none)))
def graph_depth_L4_lt (n : Nat) : List LEnt := []
def graph_depth_L4_jt0 (n : Nat) : List (JEnt (Bool)) := []
def graph_depth_L3_lt (n : Nat) : List LEnt := [⟨[0, 1, 1, 0, 0, 1, 1, 0, 0, 1, 1, 0, 0, 1, 1, 0, 0, 1, 0, 1, 0, 0, 1, 1, 0, 0, 1, 0, 1, 1, 1, 1, 1, 1], [(1, .one (.adr)), (4, .one (.sl)), (5, .one (.sl)), (6, .one (.bool)), (7, .one (.sl)), (8, .one (.sl)), (11, .one (.int .i64)), (48, .one (.int .i64)), (49, .one (.int .i64)), (55, .one (.sl)), (56, .one (.int .i64)), (57, .one (.int .i64)), (73, .one (.sl)), (74, .one (.int .i64)), (75, .one (.int .i64)), (79, .one (.sl)), (80, .one (.int .i64)), (81, .one (.int .i64))], actL1 [(1, .one (.adr)), (4, .one (.sl)), (5, .one (.sl)), (6, .one (.bool)), (7, .one (.sl)), (8, .one (.sl)), (11, .one (.int .i64)), (48, .one (.int .i64)), (49, .one (.int .i64)), (55, .one (.sl)), (56, .one (.int .i64)), (57, .one (.int .i64)), (73, .one (.sl)), (74, .one (.int .i64)), (75, .one (.int .i64)), (79, .one (.sl)), (80, .one (.int .i64)), (81, .one (.int .i64))] [(6, .one (.bool))] [6, 17, 81, 82, 83, 84, 85, 86, 87, 88, 89, 90, 91, 92, 93, 94, 95, 96, 97, 98, 99, 100, 101, 102, 103, 104, 105, 106] 8 (fun x => graph_depth_L4 n (x.1) (x.2.1) (x.2.2.1) (x.2.2.2.1) (x.2.2.2.2.1) (x.2.2.2.2.2.1) (x.2.2.2.2.2.2.1) (x.2.2.2.2.2.2.2.1) (x.2.2.2.2.2.2.2.2.1) (x.2.2.2.2.2.2.2.2.2.1) (x.2.2.2.2.2.2.2.2.2.2.1) (x.2.2.2.2.2.2.2.2.2.2.2.1) (x.2.2.2.2.2.2.2.2.2.2.2.2.1) (x.2.2.2.2.2.2.2.2.2.2.2.2.2.1) (x.2.2.2.2.2.2.2.2.2.2.2.2.2.2.1) (x.2.2.2.2.2.2.2.2.2.2.2.2.2.2.2.1) (x.2.2.2.2.2.2.2.2.2.2.2.2.2.2.2.2.1) (x.2.2.2.2.2.2.2.2.2.2.2.2.2.2.2.2.2))⟩]
def graph_depth_L3_jt0 (n : Nat) : List (JEnt (Bool)) := []
def graph_depth_L2_lt (n : Nat) : List LEnt := [⟨[0, 1, 1, 0, 0, 1, 1, 0, 0, 1, 0, 1, 0, 0, 1, 1, 0, 0, 1, 0, 1, 1, 1, 1, 1, 1], [(1, .one (.adr)), (4, .one (.sl)), (5, .one (.sl)), (6, .one (.bool)), (7, .one (.sl)), (8, .one (.sl)), (11, .one (.int .i64)), (48, .one (.int .i64)), (49, .one (.int .i64)), (55, .one (.sl)), (56, .one (.int .i64)), (57, .one (.int .i64)), (73, .one (.sl)), (74, .one (.int .i64)), (75, .one (.int .i64))], actL1 [(1, .one (.adr)), (4, .one (.sl)), (5, .one (.sl)), (6, .one (.bool)), (7, .one (.sl)), (8, .one (.sl)), (11, .one (.int .i64)), (48, .one (.int .i64)), (49, .one (.int .i64)), (55, .one (.sl)), (56, .one (.int .i64)), (57, .one (.int .i64)), (73, .one (.sl)), (74, .one (.int .i64)), (75, .one (.int .i64))] [(6, .one (.bool))] [6, 15, 17, 75, 76, 77, 78, 79, 80, 81, 82, 83, 84, 85, 86, 87, 88, 89, 90, 91, 92, 93, 94, 95, 96, 97, 98, 99, 100, 101, 102, 103, 104, 105, 106, 107] 6 (fun x => graph_depth_L3 n (x.1) (x.2.1) (x.2.2.1) (x.2.2.2.1) (x.2.2.2.2.1) (x.2.2.2.2.2.1) (x.2.2.2.2.2.2.1) (x.2.2.2.2.2.2.2.1) (x.2.2.2.2.2.2.2.2.1) (x.2.2.2.2.2.2.2.2.2.1) (x.2.2.2.2.2.2.2.2.2.2.1) (x.2.2.2.2.2.2.2.2.2.2.2.1) (x.2.2.2.2.2.2.2.2.2.2.2.2.1) (x.2.2.2.2.2.2.2.2.2.2.2.2.2.1) (x.2.2.2.2.2.2.2.2.2.2.2.2.2.2))⟩]
def graph_depth_L2_jt0 (n : Nat) : List (JEnt (Bool)) := []
def graph_depth_L1_lt (n : Nat) : List LEnt := [⟨[0, 1, 0, 1, 0, 0, 1, 1, 0, 0, 1, 0, 1, 1, 1, 1, 1, 1], [(1, .one (.adr)), (4, .one (.sl)), (5, .one (.sl)), (6, .one (.bool)), (7, .one (.sl)), (8, .one (.sl)), (11, .one (.int .i64)), (48, .one (.int .i64)), (49, .one (.int .i64)), (55, .one (.sl)), (56, .one (.int .i64)), (57, .one (.int .i64))], actL1 [(1, .one (.adr)), (4, .one (.sl)), (5, .one (.sl)), (6, .one (.bool)), (7, .one (.sl)), (8, .one (.sl)), (11, .one (.int .i64)), (48, .one (.int .i64)), (49, .one (.int .i64)), (55, .one (.sl)), (56, .one (.int .i64)), (57, .one (.int .i64))] [(6, .one (.bool))] [6, 13, 15, 17, 57, 58, 59, 60, 61, 62, 63, 64, 65, 66, 67, 68, 69, 70, 71, 72, 73, 74, 75, 76, 77, 78, 79, 80, 81, 82, 83, 84, 85, 86, 87, 88, 89, 90, 91, 92, 93, 94, 95, 96, 97, 98, 99, 100, 101, 102, 103, 104, 105, 106, 107, 108] 4 (fun x => graph_depth_L2 n (x.1) (x.2.1) (x.2.2.1) (x.2.2.2.1) (x.2.2.2.2.1) (x.2.2.2.2.2.1) (x.2.2.2.2.2.2.1) (x.2.2.2.2.2.2.2.1) (x.2.2.2.2.2.2.2.2.1) (x.2.2.2.2.2.2.2.2.2.1) (x.2.2.2.2.2.2.2.2.2.2.1) (x.2.2.2.2.2.2.2.2.2.2.2))⟩]
def graph_depth_L1_jt0 (n : Nat) : List (JEnt (Bool)) := []
def graph_depth_L0_lt (n : Nat) : List LEnt := []
def graph_depth_L0_jt0 (n : Nat) : List (JEnt (Unit)) := []
def graph_depth_lt (n : Nat) : List LEnt := [⟨[0, 1, 0, 1, 1, 1, 1, 1], [(1, .one (.adr)), (4, .one (.sl)), (5, .one (.sl)), (6, .one (.bool)), (7, .one (.sl)), (8, .one (.sl)), (29, .one (.sl)), (30, .one (.int .i64)), (31, .one (.int .i64))], actL1 [(1, .one (.adr)), (4, .one (.sl)), (5, .one (.sl)), (6, .one (.bool)), (7, .one (.sl)), (8, .one (.sl)), (29, .one (.sl)), (30, .one (.int .i64)), (31, .one (.int .i64))] [] [9, 10, 31, 32, 33, 34, 35, 36, 37, 38, 39, 40, 41, 42, 43, 44, 45, 46] 0 (fun x => graph_depth_L0 n (x.1) (x.2.1) (x.2.2.1) (x.2.2.2.1) (x.2.2.2.2.1) (x.2.2.2.2.2.1) (x.2.2.2.2.2.2.1) (x.2.2.2.2.2.2.2.1) (x.2.2.2.2.2.2.2.2))⟩,
  ⟨[0, 1, 0, 1, 1, 1, 1, 1, 1], [(1, .one (.adr)), (4, .one (.sl)), (5, .one (.sl)), (6, .one (.bool)), (7, .one (.sl)), (8, .one (.sl)), (48, .one (.int .i64)), (49, .one (.int .i64))], actL1 [(1, .one (.adr)), (4, .one (.sl)), (5, .one (.sl)), (6, .one (.bool)), (7, .one (.sl)), (8, .one (.sl)), (48, .one (.int .i64)), (49, .one (.int .i64))] [(6, .one (.bool))] [6, 11, 13, 15, 17, 49, 50, 51, 52, 53, 54, 55, 56, 57, 58, 59, 60, 61, 62, 63, 64, 65, 66, 67, 68, 69, 70, 71, 72, 73, 74, 75, 76, 77, 78, 79, 80, 81, 82, 83, 84, 85, 86, 87, 88, 89, 90, 91, 92, 93, 94, 95, 96, 97, 98, 99, 100, 101, 102, 103, 104, 105, 106, 107, 108, 109, 110, 111, 112, 113, 114, 115, 116, 117, 118, 119] 2 (fun x => graph_depth_L1 n (x.1) (x.2.1) (x.2.2.1) (x.2.2.2.1) (x.2.2.2.2.1) (x.2.2.2.2.2.1) (x.2.2.2.2.2.2.1) (x.2.2.2.2.2.2.2))⟩]
def graph_depth_jt0 (n : Nat) : List (JEnt (Int × Bool)) := []
theorem graph_depth_L4_ok (n : Nat) {W : Wr} (hW : subW W 130 [6, 17, 81, 82, 83, 84, 85, 86, 87, 88, 89, 90, 91, 92, 93, 94, 95, 96, 97, 98, 99, 100, 101, 102, 103, 104, 105, 106] = true) : LEntOK Tryz.prog (bodyOf Tryz.f48) W ⟨[0, 1, 1, 0, 0, 1, 1, 0, 0, 1, 1, 0, 0, 1, 1, 0, 0, 1, 0, 1, 0, 0, 1, 1, 0, 0, 1, 0, 1, 1, 1, 1, 1, 1], [(1, .one (.adr)), (4, .one (.sl)), (5, .one (.sl)), (6, .one (.bool)), (7, .one (.sl)), (8, .one (.sl)), (11, .one (.int .i64)), (48, .one (.int .i64)), (49, .one (.int .i64)), (55, .one (.sl)), (56, .one (.int .i64)), (57, .one (.int .i64)), (73, .one (.sl)), (74, .one (.int .i64)), (75, .one (.int .i64)), (79, .one (.sl)), (80, .one (.int .i64)), (81, .one (.int .i64))], actL1 [(1, .one (.adr)), (4, .one (.sl)), (5, .one (.sl)), (6, .one (.bool)), (7, .one (.sl)), (8, .one (.sl)), (11, .one (.int .i64)), (48, .one (.int .i64)), (49, .one (.int .i64)), (55, .one (.sl)), (56, .one (.int .i64)), (57, .one (.int .i64)), (73, .one (.sl)), (74, .one (.int .i64)), (75, .one (.int .i64)), (79, .one (.sl)), (80, .one (.int .i64)), (81, .one (.int .i64))] [(6, .one (.bool))] [6, 17, 81, 82, 83, 84, 85, 86, 87, 88, 89, 90, 91, 92, 93, 94, 95, 96, 97, 98, 99, 100, 101, 102, 103, 104, 105, 106] 8 (fun x => graph_depth_L4 n (x.1) (x.2.1) (x.2.2.1) (x.2.2.2.1) (x.2.2.2.2.1) (x.2.2.2.2.2.1) (x.2.2.2.2.2.2.1) (x.2.2.2.2.2.2.2.1) (x.2.2.2.2.2.2.2.2.1) (x.2.2.2.2.2.2.2.2.2.1) (x.2.2.2.2.2.2.2.2.2.2.1) (x.2.2.2.2.2.2.2.2.2.2.2.1) (x.2.2.2.2.2.2.2.2.2.2.2.2.1) (x.2.2.2.2.2.2.2.2.2.2.2.2.2.1) (x.2.2.2.2.2.2.2.2.2.2.2.2.2.2.1) (x.2.2.2.2.2.2.2.2.2.2.2.2.2.2.2.1) (x.2.2.2.2.2.2.2.2.2.2.2.2.2.2.2.2.1) (x.2.2.2.2.2.2.2.2.2.2.2.2.2.2.2.2.2))⟩ :=
  loop1_ok (P := Tryz.prog) (body := (bodyOf Tryz.f48)) (c := child (codeAt (bodyOf Tryz.f48) [0, 1, 1, 0, 0, 1, 1, 0, 0, 1, 1, 0, 0, 1, 1, 0, 0, 1, 0, 1, 0, 0, 1, 1, 0, 0, 1, 0, 1, 1, 1, 1, 1, 1]) 0) (p := [0, 1, 1, 0, 0, 1, 1, 0, 0, 1, 1, 0, 0, 1, 1, 0, 0, 1, 0, 1, 0, 0, 1, 1, 0, 0, 1, 0, 1, 1, 1, 1, 1, 1]) (ls := [(1, .one (.adr)), (4, .one (.sl)), (5, .one (.sl)), (6, .one (.bool)), (7, .one (.sl)), (8, .one (.sl)), (11, .one (.int .i64)), (48, .one (.int .i64)), (49, .one (.int .i64)), (55, .one (.sl)), (56, .one (.int .i64)), (57, .one (.int .i64)), (73, .one (.sl)), (74, .one (.int .i64)), (75, .one (.int .i64)), (79, .one (.sl)), (80, .one (.int .i64)), (81, .one (.int .i64))]) (ms := [(6, .one (.bool))]) (id := 8) (nt := 130) (ws := [6, 17, 81, 82, 83, 84, 85, 86, 87, 88, 89, 90, 91, 92, 93, 94, 95, 96, 97, 98, 99, 100, 101, 102, 103, 104, 105, 106]) (N := 400) (G := (fun n x => graph_depth_L4 n (x.1) (x.2.1) (x.2.2.1) (x.2.2.2.1) (x.2.2.2.2.1) (x.2.2.2.2.2.1) (x.2.2.2.2.2.2.1) (x.2.2.2.2.2.2.2.1) (x.2.2.2.2.2.2.2.2.1) (x.2.2.2.2.2.2.2.2.2.1) (x.2.2.2.2.2.2.2.2.2.2.1) (x.2.2.2.2.2.2.2.2.2.2.2.1) (x.2.2.2.2.2.2.2.2.2.2.2.2.1) (x.2.2.2.2.2.2.2.2.2.2.2.2.2.1) (x.2.2.2.2.2.2.2.2.2.2.2.2.2.2.1) (x.2.2.2.2.2.2.2.2.2.2.2.2.2.2.2.1) (x.2.2.2.2.2.2.2.2.2.2.2.2.2.2.2.2.1) (x.2.2.2.2.2.2.2.2.2.2.2.2.2.2.2.2.2))) (T := fun n => ⟨lookC (graph_depth_ct n) (graph_depth_dt n), lookL (graph_depth_L4_lt n), lookJ (graph_depth_L4_jt0 n), graph_depth_dr⟩)
    (by kernel_rfl) (fun _ => by kernel_rfl) (fun n x => by kernel_rfl) n (fun m hm => (tabs_ok (P := Tryz.prog) (body := (bodyOf Tryz.f48)) (W := (130, some [6, 17, 81, 82, 83, 84, 85, 86, 87, 88, 89, 90, 91, 92, 93, 94, 95, 96, 97, 98, 99, 100, 101, 102, 103, 104, 105, 106])) (cl := graph_depth_ct m) (dl := graph_depth_dt m) (ll := graph_depth_L4_lt m) (dr := graph_depth_dr) (fin := (finL1 [(1, .one (.adr)), (4, .one (.sl)), (5, .one (.sl)), (6, .one (.bool)), (7, .one (.sl)), (8, .one (.sl)), (11, .one (.int .i64)), (48, .one (.int .i64)), (49, .one (.int .i64)), (55, .one (.sl)), (56, .one (.int .i64)), (57, .one (.int .i64)), (73, .one (.sl)), (74, .one (.int .i64)), (75, .one (.int .i64)), (79, .one (.sl)), (80, .one (.int .i64)), (81, .one (.int .i64))] [(6, .one (.bool))] 8 (fun x => graph_depth_L4 m (x.1) (x.2.1) (x.2.2.1) (x.2.2.2.1) (x.2.2.2.2.1) (x.2.2.2.2.2.1) (x.2.2.2.2.2.2.1) (x.2.2.2.2.2.2.2.1) (x.2.2.2.2.2.2.2.2.1) (x.2.2.2.2.2.2.2.2.2.1) (x.2.2.2.2.2.2.2.2.2.2.1) (x.2.2.2.2.2.2.2.2.2.2.2.1) (x.2.2.2.2.2.2.2.2.2.2.2.2.1) (x.2.2.2.2.2.2.2.2.2.2.2.2.2.1) (x.2.2.2.2.2.2.2.2.2.2.2.2.2.2.1) (x.2.2.2.2.2.2.2.2.2.2.2.2.2.2.2.1) (x.2.2.2.2.2.2.2.2.2.2.2.2.2.2.2.2.1) (x.2.2.2.2.2.2.2.2.2.2.2.2.2.2.2.2.2)))) (N := 400) (js := graph_depth_L4_jt0 m) AllMo.nil (AllOK.cons (graph_components_ok m) AllOK.nil) AllD.nil AllL.nil AllJ.nil)) hW
theorem graph_depth_L3_ok (n : Nat) {W : Wr} (hW : subW W 130 [6, 15, 17, 75, 76, 77, 78, 79, 80, 81, 82, 83, 84, 85, 86, 87, 88, 89, 90, 91, 92, 93, 94, 95, 96, 97, 98, 99, 100, 101, 102, 103, 104, 105, 106, 107] = true) : LEntOK Tryz.prog (bodyOf Tryz.f48) W ⟨[0, 1, 1, 0, 0, 1, 1, 0, 0, 1, 0, 1, 0, 0, 1, 1, 0, 0, 1, 0, 1, 1, 1, 1, 1, 1], [(1, .one (.adr)), (4, .one (.sl)), (5, .one (.sl)), (6, .one (.bool)), (7, .one (.sl)), (8, .one (.sl)), (11, .one (.int .i64)), (48, .one (.int .i64)), (49, .one (.int .i64)), (55, .one (.sl)), (56, .one (.int .i64)), (57, .one (.int .i64)), (73, .one (.sl)), (74, .one (.int .i64)), (75, .one (.int .i64))], actL1 [(1, .one (.adr)), (4, .one (.sl)), (5, .one (.sl)), (6, .one (.bool)), (7, .one (.sl)), (8, .one (.sl)), (11, .one (.int .i64)), (48, .one (.int .i64)), (49, .one (.int .i64)), (55, .one (.sl)), (56, .one (.int .i64)), (57, .one (.int .i64)), (73, .one (.sl)), (74, .one (.int .i64)), (75, .one (.int .i64))] [(6, .one (.bool))] [6, 15, 17, 75, 76, 77, 78, 79, 80, 81, 82, 83, 84, 85, 86, 87, 88, 89, 90, 91, 92, 93, 94, 95, 96, 97, 98, 99, 100, 101, 102, 103, 104, 105, 106, 107] 6 (fun x => graph_depth_L3 n (x.1) (x.2.1) (x.2.2.1) (x.2.2.2.1) (x.2.2.2.2.1) (x.2.2.2.2.2.1) (x.2.2.2.2.2.2.1) (x.2.2.2.2.2.2.2.1) (x.2.2.2.2.2.2.2.2.1) (x.2.2.2.2.2.2.2.2.2.1) (x.2.2.2.2.2.2.2.2.2.2.1) (x.2.2.2.2.2.2.2.2.2.2.2.1) (x.2.2.2.2.2.2.2.2.2.2.2.2.1) (x.2.2.2.2.2.2.2.2.2.2.2.2.2.1) (x.2.2.2.2.2.2.2.2.2.2.2.2.2.2))⟩ :=
  loop1_ok (P := Tryz.prog) (body := (bodyOf Tryz.f48)) (c := child (codeAt (bodyOf Tryz.f48) [0, 1, 1, 0, 0, 1, 1, 0, 0, 1, 0, 1, 0, 0, 1, 1, 0, 0, 1, 0, 1, 1, 1, 1, 1, 1]) 0) (p := [0, 1, 1, 0, 0, 1, 1, 0, 0, 1, 0, 1, 0, 0, 1, 1, 0, 0, 1, 0, 1, 1, 1, 1, 1, 1]) (ls := [(1, .one (.adr)), (4, .one (.sl)), (5, .one (.sl)), (6, .one (.bool)), (7, .one (.sl)), (8, .one (.sl)), (11, .one (.int .i64)), (48, .one (.int .i64)), (49, .one (.int .i64)), (55, .one (.sl)), (56, .one (.int .i64)), (57, .one (.int .i64)), (73, .one (.sl)), (74, .one (.int .i64)), (75, .one (.int .i64))]) (ms := [(6, .one (.bool))]) (id := 6) (nt := 130) (ws := [6, 15, 17, 75, 76, 77, 78, 79, 80, 81, 82, 83, 84, 85, 86, 87, 88, 89, 90, 91, 92, 93, 94, 95, 96, 97, 98, 99, 100, 101, 102, 103, 104, 105, 106, 107]) (N := 400) (G := (fun n x => graph_depth_L3 n (x.1) (x.2.1) (x.2.2.1) (x.2.2.2.1) (x.2.2.2.2.1) (x.2.2.2.2.2.1) (x.2.2.2.2.2.2.1) (x.2.2.2.2.2.2.2.1) (x.2.2.2.2.2.2.2.2.1) (x.2.2.2.2.2.2.2.2.2.1) (x.2.2.2.2.2.2.2.2.2.2.1) (x.2.2.2.2.2.2.2.2.2.2.2.1) (x.2.2.2.2.2.2.2.2.2.2.2.2.1) (x.2.2.2.2.2.2.2.2.2.2.2.2.2.1) (x.2.2.2.2.2.2.2.2.2.2.2.2.2.2))) (T := fun n => ⟨lookC (graph_depth_ct n) (graph_depth_dt n), lookL (graph_depth_L3_lt n), lookJ (graph_depth_L3_jt0 n), graph_depth_dr⟩)
    (by kernel_rfl) (fun _ => by kernel_rfl) (fun n x => by kernel_rfl) n (fun m hm => (tabs_ok (P := Tryz.prog) (body := (bodyOf Tryz.f48)) (W := (130, some [6, 15, 17, 75, 76, 77, 78, 79, 80, 81, 82, 83, 84, 85, 86, 87, 88, 89, 90, 91, 92, 93, 94, 95, 96, 97, 98, 99, 100, 101, 102, 103, 104, 105, 106, 107])) (cl := graph_depth_ct m) (dl := graph_depth_dt m) (ll := graph_depth_L3_lt m) (dr := graph_depth_dr) (fin := (finL1 [(1, .one (.adr)), (4, .one (.sl)), (5, .one (.sl)), (6, .one (.bool)), (7, .one (.sl)), (8, .one (.sl)), (11, .one (.int .i64)), (48, .one (.int .i64)), (49, .one (.int .i64)), (55, .one (.sl)), (56, .one (.int .i64)), (57, .one (.int .i64)), (73, .one (.sl)), (74, .one (.int .i64)), (75, .one (.int .i64))] [(6, .one (.bool))] 6 (fun x => graph_depth_L3 m (x.1) (x.2.1) (x.2.2.1) (x.2.2.2.1) (x.2.2.2.2.1) (x.2.2.2.2.2.1) (x.2.2.2.2.2.2.1) (x.2.2.2.2.2.2.2.1) (x.2.2.2.2.2.2.2.2.1) (x.2.2.2.2.2.2.2.2.2.1) (x.2.2.2.2.2.2.2.2.2.2.1) (x.2.2.2.2.2.2.2.2.2.2.2.1) (x.2.2.2.2.2.2.2.2.2.2.2.2.1) (x.2.2.2.2.2.2.2.2.2.2.2.2.2.1) (x.2.2.2.2.2.2.2.2.2.2.2.2.2.2)))) (N := 400) (js := graph_depth_L3_jt0 m) AllMo.nil (AllOK.cons (graph_components_ok m) AllOK.nil) AllD.nil (AllL.cons (graph_depth_L4_ok m (by kernel_rfl)) AllL.nil) AllJ.nil)) hW
theorem graph_depth_L2_ok (n : Nat) {W : Wr} (hW : subW W 130 [6, 13, 15, 17, 57, 58, 59, 60, 61, 62, 63, 64, 65, 66, 67, 68, 69, 70, 71, 72, 73, 74, 75, 76, 77, 78, 79, 80, 81, 82, 83, 84, 85, 86, 87, 88, 89, 90, 91, 92, 93, 94, 95, 96, 97, 98, 99, 100, 101, 102, 103, 104, 105, 106, 107, 108] = true) : LEntOK Tryz.prog (bodyOf Tryz.f48) W ⟨[0, 1, 0, 1, 0, 0, 1, 1, 0, 0, 1, 0, 1, 1, 1, 1, 1, 1], [(1, .one (.adr)), (4, .one (.sl)), (5, .one (.sl)), (6, .one (.bool)), (7, .one (.sl)), (8, .one (.sl)), (11, .one (.int .i64)), (48, .one (.int .i64)), (49, .one (.int .i64)), (55, .one (.sl)), (56, .one (.int .i64)), (57, .one (.int .i64))], actL1 [(1, .one (.adr)), (4, .one (.sl)), (5, .one (.sl)), (6, .one (.bool)), (7, .one (.sl)), (8, .one (.sl)), (11, .one (.int .i64)), (48, .one (.int .i64)), (49, .one (.int .i64)), (55, .one (.sl)), (56, .one (.int .i64)), (57, .one (.int .i64))] [(6, .one (.bool))] [6, 13, 15, 17, 57, 58, 59, 60, 61, 62, 63, 64, 65, 66, 67, 68, 69, 70, 71, 72, 73, 74, 75, 76, 77, 78, 79, 80, 81, 82, 83, 84, 85, 86, 87, 88, 89, 90, 91, 92, 93, 94, 95, 96, 97, 98, 99, 100, 101, 102, 103, 104, 105, 106, 107, 108] 4 (fun x => graph_depth_L2 n (x.1) (x.2.1) (x.2.2.1) (x.2.2.2.1) (x.2.2.2.2.1) (x.2.2.2.2.2.1) (x.2.2.2.2.2.2.1) (x.2.2.2.2.2.2.2.1) (x.2.2.2.2.2.2.2.2.1) (x.2.2.2.2.2.2.2.2.2.1) (x.2.2.2.2.2.2.2.2.2.2.1) (x.2.2.2.2.2.2.2.2.2.2.2))⟩ :=
  loop1_ok (P := Tryz.prog) (body := (bodyOf Tryz.f48)) (c := child (codeAt (bodyOf Tryz.f48) [0, 1, 0, 1, 0, 0, 1, 1, 0, 0, 1, 0, 1, 1, 1, 1, 1, 1]) 0) (p := [0, 1, 0, 1, 0, 0, 1, 1, 0, 0, 1, 0, 1, 1, 1, 1, 1, 1]) (ls := [(1, .one (.adr)), (4, .one (.sl)), (5, .one (.sl)), (6, .one (.bool)), (7, .one (.sl)), (8, .one (.sl)), (11, .one (.int .i64)), (48, .one (.int .i64)), (49, .one (.int .i64)), (55, .one (.sl)), (56, .one (.int .i64)), (57, .one (.int .i64))]) (ms := [(6, .one (.bool))]) (id := 4) (nt := 130) (ws := [6, 13, 15, 17, 57, 58, 59, 60, 61, 62, 63, 64, 65, 66, 67, 68, 69, 70, 71, 72, 73, 74, 75, 76, 77, 78, 79, 80, 81, 82, 83, 84, 85, 86, 87, 88, 89, 90, 91, 92, 93, 94, 95, 96, 97, 98, 99, 100, 101, 102, 103, 104, 105, 106, 107, 108]) (N := 400) (G := (fun n x => graph_depth_L2 n (x.1) (x.2.1) (x.2.2.1) (x.2.2.2.1) (x.2.2.2.2.1) (x.2.2.2.2.2.1) (x.2.2.2.2.2.2.1) (x.2.2.2.2.2.2.2.1) (x.2.2.2.2.2.2.2.2.1) (x.2.2.2.2.2.2.2.2.2.1) (x.2.2.2.2.2.2.2.2.2.2.1) (x.2.2.2.2.2.2.2.2.2.2.2))) (T := fun n => ⟨lookC (graph_depth_ct n) (graph_depth_dt n), lookL (graph_depth_L2_lt n), lookJ (graph_depth_L2_jt0 n), graph_depth_dr⟩)
    (by kernel_rfl) (fun _ => by kernel_rfl) (fun n x => by kernel_rfl) n (fun m hm => (tabs_ok (P := Tryz.prog) (body := (bodyOf Tryz.f48)) (W := (130, some [6, 13, 15, 17, 57, 58, 59, 60, 61, 62, 63, 64, 65, 66, 67, 68, 69, 70, 71, 72, 73, 74, 75, 76, 77, 78, 79, 80, 81, 82, 83, 84, 85, 86, 87, 88, 89, 90, 91, 92, 93, 94, 95, 96, 97, 98, 99, 100, 101, 102, 103, 104, 105, 106, 107, 108])) (cl := graph_depth_ct m) (dl := graph_depth_dt m) (ll := graph_depth_L2_lt m) (dr := graph_depth_dr) (fin := (finL1 [(1, .one (.adr)), (4, .one (.sl)), (5, .one (.sl)), (6, .one (.bool)), (7, .one (.sl)), (8, .one (.sl)), (11, .one (.int .i64)), (48, .one (.int .i64)), (49, .one (.int .i64)), (55, .one (.sl)), (56, .one (.int .i64)), (57, .one (.int .i64))] [(6, .one (.bool))] 4 (fun x => graph_depth_L2 m (x.1) (x.2.1) (x.2.2.1) (x.2.2.2.1) (x.2.2.2.2.1) (x.2.2.2.2.2.1) (x.2.2.2.2.2.2.1) (x.2.2.2.2.2.2.2.1) (x.2.2.2.2.2.2.2.2.1) (x.2.2.2.2.2.2.2.2.2.1) (x.2.2.2.2.2.2.2.2.2.2.1) (x.2.2.2.2.2.2.2.2.2.2.2)))) (N := 400) (js := graph_depth_L2_jt0 m) AllMo.nil (AllOK.cons (graph_components_ok m) AllOK.nil) AllD.nil (AllL.cons (graph_depth_L3_ok m (by kernel_rfl)) AllL.nil) AllJ.nil)) hW
theorem graph_depth_L1_ok (n : Nat) {W : Wr} (hW : subW W 130 [6, 11, 13, 15, 17, 49, 50, 51, 52, 53, 54, 55, 56, 57, 58, 59, 60, 61, 62, 63, 64, 65, 66, 67, 68, 69, 70, 71, 72, 73, 74, 75, 76, 77, 78, 79, 80, 81, 82, 83, 84, 85, 86, 87, 88, 89, 90, 91, 92, 93, 94, 95, 96, 97, 98, 99, 100, 101, 102, 103, 104, 105, 106, 107, 108, 109, 110, 111, 112, 113, 114, 115, 116, 117, 118, 119] = true) : LEntOK Tryz.prog (bodyOf Tryz.f48) W ⟨[0, 1, 0, 1, 1, 1, 1, 1, 1], [(1, .one (.adr)), (4, .one (.sl)), (5, .one (.sl)), (6, .one (.bool)), (7, .one (.sl)), (8, .one (.sl)), (48, .one (.int .i64)), (49, .one (.int .i64))], actL1 [(1, .one (.adr)), (4, .one (.sl)), (5, .one (.sl)), (6, .one (.bool)), (7, .one (.sl)), (8, .one (.sl)), (48, .one (.int .i64)), (49, .one (.int .i64))] [(6, .one (.bool))] [6, 11, 13, 15, 17, 49, 50, 51, 52, 53, 54, 55, 56, 57, 58, 59, 60, 61, 62, 63, 64, 65, 66, 67, 68, 69, 70, 71, 72, 73, 74, 75, 76, 77, 78, 79, 80, 81, 82, 83, 84, 85, 86, 87, 88, 89, 90, 91, 92, 93, 94, 95, 96, 97, 98, 99, 100, 101, 102, 103, 104, 105, 106, 107, 108, 109, 110, 111, 112, 113, 114, 115, 116, 117, 118, 119] 2 (fun x => graph_depth_L1 n (x.1) (x.2.1) (x.2.2.1) (x.2.2.2.1) (x.2.2.2.2.1) (x.2.2.2.2.2.1) (x.2.2.2.2.2.2.1) (x.2.2.2.2.2.2.2))⟩ :=
  loop1_ok (P := Tryz.prog) (body := (bodyOf Tryz.f48)) (c := child (codeAt (bodyOf Tryz.f48) [0, 1, 0, 1, 1, 1, 1, 1, 1]) 0) (p := [0, 1, 0, 1, 1, 1, 1, 1, 1]) (ls := [(1, .one (.adr)), (4, .one (.sl)), (5, .one (.sl)), (6, .one (.bool)), (7, .one (.sl)), (8, .one (.sl)), (48, .one (.int .i64)), (49, .one (.int .i64))]) (ms := [(6, .one (.bool))]) (id := 2) (nt := 130) (ws := [6, 11, 13, 15, 17, 49, 50, 51, 52, 53, 54, 55, 56, 57, 58, 59, 60, 61, 62, 63, 64, 65, 66, 67, 68, 69, 70, 71, 72, 73, 74, 75, 76, 77, 78, 79, 80, 81, 82, 83, 84, 85, 86, 87, 88, 89, 90, 91, 92, 93, 94, 95, 96, 97, 98, 99, 100, 101, 102, 103, 104, 105, 106, 107, 108, 109, 110, 111, 112, 113, 114, 115, 116, 117, 118, 119]) (N := 400) (G := (fun n x => graph_depth_L1 n (x.1) (x.2.1) (x.2.2.1) (x.2.2.2.1) (x.2.2.2.2.1) (x.2.2.2.2.2.1) (x.2.2.2.2.2.2.1) (x.2.2.2.2.2.2.2))) (T := fun n => ⟨lookC (graph_depth_ct n) (graph_depth_dt n), lookL (graph_depth_L1_lt n), lookJ (graph_depth_L1_jt0 n), graph_depth_dr⟩)
    (by kernel_rfl) (fun _ => by kernel_rfl) (fun n x => by kernel_rfl) n (fun m hm => (tabs_ok (P := Tryz.prog) (body := (bodyOf Tryz.f48)) (W := (130, some [6, 11, 13, 15, 17, 49, 50, 51, 52, 53, 54, 55, 56, 57, 58, 59, 60, 61, 62, 63, 64, 65, 66, 67, 68, 69, 70, 71, 72, 73, 74, 75, 76, 77, 78, 79, 80, 81, 82, 83, 84, 85, 86, 87, 88, 89, 90, 91, 92, 93, 94, 95, 96, 97, 98, 99, 100, 101, 102, 103, 104, 105, 106, 107, 108, 109, 110, 111, 112, 113, 114, 115, 116, 117, 118, 119])) (cl := graph_depth_ct m) (dl := graph_depth_dt m) (ll := graph_depth_L1_lt m) (dr := graph_depth_dr) (fin := (finL1 [(1, .one (.adr)), (4, .one (.sl)), (5, .one (.sl)), (6, .one (.bool)), (7, .one (.sl)), (8, .one (.sl)), (48, .one (.int .i64)), (49, .one (.int .i64))] [(6, .one (.bool))] 2 (fun x => graph_depth_L1 m (x.1) (x.2.1) (x.2.2.1) (x.2.2.2.1) (x.2.2.2.2.1) (x.2.2.2.2.2.1) (x.2.2.2.2.2.2.1) (x.2.2.2.2.2.2.2)))) (N := 400) (js := graph_depth_L1_jt0 m) AllMo.nil (AllOK.cons (graph_components_ok m) AllOK.nil) AllD.nil (AllL.cons (graph_depth_L2_ok m (by kernel_rfl)) AllL.nil) AllJ.nil)) hW
theorem graph_depth_L0_ok (n : Nat) {W : Wr} (hW : subW W 130 [9, 10, 31, 32, 33, 34, 35, 36, 37, 38, 39, 40, 41, 42, 43, 44, 45, 46] = true) : LEntOK Tryz.prog (bodyOf Tryz.f48) W ⟨[0, 1, 0, 1, 1, 1, 1, 1], [(1, .one (.adr)), (4, .one (.sl)), (5, .one (.sl)), (6, .one (.bool)), (7, .one (.sl)), (8, .one (.sl)), (29, .one (.sl)), (30, .one (.int .i64)), (31, .one (.int .i64))], actL1 [(1, .one (.adr)), (4, .one (.sl)), (5, .one (.sl)), (6, .one (.bool)), (7, .one (.sl)), (8, .one (.sl)), (29, .one (.sl)), (30, .one (.int .i64)), (31, .one (.int .i64))] [] [9, 10, 31, 32, 33, 34, 35, 36, 37, 38, 39, 40, 41, 42, 43, 44, 45, 46] 0 (fun x => graph_depth_L0 n (x.1) (x.2.1) (x.2.2.1) (x.2.2.2.1) (x.2.2.2.2.1) (x.2.2.2.2.2.1) (x.2.2.2.2.2.2.1) (x.2.2.2.2.2.2.2.1) (x.2.2.2.2.2.2.2.2))⟩ :=
  loop1_ok (P := Tryz.prog) (body := (bodyOf Tryz.f48)) (c := child (codeAt (bodyOf Tryz.f48) [0, 1, 0, 1, 1, 1, 1, 1]) 0) (p := [0, 1, 0, 1, 1, 1, 1, 1]) (ls := [(1, .one (.adr)), (4, .one (.sl)), (5, .one (.sl)), (6, .one (.bool)), (7, .one (.sl)), (8, .one (.sl)), (29, .one (.sl)), (30, .one (.int .i64)), (31, .one (.int .i64))]) (ms := []) (id := 0) (nt := 130) (ws := [9, 10, 31, 32, 33, 34, 35, 36, 37, 38, 39, 40, 41, 42, 43, 44, 45, 46]) (N := 400) (G := (fun n x => graph_depth_L0 n (x.1) (x.2.1) (x.2.2.1) (x.2.2.2.1) (x.2.2.2.2.1) (x.2.2.2.2.2.1) (x.2.2.2.2.2.2.1) (x.2.2.2.2.2.2.2.1) (x.2.2.2.2.2.2.2.2))) (T := fun n => ⟨lookC (graph_depth_ct n) (graph_depth_dt n), lookL (graph_depth_L0_lt n), lookJ (graph_depth_L0_jt0 n), graph_depth_dr⟩)
    (by kernel_rfl) (fun _ => by kernel_rfl) (fun n x => by kernel_rfl) n (fun m hm => (tabs_ok (P := Tryz.prog) (body := (bodyOf Tryz.f48)) (W := (130, some [9, 10, 31, 32, 33, 34, 35, 36, 37, 38, 39, 40, 41, 42, 43, 44, 45, 46])) (cl := graph_depth_ct m) (dl := graph_depth_dt m) (ll := graph_depth_L0_lt m) (dr := graph_depth_dr) (fin := (finL1 [(1, .one (.adr)), (4, .one (.sl)), (5, .one (.sl)), (6, .one (.bool)), (7, .one (.sl)), (8, .one (.sl)), (29, .one (.sl)), (30, .one (.int .i64)), (31, .one (.int .i64))] [] 0 (fun x => graph_depth_L0 m (x.1) (x.2.1) (x.2.2.1) (x.2.2.2.1) (x.2.2.2.2.1) (x.2.2.2.2.2.1) (x.2.2.2.2.2.2.1) (x.2.2.2.2.2.2.2.1) (x.2.2.2.2.2.2.2.2)))) (N := 400) (js := graph_depth_L0_jt0 m) AllMo.nil (AllOK.cons (graph_components_ok m) AllOK.nil) AllD.nil AllL.nil AllJ.nil)) hW
theorem graph_depth_ok (n : Nat) : FnOK Tryz.prog ⟨48, [.agg [.sl, .int .i64]], [.one (.int .i64), .one (.bool)], fun x => graph_depth n (x)⟩ :=
  fn_ok (P := Tryz.prog) (e := ⟨48, [.agg [.sl, .int .i64]], [.one (.int .i64), .one (.bool)], fun x => graph_depth n (x)⟩) (fn := Tryz.f48) (c := (bodyOf Tryz.f48)) (T := ⟨lookC (graph_depth_ct n) (graph_depth_dt n), lookL (graph_depth_lt n), lookJ (graph_depth_jt0 n), graph_depth_dr⟩) (N := 400) (ps := [(0, .agg [.sl, .int .i64])])
    (by kernel_rfl) (by kernel_rfl) (by kernel_rfl) (by kernel_rfl) (by kernel_rfl) (tabs_ok (P := Tryz.prog) (body := (bodyOf Tryz.f48)) (W := (130, none)) (cl := graph_depth_ct n) (dl := graph_depth_dt n) (ll := graph_depth_lt n) (dr := graph_depth_dr) (fin := (finF Tryz.prog Tryz.f48 [.one (.int .i64), .one (.bool)])) (N := 400) (js := graph_depth_jt0 n) AllMo.nil (AllOK.cons (graph_components_ok n) AllOK.nil) AllD.nil (AllL.cons (graph_depth_L0_ok n (by kernel_rfl)) (AllL.cons (graph_depth_L1_ok n (by kernel_rfl)) AllL.nil)) AllJ.nil) (fun x => by kernel_rfl)
def graph_Check_L1_B (G : Addr → Sl → Sl → Int → Int → M ((Unit) ⊕ (Int))) (n : Nat) (a0 : Addr) (a1 : Sl) (a2 : Sl) (a3 : Int) (a4 : Int) : M ((Unit) ⊕ (Int)) :=
  if decide (a4 < a3) then
    M.bind (idxA a2 a4 1) fun x0 =>
    M.bind (ldL .bool x0) fun (x1 : Bool) =>
    if x1 then
      M.bind (idxA a1 a4 1) fun x2 =>
      M.bind (ldL (li) x2) fun (x3 : Int) =>
      if !decide (x3 = 1) then
        M.pure (Sum.inr 3)
      else
        G a0 a1 a2 a3 (IntKind.i64.wrap (a4 + 1))
    else
      G a0 a1 a2 a3 (IntKind.i64.wrap (a4 + 1))
  else
    M.pure (Sum.inl ())
def graph_Check_L1 : Nat → Addr → Sl → Sl → Int → Int → M ((Unit) ⊕ (Int))
  | 0 => fun _ _ _ _ _ => M.fail
  | n + 1 => graph_Check_L1_B (graph_Check_L1 n) n
theorem graph_Check_L1_succ (n : Nat) : graph_Check_L1 (n + 1) = graph_Check_L1_B (graph_Check_L1 n) n := rfl
def graph_Check_L0_B (G : Addr → Sl → Sl → Int → Int → M ((Unit) ⊕ (Int))) (n : Nat) (a0 : Addr) (a1 : Sl) (a2 : Sl) (a3 : Int) (a4 : Int) : M ((Unit) ⊕ (Int)) :=
  if decide (a4 < a3) then
    M.bind (idxA a2 a4 5) fun x0 =>
    M.bind (ldLs [li, .str, .bool, .sl, .sl] x0) fun (x1 : Int × ByteArray × Bool × Sl × Sl) =>
    M.bind (newB none T_api_Node [vi 0, Value.string (ofBytes []), Value.bool false, vsl0, vsl0]) fun x2 =>
    M.bind (stN (adr x2) [vi x1.1, Value.string x1.2.1, Value.bool x1.2.2.1, vsl x1.2.2.2.1, vsl x1.2.2.2.2]) fun x3 =>
    M.bind (idxA a1 a4 1) fun x4 =>
    M.bind (ldL .bool x4) fun (x5 : Bool) =>
    if !x5 then
      M.pure (Sum.inr 3)
    else
      M.bind (ldLs [li, .str, .bool, .sl, .sl] (adr x2)) fun (x6 : Int × ByteArray × Bool × Sl × Sl) =>
      M.bind (graph_form n (x6.1, x6.2.1, x6.2.2.1, x6.2.2.2.1, x6.2.2.2.2)) fun x7 =>
      if !x7 then
        M.pure (Sum.inr 3)
      else
        G a0 a1 a2 a3 (IntKind.i64.wrap (a4 + 1))
  else
    M.pure (Sum.inl ())
def graph_Check_L0 : Nat → Addr → Sl → Sl → Int → Int → M ((Unit) ⊕ (Int))
  | 0 => fun _ _ _ _ _ => M.fail
  | n + 1 => graph_Check_L0_B (graph_Check_L0 n) n
theorem graph_Check_L0_succ (n : Nat) : graph_Check_L0 (n + 1) = graph_Check_L0_B (graph_Check_L0 n) n := rfl
def graph_Check_J0 (n : Nat) (a0 : Addr) : M (Int) :=
  M.bind (ldL .sl (a0.plus 0)) fun (x0 : Sl) =>
  M.bind (mkS none T_bool [Value.bool false] (↑x0.len : Int) (↑x0.len : Int)) fun x1 =>
  M.bind (ldLs [.sl, li] a0) fun (x2 : Sl × Int) =>
  M.bind (ldL (li) (a0.plus 1)) fun (x3 : Int) =>
  M.bind (graph_reached n (x2.1, x2.2) x3 x1) fun x4 =>
  M.bind (ldL .sl (a0.plus 0)) fun (x5 : Sl) =>
  M.bind (graph_Check_L0 n a0 x1 x5 (↑x5.len : Int) 0) (sumElim (fun x6 =>
    M.bind (ldLs [.sl, li] a0) fun (x7 : Sl × Int) =>
    M.bind (graph_counts n (x7.1, x7.2)) fun x8 =>
    M.bind (ldLs [.sl, li] a0) fun (x9 : Sl × Int) =>
    M.bind (graph_inKeys n (x9.1, x9.2)) fun x10 =>
    M.bind (graph_Check_L1 n a0 x8 x10 (↑x10.len : Int) 0) (sumElim (fun x11 =>
      M.bind (ldLs [.sl, li] a0) fun (x12 : Sl × Int) =>
      M.bind (graph_twice n (x12.1, x12.2)) fun x13 =>
      if x13 then
        M.pure 8
      else
        M.bind (ldLs [.sl, li] a0) fun (x14 : Sl × Int) =>
        M.bind (graph_depth n (x14.1, x14.2)) fun x15 =>
        if decide (32 < x15.1) then
          M.pure 5
        else
          M.pure 0)
    (fun x11 =>
      M.pure x11)))
  (fun x6 =>
    M.pure x6))
def graph_Check (n : Nat) (a0 : Sl × Int) : M (Int) :=
  M.bind (newB none T_api_Graph [vsl a0.1, vi a0.2]) fun x0 =>
  M.bind (ldL .sl ((adr x0).plus 0)) fun (x1 : Sl) =>
  if decide (4096 < (↑x1.len : Int)) then
    M.pure 7
  else
    M.bind (ldL .sl ((adr x0).plus 0)) fun (x2 : Sl) =>
    if decide ((↑x2.len : Int) = 0) then
      M.pure 3
    else
      M.bind (ldLs [.sl, li] (adr x0)) fun (x3 : Sl × Int) =>
      M.bind (graph_indices n (x3.1, x3.2)) fun x4 =>
      if !x4 then
        M.pure 3
      else
        graph_Check_J0 n (adr x0)
def graph_Check_dt (n : Nat) : List DEnt := []
def graph_Check_ct (n : Nat) : List Ent := [⟨42, [.agg [.sl, .int .i64]], [.one (.bool)], fun x => graph_indices n (x)⟩,
  ⟨43, [.agg [.sl, .int .i64], .one (.int .i64), .one (.sl)], [], fun x => graph_reached n (x.1) (x.2.1) (x.2.2)⟩,
  ⟨44, [.agg [.int .i64, .str, .bool, .sl, .sl]], [.one (.bool)], fun x => graph_form n (x)⟩,
  ⟨45, [.agg [.sl, .int .i64]], [.one (.sl)], fun x => graph_counts n (x)⟩,
  ⟨46, [.agg [.sl, .int .i64]], [.one (.sl)], fun x => graph_inKeys n (x)⟩,
  ⟨47, [.agg [.sl, .int .i64]], [.one (.bool)], fun x => graph_twice n (x)⟩,
  ⟨48, [.agg [.sl, .int .i64]], [.one (.int .i64), .one (.bool)], fun x => graph_depth n (x)⟩]
def graph_Check_dr (i : Nat) : Option (List (Nat × List Nat)) := none
def graph_Check_L1_lt (n : Nat) : List LEnt := []
def graph_Check_L1_jt0 (n : Nat) : List (JEnt ((Unit) ⊕ (Int))) := []
def graph_Check_L0_lt (n : Nat) : List LEnt := []
def graph_Check_L0_jt0 (n : Nat) : List (JEnt ((Unit) ⊕ (Int))) := []
def graph_Check_lt (n : Nat) : List LEnt := [⟨[0, 1, 0, 1, 1, 1, 1, 1], [(1, .one (.adr)), (3, .one (.sl)), (34, .one (.sl)), (35, .one (.int .i64)), (36, .one (.int .i64))], actL2 [(1, .one (.adr)), (3, .one (.sl)), (34, .one (.sl)), (35, .one (.int .i64)), (36, .one (.int .i64))] [] [(2, .one (.int .i64))] [2, 4, 5, 36, 37, 38, 39, 40, 41, 42, 43, 44, 45, 46, 47, 48, 49, 50, 51] 0 .ret (fun x => graph_Check_L0 n (x.1) (x.2.1) (x.2.2.1) (x.2.2.2.1) (x.2.2.2.2))⟩,
  ⟨[0, 1, 0, 1, 1, 1, 1, 1, 1, 1], [(1, .one (.adr)), (6, .one (.sl)), (55, .one (.sl)), (56, .one (.int .i64)), (57, .one (.int .i64))], actL2 [(1, .one (.adr)), (6, .one (.sl)), (55, .one (.sl)), (56, .one (.int .i64)), (57, .one (.int .i64))] [] [(2, .one (.int .i64))] [2, 7, 8, 57, 58, 59, 60, 61, 62, 63, 64, 65, 66, 67, 68, 69, 70] 2 .ret (fun x => graph_Check_L1 n (x.1) (x.2.1) (x.2.2.1) (x.2.2.2.1) (x.2.2.2.2))⟩]
def graph_Check_jt1 (n : Nat) : List (JEnt (Int)) := []
def graph_Check_jt0 (n : Nat) : List (JEnt (Int)) := ⟨[0, 1, 1, 1], [.code [1, 1, 1, 1]], [(1, .one (.adr))], fun x => graph_Check_J0 n (x)⟩ :: graph_Check_jt1 n
theorem graph_Check_L1_ok (n : Nat) {W : Wr} (hW : subW W 80 [2, 7, 8, 57, 58, 59, 60, 61, 62, 63, 64, 65, 66, 67, 68, 69, 70] = true) : LEntOK Tryz.prog (bodyOf Tryz.f15) W ⟨[0, 1, 0, 1, 1, 1, 1, 1, 1, 1], [(1, .one (.adr)), (6, .one (.sl)), (55, .one (.sl)), (56, .one (.int .i64)), (57, .one (.int .i64))], actL2 [(1, .one (.adr)), (6, .one (.sl)), (55, .one (.sl)), (56, .one (.int .i64)), (57, .one (.int .i64))] [] [(2, .one (.int .i64))] [2, 7, 8, 57, 58, 59, 60, 61, 62, 63, 64, 65, 66, 67, 68, 69, 70] 2 .ret (fun x => graph_Check_L1 n (x.1) (x.2.1) (x.2.2.1) (x.2.2.2.1) (x.2.2.2.2))⟩ :=
  loop2_ok (P := Tryz.prog) (body := (bodyOf Tryz.f15)) (c := child (codeAt (bodyOf Tryz.f15) [0, 1, 0, 1, 1, 1, 1, 1, 1, 1]) 0) (p := [0, 1, 0, 1, 1, 1, 1, 1, 1, 1]) (ls := [(1, .one (.adr)), (6, .one (.sl)), (55, .one (.sl)), (56, .one (.int .i64)), (57, .one (.int .i64))]) (ms := []) (rs := [(2, .one (.int .i64))]) (id := 2) (e2 := .ret) (nt := 80) (ws := [2, 7, 8, 57, 58, 59, 60, 61, 62, 63, 64, 65, 66, 67, 68, 69, 70]) (N := 400) (G := (fun n x => graph_Check_L1 n (x.1) (x.2.1) (x.2.2.1) (x.2.2.2.1) (x.2.2.2.2))) (T := fun n => ⟨lookC (graph_Check_ct n) (graph_Check_dt n), lookL (graph_Check_L1_lt n), lookJ (graph_Check_L1_jt0 n), graph_Check_dr⟩)
    (by kernel_rfl) (fun _ => by kernel_rfl) (fun n x => by kernel_rfl) n (fun m hm => (tabs_ok (P := Tryz.prog) (body := (bodyOf Tryz.f15)) (W := (80, some [2, 7, 8, 57, 58, 59, 60, 61, 62, 63, 64, 65, 66, 67, 68, 69, 70])) (cl := graph_Check_ct m) (dl := graph_Check_dt m) (ll := graph_Check_L1_lt m) (dr := graph_Check_dr) (fin := (finL2 [(1, .one (.adr)), (6, .one (.sl)), (55, .one (.sl)), (56, .one (.int .i64)), (57, .one (.int .i64))] [] [(2, .one (.int .i64))] 2 .ret (fun x => graph_Check_L1 m (x.1) (x.2.1) (x.2.2.1) (x.2.2.2.1) (x.2.2.2.2)))) (N := 400) (js := graph_Check_L1_jt0 m) AllMo.nil (AllOK.cons (graph_indices_ok m) (AllOK.cons (graph_reached_ok m) (AllOK.cons (graph_form_ok m) (AllOK.cons (graph_counts_ok m) (AllOK.cons (graph_inKeys_ok m) (AllOK.cons (graph_twice_ok m) (AllOK.cons (graph_depth_ok m) AllOK.nil))))))) AllD.nil AllL.nil AllJ.nil)) hW
theorem graph_Check_L0_ok (n : Nat) {W : Wr} (hW : subW W 80 [2, 4, 5, 36, 37, 38, 39, 40, 41, 42, 43, 44, 45, 46, 47, 48, 49, 50, 51] = true) : LEntOK Tryz.prog (bodyOf Tryz.f15) W ⟨[0, 1, 0, 1, 1, 1, 1, 1], [(1, .one (.adr)), (3, .one (.sl)), (34, .one (.sl)), (35, .one (.int .i64)), (36, .one (.int .i64))], actL2 [(1, .one (.adr)), (3, .one (.sl)), (34, .one (.sl)), (35, .one (.int .i64)), (36, .one (.int .i64))] [] [(2, .one (.int .i64))] [2, 4, 5, 36, 37, 38, 39, 40, 41, 42, 43, 44, 45, 46, 47, 48, 49, 50, 51] 0 .ret (fun x => graph_Check_L0 n (x.1) (x.2.1) (x.2.2.1) (x.2.2.2.1) (x.2.2.2.2))⟩ :=
  loop2_ok (P := Tryz.prog) (body := (bodyOf Tryz.f15)) (c := child (codeAt (bodyOf Tryz.f15) [0, 1, 0, 1, 1, 1, 1, 1]) 0) (p := [0, 1, 0, 1, 1, 1, 1, 1]) (ls := [(1, .one (.adr)), (3, .one (.sl)), (34, .one (.sl)), (35, .one (.int .i64)), (36, .one (.int .i64))]) (ms := []) (rs := [(2, .one (.int .i64))]) (id := 0) (e2 := .ret) (nt := 80) (ws := [2, 4, 5, 36, 37, 38, 39, 40, 41, 42, 43, 44, 45, 46, 47, 48, 49, 50, 51]) (N := 400) (G := (fun n x => graph_Check_L0 n (x.1) (x.2.1) (x.2.2.1) (x.2.2.2.1) (x.2.2.2.2))) (T := fun n => ⟨lookC (graph_Check_ct n) (graph_Check_dt n), lookL (graph_Check_L0_lt n), lookJ (graph_Check_L0_jt0 n), graph_Check_dr⟩)
    (by kernel_rfl) (fun _ => by kernel_rfl) (fun n x => by kernel_rfl) n (fun m hm => (tabs_ok (P := Tryz.prog) (body := (bodyOf Tryz.f15)) (W := (80, some [2, 4, 5, 36, 37, 38, 39, 40, 41, 42, 43, 44, 45, 46, 47, 48, 49, 50, 51])) (cl := graph_Check_ct m) (dl := graph_Check_dt m) (ll := graph_Check_L0_lt m) (dr := graph_Check_dr) (fin := (finL2 [(1, .one (.adr)), (3, .one (.sl)), (34, .one (.sl)), (35, .one (.int .i64)), (36, .one (.int .i64))] [] [(2, .one (.int .i64))] 0 .ret (fun x => graph_Check_L0 m (x.1) (x.2.1) (x.2.2.1) (x.2.2.2.1) (x.2.2.2.2)))) (N := 400) (js := graph_Check_L0_jt0 m) AllMo.nil (AllOK.cons (graph_indices_ok m) (AllOK.cons (graph_reached_ok m) (AllOK.cons (graph_form_ok m) (AllOK.cons (graph_counts_ok m) (AllOK.cons (graph_inKeys_ok m) (AllOK.cons (graph_twice_ok m) (AllOK.cons (graph_depth_ok m) AllOK.nil))))))) AllD.nil AllL.nil AllJ.nil)) hW
theorem graph_Check_ok (n : Nat) : FnOK Tryz.prog ⟨15, [.agg [.sl, .int .i64]], [.one (.int .i64)], fun x => graph_Check n (x)⟩ :=
  fn_ok (P := Tryz.prog) (e := ⟨15, [.agg [.sl, .int .i64]], [.one (.int .i64)], fun x => graph_Check n (x)⟩) (fn := Tryz.f15) (c := (bodyOf Tryz.f15)) (T := ⟨lookC (graph_Check_ct n) (graph_Check_dt n), lookL (graph_Check_lt n), lookJ (graph_Check_jt0 n), graph_Check_dr⟩) (N := 400) (ps := [(0, .agg [.sl, .int .i64])])
    (by kernel_rfl) (by kernel_rfl) (by kernel_rfl) (by kernel_rfl) (by kernel_rfl) (tabs_ok (P := Tryz.prog) (body := (bodyOf Tryz.f15)) (W := (80, none)) (cl := graph_Check_ct n) (dl := graph_Check_dt n) (ll := graph_Check_lt n) (dr := graph_Check_dr) (fin := (finF Tryz.prog Tryz.f15 [.one (.int .i64)])) (N := 400) (js := graph_Check_jt0 n) AllMo.nil (AllOK.cons (graph_indices_ok n) (AllOK.cons (graph_reached_ok n) (AllOK.cons (graph_form_ok n) (AllOK.cons (graph_counts_ok n) (AllOK.cons (graph_inKeys_ok n) (AllOK.cons (graph_twice_ok n) (AllOK.cons (graph_depth_ok n) AllOK.nil))))))) AllD.nil (AllL.cons (graph_Check_L0_ok n (by kernel_rfl)) (AllL.cons (graph_Check_L1_ok n (by kernel_rfl)) AllL.nil)) (AllJ.cons (fun x => by kernel_rfl) AllJ.nil)) (fun x => by kernel_rfl)
def graph_kept_1_L0_B (G : Addr → Sl → Sl → Int → Int → M (Unit)) (n : Nat) (a0 : Addr) (a1 : Sl) (a2 : Sl) (a3 : Int) (a4 : Int) : M (Unit) :=
  if decide (a4 < a3) then
    M.bind (idxA a2 a4 1) fun x0 =>
    M.bind (ldL (li) x0) fun (x1 : Int) =>
    M.bind (ldL .sl a0) fun (x2 : Sl) =>
    M.bind (idxA x2 x1 1) fun x3 =>
    M.bind (ldL (li) x3) fun (x4 : Int) =>
    M.bind (idxA a1 a4 1) fun x5 =>
    M.bind (stN x5 [vi x4]) fun x6 =>
    G a0 a1 a2 a3 (IntKind.i64.wrap (a4 + 1))
  else
    M.pure ()
def graph_kept_1_L0 : Nat → Addr → Sl → Sl → Int → Int → M (Unit)
  | 0 => fun _ _ _ _ _ => M.fail
  | n + 1 => graph_kept_1_L0_B (graph_kept_1_L0 n) n
theorem graph_kept_1_L0_succ (n : Nat) : graph_kept_1_L0 (n + 1) = graph_kept_1_L0_B (graph_kept_1_L0 n) n := rfl
def graph_kept_1 (n : Nat) (a0 : Sl) (a1 : Addr) : M (Sl) :=
  M.bind (mkS none T_i64 [vi 0] (↑a0.len : Int) (↑a0.len : Int)) fun x0 =>
  M.bind (graph_kept_1_L0 n a1 x0 a0 (↑a0.len : Int) 0) fun x1 =>
  M.pure x0
def graph_kept_1_dt (n : Nat) : List DEnt := []
def graph_kept_1_ct (n : Nat) : List Ent := []
def graph_kept_1_dr (i : Nat) : Option (List (Nat × List Nat)) := none
def graph_kept_1_L0_lt (n : Nat) : List LEnt := []
def graph_kept_1_L0_jt0 (n : Nat) : List (JEnt (Unit)) := []
def graph_kept_1_lt (n : Nat) : List LEnt := [⟨[0, 1, 0, 1, 1], [(1, .one (.adr)), (4, .one (.sl)), (10, .one (.sl)), (11, .one (.int .i64)), (12, .one (.int .i64))], actL1 [(1, .one (.adr)), (4, .one (.sl)), (10, .one (.sl)), (11, .one (.int .i64)), (12, .one (.int .i64))] [] [5, 6, 12, 13, 14, 15, 16, 17, 18, 19, 20, 21, 22, 23, 24] 0 (fun x => graph_kept_1_L0 n (x.1) (x.2.1) (x.2.2.1) (x.2.2.2.1) (x.2.2.2.2))⟩]
def graph_kept_1_jt0 (n : Nat) : List (JEnt (Sl)) := []
theorem graph_kept_1_L0_ok (n : Nat) {W : Wr} (hW : subW W 26 [5, 6, 12, 13, 14, 15, 16, 17, 18, 19, 20, 21, 22, 23, 24] = true) : LEntOK Tryz.prog (bodyOf Tryz.f63) W ⟨[0, 1, 0, 1, 1], [(1, .one (.adr)), (4, .one (.sl)), (10, .one (.sl)), (11, .one (.int .i64)), (12, .one (.int .i64))], actL1 [(1, .one (.adr)), (4, .one (.sl)), (10, .one (.sl)), (11, .one (.int .i64)), (12, .one (.int .i64))] [] [5, 6, 12, 13, 14, 15, 16, 17, 18, 19, 20, 21, 22, 23, 24] 0 (fun x => graph_kept_1_L0 n (x.1) (x.2.1) (x.2.2.1) (x.2.2.2.1) (x.2.2.2.2))⟩ :=
  loop1_ok (P := Tryz.prog) (body := (bodyOf Tryz.f63)) (c := child (codeAt (bodyOf Tryz.f63) [0, 1, 0, 1, 1]) 0) (p := [0, 1, 0, 1, 1]) (ls := [(1, .one (.adr)), (4, .one (.sl)), (10, .one (.sl)), (11, .one (.int .i64)), (12, .one (.int .i64))]) (ms := []) (id := 0) (nt := 26) (ws := [5, 6, 12, 13, 14, 15, 16, 17, 18, 19, 20, 21, 22, 23, 24]) (N := 400) (G := (fun n x => graph_kept_1_L0 n (x.1) (x.2.1) (x.2.2.1) (x.2.2.2.1) (x.2.2.2.2))) (T := fun n => ⟨lookC (graph_kept_1_ct n) (graph_kept_1_dt n), lookL (graph_kept_1_L0_lt n), lookJ (graph_kept_1_L0_jt0 n), graph_kept_1_dr⟩)
    (by kernel_rfl) (fun _ => by kernel_rfl) (fun n x => by kernel_rfl) n (fun m hm => (tabs_ok (P := Tryz.prog) (body := (bodyOf Tryz.f63)) (W := (26, some [5, 6, 12, 13, 14, 15, 16, 17, 18, 19, 20, 21, 22, 23, 24])) (cl := graph_kept_1_ct m) (dl := graph_kept_1_dt m) (ll := graph_kept_1_L0_lt m) (dr := graph_kept_1_dr) (fin := (finL1 [(1, .one (.adr)), (4, .one (.sl)), (10, .one (.sl)), (11, .one (.int .i64)), (12, .one (.int .i64))] [] 0 (fun x => graph_kept_1_L0 m (x.1) (x.2.1) (x.2.2.1) (x.2.2.2.1) (x.2.2.2.2)))) (N := 400) (js := graph_kept_1_L0_jt0 m) AllMo.nil AllOK.nil AllD.nil AllL.nil AllJ.nil)) hW
theorem graph_kept_1_ok (n : Nat) : FnOK Tryz.prog ⟨63, [.one (.sl), .one (.adr)], [.one (.sl)], fun x => graph_kept_1 n (x.1) (x.2)⟩ :=
  fn_ok (P := Tryz.prog) (e := ⟨63, [.one (.sl), .one (.adr)], [.one (.sl)], fun x => graph_kept_1 n (x.1) (x.2)⟩) (fn := Tryz.f63) (c := (bodyOf Tryz.f63)) (T := ⟨lookC (graph_kept_1_ct n) (graph_kept_1_dt n), lookL (graph_kept_1_lt n), lookJ (graph_kept_1_jt0 n), graph_kept_1_dr⟩) (N := 400) (ps := [(0, .one (.sl)), (1, .one (.adr))])
    (by kernel_rfl) (by kernel_rfl) (by kernel_rfl) (by kernel_rfl) (by kernel_rfl) (tabs_ok (P := Tryz.prog) (body := (bodyOf Tryz.f63)) (W := (26, none)) (cl := graph_kept_1_ct n) (dl := graph_kept_1_dt n) (ll := graph_kept_1_lt n) (dr := graph_kept_1_dr) (fin := (finF Tryz.prog Tryz.f63 [.one (.sl)])) (N := 400) (js := graph_kept_1_jt0 n) AllMo.nil AllOK.nil AllD.nil (AllL.cons (graph_kept_1_L0_ok n (by kernel_rfl)) AllL.nil) AllJ.nil) (fun x => by kernel_rfl)
def graph_kept_D59 (n : Nat) (x : Value) (a0 : Sl) : M (Sl) :=
  if isFn F_graph_kept_1 x then
    M.bind (asFn [.one (.adr)] x) fun (c : Addr) => graph_kept_1 n a0 (c)
  else M.fail
def graph_kept_D63 (n : Nat) (x : Value) (a0 : Sl) : M (Sl) :=
  if isFn F_graph_kept_1 x then
    M.bind (asFn [.one (.adr)] x) fun (c : Addr) => graph_kept_1 n a0 (c)
  else M.fail
def graph_kept_L1_B (G : Addr → Sl → Addr → Value → Sl → Int → Int → M (Unit)) (n : Nat) (a0 : Addr) (a1 : Sl) (a2 : Addr) (a3 : Value) (a4 : Sl) (a5 : Int) (a6 : Int) : M (Unit) :=
  if decide (a6 < a5) then
    M.bind (idxA a4 a6 5) fun x0 =>
    M.bind (ldLs [li, .str, .bool, .sl, .sl] x0) fun (x1 : Int × ByteArray × Bool × Sl × Sl) =>
    M.bind (newB none T_api_Node [vi 0, Value.string (ofBytes []), Value.bool false, vsl0, vsl0]) fun x2 =>
    M.bind (stN (adr x2) [vi x1.1, Value.string x1.2.1, Value.bool x1.2.2.1, vsl x1.2.2.2.1, vsl x1.2.2.2.2]) fun x3 =>
    M.bind (idxA a1 a6 1) fun x4 =>
    M.bind (ldL .bool x4) fun (x5 : Bool) =>
    if x5 then
      M.bind (ldL .sl ((adr x2).plus 3)) fun (x6 : Sl) =>
      M.bind (ldL .sl ((adr x2).plus 4)) fun (x7 : Sl) =>
      M.bind (chk [some ((adr x2).plus 4)] (graph_kept_D59 n a3 x6)) fun x8 =>
      M.bind (graph_kept_D63 n a3 x7) fun x9 =>
      M.bind (stN ((adr x2).plus 3) [vsl x8]) fun x10 =>
      M.bind (stN ((adr x2).plus 4) [vsl x9]) fun x11 =>
      M.bind (ldL .sl (a2.plus 0)) fun (x12 : Sl) =>
      M.bind (ldLs [li, .str, .bool, .sl, .sl] (adr x2)) fun (x13 : Int × ByteArray × Bool × Sl × Sl) =>
      M.bind (app false x12 5 T_api_Node 1 [vi x13.1, Value.string x13.2.1, Value.bool x13.2.2.1, vsl x13.2.2.2.1, vsl x13.2.2.2.2]) fun x14 =>
      M.bind (stN (a2.plus 0) [vsl x14]) fun x15 =>
      G a0 a1 a2 a3 a4 a5 (IntKind.i64.wrap (a6 + 1))
    else
      G a0 a1 a2 a3 a4 a5 (IntKind.i64.wrap (a6 + 1))
  else
    M.pure ()
def graph_kept_L1 : Nat → Addr → Sl → Addr → Value → Sl → Int → Int → M (Unit)
  | 0 => fun _ _ _ _ _ _ _ => M.fail
  | n + 1 => graph_kept_L1_B (graph_kept_L1 n) n
theorem graph_kept_L1_succ (n : Nat) : graph_kept_L1 (n + 1) = graph_kept_L1_B (graph_kept_L1 n) n := rfl
def graph_kept_L0_B (G : Addr → Addr → Sl → Addr → Int → Sl → Int → Int → M (Unit)) (n : Nat) (a0 : Addr) (a1 : Addr) (a2 : Sl) (a3 : Addr) (a4 : Int) (a5 : Sl) (a6 : Int) (a7 : Int) : M (Unit) :=
  if decide (a7 < a6) then
    M.bind (idxA a5 a7 1) fun x0 =>
    M.bind (ldL .bool x0) fun (x1 : Bool) =>
    M.bind (ldL .sl a3) fun (x2 : Sl) =>
    M.bind (idxA x2 a7 1) fun x3 =>
    M.bind (stN x3 [vi a4]) fun x4 =>
    if x1 then
      G a0 a1 a2 a3 (IntKind.i64.wrap (a4 + 1)) a5 a6 (IntKind.i64.wrap (a7 + 1))
    else
      G a0 a1 a2 a3 a4 a5 a6 (IntKind.i64.wrap (a7 + 1))
  else
    M.pure ()
def graph_kept_L0 : Nat → Addr → Addr → Sl → Addr → Int → Sl → Int → Int → M (Unit)
  | 0 => fun _ _ _ _ _ _ _ _ => M.fail
  | n + 1 => graph_kept_L0_B (graph_kept_L0 n) n
theorem graph_kept_L0_succ (n : Nat) : graph_kept_L0 (n + 1) = graph_kept_L0_B (graph_kept_L0 n) n := rfl
def graph_kept (n : Nat) (a0 : Sl × Int) : M (Sl × Int) :=
  M.bind (newB none T_api_Graph [vsl a0.1, vi a0.2]) fun x0 =>
  M.bind (newB none T_api_Graph [vsl0, vi 0]) fun x1 =>
  M.bind (ldL .sl ((adr x0).plus 0)) fun (x2 : Sl) =>
  M.bind (mkS none T_bool [Value.bool false] (↑x2.len : Int) (↑x2.len : Int)) fun x3 =>
  M.bind (ldLs [.sl, li] (adr x0)) fun (x4 : Sl × Int) =>
  M.bind (ldL (li) ((adr x0).plus 1)) fun (x5 : Int) =>
  M.bind (graph_reached n (x4.1, x4.2) x5 x3) fun x6 =>
  M.bind (ldL .sl ((adr x0).plus 0)) fun (x7 : Sl) =>
  M.bind (mkS none T_i64 [vi 0] (↑x7.len : Int) (↑x7.len : Int)) fun x8 =>
  M.bind (newB none T_sl_i64 [vsl0]) fun x9 =>
  M.bind (stN (adr x9) [vsl x8]) fun x10 =>
  M.bind (graph_kept_L0 n (adr x0) (adr x1) x3 (adr x9) 0 x3 (↑x3.len : Int) 0) fun x11 =>
  M.bind (ldL .sl (adr x9)) fun (x12 : Sl) =>
  M.bind (ldL (li) ((adr x0).plus 1)) fun (x13 : Int) =>
  M.bind (idxA x12 x13 1) fun x14 =>
  M.bind (ldL (li) x14) fun (x15 : Int) =>
  M.bind (newB none T_api_Graph [vsl0, vi 0]) fun x16 =>
  M.bind (stN (adr x16) [vsl0, vi x15]) fun x17 =>
  M.bind (ldL .sl ((adr x0).plus 0)) fun (x18 : Sl) =>
  M.bind (graph_kept_L1 n (adr x1) x3 (adr x16) (Value.func (Fn.func F_graph_kept_1) #[] #[Value.pointer (some (adr x9))]) x18 (↑x18.len : Int) 0) fun x19 =>
  M.bind (ldLs [.sl, li] (adr x16)) fun (x20 : Sl × Int) =>
  M.bind (stN (adr x1) [vsl x20.1, vi x20.2]) fun x21 =>
  M.bind (ldLs [.sl, li] (adr x1)) fun (x22 : Sl × Int) =>
  M.pure (x22.1, x22.2)
def graph_kept_dt (n : Nat) : List DEnt := [⟨59, [.one (.sl)], [.one (.sl)], fun x a => graph_kept_D59 n x (a)⟩,
  ⟨63, [.one (.sl)], [.one (.sl)], fun x a => graph_kept_D63 n x (a)⟩]
def graph_kept_ct (n : Nat) : List Ent := [⟨43, [.agg [.sl, .int .i64], .one (.int .i64), .one (.sl)], [], fun x => graph_reached n (x.1) (x.2.1) (x.2.2)⟩]
def graph_kept_dr (i : Nat) : Option (List (Nat × List Nat)) := cond (Nat.beq i 18) (some [(0, []), (1, []), (4, []), (5, []), (2, []), (6, []), (3, [6]), (8, []), (7, []), (9, []), (10, []), (11, [])]) (none)
def graph_kept_L1_lt (n : Nat) : List LEnt := []
def graph_kept_L1_jt0 (n : Nat) : List (JEnt (Unit)) := []
def graph_kept_L0_lt (n : Nat) : List LEnt := []
def graph_kept_L0_jt0 (n : Nat) : List (JEnt (Unit)) := []
def graph_kept_lt (n : Nat) : List LEnt := [⟨[0, 1, 0, 1, 1, 1, 1, 1], [(1, .one (.adr)), (2, .one (.adr)), (3, .one (.sl)), (4, .one (.adr)), (5, .one (.int .i64)), (25, .one (.sl)), (26, .one (.int .i64)), (27, .one (.int .i64))], actL1 [(1, .one (.adr)), (2, .one (.adr)), (3, .one (.sl)), (4, .one (.adr)), (5, .one (.int .i64)), (25, .one (.sl)), (26, .one (.int .i64)), (27, .one (.int .i64))] [] [5, 6, 7, 27, 28, 29, 30, 31, 32, 33, 34, 35, 36, 37, 38, 39] 0 (fun x => graph_kept_L0 n (x.1) (x.2.1) (x.2.2.1) (x.2.2.2.1) (x.2.2.2.2.1) (x.2.2.2.2.2.1) (x.2.2.2.2.2.2.1) (x.2.2.2.2.2.2.2))⟩,
  ⟨[0, 1, 0, 1, 1, 1, 1, 1, 1, 1, 1], [(2, .one (.adr)), (3, .one (.sl)), (8, .one (.adr)), (9, .one (.raw)), (48, .one (.sl)), (49, .one (.int .i64)), (50, .one (.int .i64))], actL1 [(2, .one (.adr)), (3, .one (.sl)), (8, .one (.adr)), (9, .one (.raw)), (48, .one (.sl)), (49, .one (.int .i64)), (50, .one (.int .i64))] [] [10, 11, 50, 51, 52, 53, 54, 55, 56, 57, 58, 59, 60, 61, 62, 63, 64, 65, 66, 67, 68, 69, 70, 71, 72, 73, 74, 75] 2 (fun x => graph_kept_L1 n (x.1) (x.2.1) (x.2.2.1) (x.2.2.2.1) (x.2.2.2.2.1) (x.2.2.2.2.2.1) (x.2.2.2.2.2.2))⟩]
def graph_kept_jt0 (n : Nat) : List (JEnt (Sl × Int)) := []
theorem graph_kept_L1_ok (n : Nat) {W : Wr} (hW : subW W 77 [10, 11, 50, 51, 52, 53, 54, 55, 56, 57, 58, 59, 60, 61, 62, 63, 64, 65, 66, 67, 68, 69, 70, 71, 72, 73, 74, 75] = true) : LEntOK Tryz.prog (bodyOf Tryz.f21) W ⟨[0, 1, 0, 1, 1, 1, 1, 1, 1, 1, 1], [(2, .one (.adr)), (3, .one (.sl)), (8, .one (.adr)), (9, .one (.raw)), (48, .one (.sl)), (49, .one (.int .i64)), (50, .one (.int .i64))], actL1 [(2, .one (.adr)), (3, .one (.sl)), (8, .one (.adr)), (9, .one (.raw)), (48, .one (.sl)), (49, .one (.int .i64)), (50, .one (.int .i64))] [] [10, 11, 50, 51, 52, 53, 54, 55, 56, 57, 58, 59, 60, 61, 62, 63, 64, 65, 66, 67, 68, 69, 70, 71, 72, 73, 74, 75] 2 (fun x => graph_kept_L1 n (x.1) (x.2.1) (x.2.2.1) (x.2.2.2.1) (x.2.2.2.2.1) (x.2.2.2.2.2.1) (x.2.2.2.2.2.2))⟩ :=
  loop1_ok (P := Tryz.prog) (body := (bodyOf Tryz.f21)) (c := child (codeAt (bodyOf Tryz.f21) [0, 1, 0, 1, 1, 1, 1, 1, 1, 1, 1]) 0) (p := [0, 1, 0, 1, 1, 1, 1, 1, 1, 1, 1]) (ls := [(2, .one (.adr)), (3, .one (.sl)), (8, .one (.adr)), (9, .one (.raw)), (48, .one (.sl)), (49, .one (.int .i64)), (50, .one (.int .i64))]) (ms := []) (id := 2) (nt := 77) (ws := [10, 11, 50, 51, 52, 53, 54, 55, 56, 57, 58, 59, 60, 61, 62, 63, 64, 65, 66, 67, 68, 69, 70, 71, 72, 73, 74, 75]) (N := 400) (G := (fun n x => graph_kept_L1 n (x.1) (x.2.1) (x.2.2.1) (x.2.2.2.1) (x.2.2.2.2.1) (x.2.2.2.2.2.1) (x.2.2.2.2.2.2))) (T := fun n => ⟨lookC (graph_kept_ct n) (graph_kept_dt n), lookL (graph_kept_L1_lt n), lookJ (graph_kept_L1_jt0 n), graph_kept_dr⟩)
    (by kernel_rfl) (fun _ => by kernel_rfl) (fun n x => by kernel_rfl) n (fun m hm => (tabs_ok (P := Tryz.prog) (body := (bodyOf Tryz.f21)) (W := (77, some [10, 11, 50, 51, 52, 53, 54, 55, 56, 57, 58, 59, 60, 61, 62, 63, 64, 65, 66, 67, 68, 69, 70, 71, 72, 73, 74, 75])) (cl := graph_kept_ct m) (dl := graph_kept_dt m) (ll := graph_kept_L1_lt m) (dr := graph_kept_dr) (fin := (finL1 [(2, .one (.adr)), (3, .one (.sl)), (8, .one (.adr)), (9, .one (.raw)), (48, .one (.sl)), (49, .one (.int .i64)), (50, .one (.int .i64))] [] 2 (fun x => graph_kept_L1 m (x.1) (x.2.1) (x.2.2.1) (x.2.2.2.1) (x.2.2.2.2.1) (x.2.2.2.2.2.1) (x.2.2.2.2.2.2)))) (N := 400) (js := graph_kept_L1_jt0 m) AllMo.nil (AllOK.cons (graph_reached_ok m) AllOK.nil) (AllD.cons (dent_ok (l := [⟨63, [.one (.adr)], fun a c => graph_kept_1 m (a) (c)⟩]) (AllT.cons (fun a c => callOK_cast (by kernel_rfl) ((graph_kept_1_ok m) (a, c))) AllT.nil) (fun x a => by kernel_rfl)) (AllD.cons (dent_ok (l := [⟨63, [.one (.adr)], fun a c => graph_kept_1 m (a) (c)⟩]) (AllT.cons (fun a c => callOK_cast (by kernel_rfl) ((graph_kept_1_ok m) (a, c))) AllT.nil) (fun x a => by kernel_rfl)) AllD.nil)) AllL.nil AllJ.nil)) hW
theorem graph_kept_L0_ok (n : Nat) {W : Wr} (hW : subW W 77 [5, 6, 7, 27, 28, 29, 30, 31, 32, 33, 34, 35, 36, 37, 38, 39] = true) : LEntOK Tryz.prog (bodyOf Tryz.f21) W ⟨[0, 1, 0, 1, 1, 1, 1, 1], [(1, .one (.adr)), (2, .one (.adr)), (3, .one (.sl)), (4, .one (.adr)), (5, .one (.int .i64)), (25, .one (.sl)), (26, .one (.int .i64)), (27, .one (.int .i64))], actL1 [(1, .one (.adr)), (2, .one (.adr)), (3, .one (.sl)), (4, .one (.adr)), (5, .one (.int .i64)), (25, .one (.sl)), (26, .one (.int .i64)), (27, .one (.int .i64))] [] [5, 6, 7, 27, 28, 29, 30, 31, 32, 33, 34, 35, 36, 37, 38, 39] 0 (fun x => graph_kept_L0 n (x.1) (x.2.1) (x.2.2.1) (x.2.2.2.1) (x.2.2.2.2.1) (x.2.2.2.2.2.1) (x.2.2.2.2.2.2.1) (x.2.2.2.2.2.2.2))⟩ :=
  loop1_ok (P := Tryz.prog) (body := (bodyOf Tryz.f21)) (c := child (codeAt (bodyOf Tryz.f21) [0, 1, 0, 1, 1, 1, 1, 1]) 0) (p := [0, 1, 0, 1, 1, 1, 1, 1]) (ls := [(1, .one (.adr)), (2, .one (.adr)), (3, .one (.sl)), (4, .one (.adr)), (5, .one (.int .i64)), (25, .one (.sl)), (26, .one (.int .i64)), (27, .one (.int .i64))]) (ms := []) (id := 0) (nt := 77) (ws := [5, 6, 7, 27, 28, 29, 30, 31, 32, 33, 34, 35, 36, 37, 38, 39]) (N := 400) (G := (fun n x => graph_kept_L0 n (x.1) (x.2.1) (x.2.2.1) (x.2.2.2.1) (x.2.2.2.2.1) (x.2.2.2.2.2.1) (x.2.2.2.2.2.2.1) (x.2.2.2.2.2.2.2))) (T := fun n => ⟨lookC (graph_kept_ct n) (graph_kept_dt n), lookL (graph_kept_L0_lt n), lookJ (graph_kept_L0_jt0 n), graph_kept_dr⟩)
    (by kernel_rfl) (fun _ => by kernel_rfl) (fun n x => by kernel_rfl) n (fun m hm => (tabs_ok (P := Tryz.prog) (body := (bodyOf Tryz.f21)) (W := (77, some [5, 6, 7, 27, 28, 29, 30, 31, 32, 33, 34, 35, 36, 37, 38, 39])) (cl := graph_kept_ct m) (dl := graph_kept_dt m) (ll := graph_kept_L0_lt m) (dr := graph_kept_dr) (fin := (finL1 [(1, .one (.adr)), (2, .one (.adr)), (3, .one (.sl)), (4, .one (.adr)), (5, .one (.int .i64)), (25, .one (.sl)), (26, .one (.int .i64)), (27, .one (.int .i64))] [] 0 (fun x => graph_kept_L0 m (x.1) (x.2.1) (x.2.2.1) (x.2.2.2.1) (x.2.2.2.2.1) (x.2.2.2.2.2.1) (x.2.2.2.2.2.2.1) (x.2.2.2.2.2.2.2)))) (N := 400) (js := graph_kept_L0_jt0 m) AllMo.nil (AllOK.cons (graph_reached_ok m) AllOK.nil) (AllD.cons (dent_ok (l := [⟨63, [.one (.adr)], fun a c => graph_kept_1 m (a) (c)⟩]) (AllT.cons (fun a c => callOK_cast (by kernel_rfl) ((graph_kept_1_ok m) (a, c))) AllT.nil) (fun x a => by kernel_rfl)) (AllD.cons (dent_ok (l := [⟨63, [.one (.adr)], fun a c => graph_kept_1 m (a) (c)⟩]) (AllT.cons (fun a c => callOK_cast (by kernel_rfl) ((graph_kept_1_ok m) (a, c))) AllT.nil) (fun x a => by kernel_rfl)) AllD.nil)) AllL.nil AllJ.nil)) hW
theorem graph_kept_ok (n : Nat) : FnOK Tryz.prog ⟨21, [.agg [.sl, .int .i64]], [.agg [.sl, .int .i64]], fun x => graph_kept n (x)⟩ :=
  fn_ok (P := Tryz.prog) (e := ⟨21, [.agg [.sl, .int .i64]], [.agg [.sl, .int .i64]], fun x => graph_kept n (x)⟩) (fn := Tryz.f21) (c := (bodyOf Tryz.f21)) (T := ⟨lookC (graph_kept_ct n) (graph_kept_dt n), lookL (graph_kept_lt n), lookJ (graph_kept_jt0 n), graph_kept_dr⟩) (N := 400) (ps := [(0, .agg [.sl, .int .i64])])
    (by kernel_rfl) (by kernel_rfl) (by kernel_rfl) (by kernel_rfl) (by kernel_rfl) (tabs_ok (P := Tryz.prog) (body := (bodyOf Tryz.f21)) (W := (77, none)) (cl := graph_kept_ct n) (dl := graph_kept_dt n) (ll := graph_kept_lt n) (dr := graph_kept_dr) (fin := (finF Tryz.prog Tryz.f21 [.agg [.sl, .int .i64]])) (N := 400) (js := graph_kept_jt0 n) AllMo.nil (AllOK.cons (graph_reached_ok n) AllOK.nil) (AllD.cons (dent_ok (l := [⟨63, [.one (.adr)], fun a c => graph_kept_1 n (a) (c)⟩]) (AllT.cons (fun a c => callOK_cast (by kernel_rfl) ((graph_kept_1_ok n) (a, c))) AllT.nil) (fun x a => by kernel_rfl)) (AllD.cons (dent_ok (l := [⟨63, [.one (.adr)], fun a c => graph_kept_1 n (a) (c)⟩]) (AllT.cons (fun a c => callOK_cast (by kernel_rfl) ((graph_kept_1_ok n) (a, c))) AllT.nil) (fun x a => by kernel_rfl)) AllD.nil)) (AllL.cons (graph_kept_L0_ok n (by kernel_rfl)) (AllL.cons (graph_kept_L1_ok n (by kernel_rfl)) AllL.nil)) AllJ.nil) (fun x => by kernel_rfl)
def graph_Sub (n : Nat) (a0 : Sl × Int) (a1 : Int) : M ((Sl × Int) × Int) :=
  M.bind (newB none T_api_Graph [vsl a0.1, vi a0.2]) fun x0 =>
  M.bind (newB none T_api_Graph [vsl0, vi 0]) fun x1 =>
  M.bind (ldLs [.sl, li] (adr x0)) fun (x2 : Sl × Int) =>
  M.bind (graph_Check n (x2.1, x2.2)) fun x3 =>
  if !decide (x3 = 0) then
    M.bind (stN (adr x1) [vsl0, vi 0]) fun x4 =>
    M.bind (ldLs [.sl, li] (adr x1)) fun (x5 : Sl × Int) =>
    M.pure ((x5.1, x5.2), 3)
  else
    if decide (a1 < 0) then
      M.bind (stN (adr x1) [vsl0, vi 0]) fun x4 =>
      M.bind (ldLs [.sl, li] (adr x1)) fun (x5 : Sl × Int) =>
      M.pure ((x5.1, x5.2), 2)
    else
      M.bind (ldL .sl ((adr x0).plus 0)) fun (x4 : Sl) =>
      if decide ((↑x4.len : Int) ≤ a1) then
        M.bind (stN (adr x1) [vsl0, vi 0]) fun x5 =>
        M.bind (ldLs [.sl, li] (adr x1)) fun (x6 : Sl × Int) =>
        M.pure ((x6.1, x6.2), 2)
      else
        M.bind (ldL .sl ((adr x0).plus 0)) fun (x5 : Sl) =>
        M.bind (graph_kept n (x5, a1)) fun x6 =>
        M.bind (stN (adr x1) [vsl x6.1, vi x6.2]) fun x7 =>
        M.bind (ldLs [.sl, li] (adr x1)) fun (x8 : Sl × Int) =>
        M.pure ((x8.1, x8.2), 0)
def graph_Sub_dt (n : Nat) : List DEnt := []
def graph_Sub_ct (n : Nat) : List Ent := [⟨15, [.agg [.sl, .int .i64]], [.one (.int .i64)], fun x => graph_Check n (x)⟩,
  ⟨21, [.agg [.sl, .int .i64]], [.agg [.sl, .int .i64]], fun x => graph_kept n (x)⟩]
def graph_Sub_dr (i : Nat) : Option (List (Nat × List Nat)) := none
def graph_Sub_lt (n : Nat) : List LEnt := []
def graph_Sub_jt0 (n : Nat) : List (JEnt ((Sl × Int) × Int)) := []
theorem graph_Sub_ok (n : Nat) : FnOK Tryz.prog ⟨9, [.agg [.sl, .int .i64], .one (.int .i64)], [.agg [.sl, .int .i64], .one (.int .i64)], fun x => graph_Sub n (x.1) (x.2)⟩ :=
  fn_ok (P := Tryz.prog) (e := ⟨9, [.agg [.sl, .int .i64], .one (.int .i64)], [.agg [.sl, .int .i64], .one (.int .i64)], fun x => graph_Sub n (x.1) (x.2)⟩) (fn := Tryz.f9) (c := (bodyOf Tryz.f9)) (T := ⟨lookC (graph_Sub_ct n) (graph_Sub_dt n), lookL (graph_Sub_lt n), lookJ (graph_Sub_jt0 n), graph_Sub_dr⟩) (N := 400) (ps := [(0, .agg [.sl, .int .i64]), (1, .one (.int .i64))])
    (by kernel_rfl) (by kernel_rfl) (by kernel_rfl) (by kernel_rfl) (by kernel_rfl) (tabs_ok (P := Tryz.prog) (body := (bodyOf Tryz.f9)) (W := (25, none)) (cl := graph_Sub_ct n) (dl := graph_Sub_dt n) (ll := graph_Sub_lt n) (dr := graph_Sub_dr) (fin := (finF Tryz.prog Tryz.f9 [.agg [.sl, .int .i64], .one (.int .i64)])) (N := 400) (js := graph_Sub_jt0 n) AllMo.nil (AllOK.cons (graph_Check_ok n) (AllOK.cons (graph_kept_ok n) AllOK.nil)) AllD.nil AllL.nil AllJ.nil) (fun x => by kernel_rfl)
def rosettaref10_Ints_L0_B (G : Sl → Sl → Int → M ((Unit) ⊕ (Bool))) (n : Nat) (a0 : Sl) (a1 : Sl) (a2 : Int) : M ((Unit) ⊕ (Bool)) :=
  if decide (a2 < (↑a0.len : Int)) then
    M.bind (idxA a0 a2 1) fun x0 =>
    M.bind (idxA a1 a2 1) fun x1 =>
    M.bind (ldL (li) x0) fun (x2 : Int) =>
    M.bind (ldL (li) x1) fun (x3 : Int) =>
    if !decide (x2 = x3) then
      M.pure (Sum.inr false)
    else
      G a0 a1 (IntKind.i64.wrap (a2 + 1))
  else
    M.pure (Sum.inl ())
def rosettaref10_Ints_L0 : Nat → Sl → Sl → Int → M ((Unit) ⊕ (Bool))
  | 0 => fun _ _ _ => M.fail
  | n + 1 => rosettaref10_Ints_L0_B (rosettaref10_Ints_L0 n) n
theorem rosettaref10_Ints_L0_succ (n : Nat) : rosettaref10_Ints_L0 (n + 1) = rosettaref10_Ints_L0_B (rosettaref10_Ints_L0 n) n := rfl
def rosettaref10_Ints (n : Nat) (a0 : Sl) (a1 : Sl) : M (Bool) :=
  if !decide ((↑a0.len : Int) = (↑a1.len : Int)) then
    M.pure false
  else
    M.bind (rosettaref10_Ints_L0 n a0 a1 0) (sumElim (fun x0 =>
      M.pure true)
    (fun x0 =>
      M.pure x0))
def rosettaref10_Ints_dt (n : Nat) : List DEnt := []
def rosettaref10_Ints_ct (n : Nat) : List Ent := []
def rosettaref10_Ints_dr (i : Nat) : Option (List (Nat × List Nat)) := cond (Nat.beq i 6) (some [(0, []), (1, []), (2, []), (4, []), (5, []), (6, []), (3, []), (7, []), (8, [])]) (none)
def rosettaref10_Ints_L0_lt (n : Nat) : List LEnt := []
def rosettaref10_Ints_L0_jt0 (n : Nat) : List (JEnt ((Unit) ⊕ (Bool))) := []
def rosettaref10_Ints_lt (n : Nat) : List LEnt := [⟨[0, 1, 0, 1, 1], [(0, .one (.sl)), (1, .one (.sl)), (5, .one (.int .i64))], actL2 [(0, .one (.sl)), (1, .one (.sl)), (5, .one (.int .i64))] [] [(4, .one (.bool))] [4, 5, 11, 12, 13, 14, 15, 16, 17, 18, 19, 20, 21, 22, 23, 24, 25] 0 .ret (fun x => rosettaref10_Ints_L0 n (x.1) (x.2.1) (x.2.2))⟩]
def rosettaref10_Ints_jt0 (n : Nat) : List (JEnt (Bool)) := []
theorem rosettaref10_Ints_L0_ok (n : Nat) {W : Wr} (hW : subW W 26 [4, 5, 11, 12, 13, 14, 15, 16, 17, 18, 19, 20, 21, 22, 23, 24, 25] = true) : LEntOK Tryz.prog (bodyOf Tryz.f22) W ⟨[0, 1, 0, 1, 1], [(0, .one (.sl)), (1, .one (.sl)), (5, .one (.int .i64))], actL2 [(0, .one (.sl)), (1, .one (.sl)), (5, .one (.int .i64))] [] [(4, .one (.bool))] [4, 5, 11, 12, 13, 14, 15, 16, 17, 18, 19, 20, 21, 22, 23, 24, 25] 0 .ret (fun x => rosettaref10_Ints_L0 n (x.1) (x.2.1) (x.2.2))⟩ :=
  loop2_ok (P := Tryz.prog) (body := (bodyOf Tryz.f22)) (c := child (codeAt (bodyOf Tryz.f22) [0, 1, 0, 1, 1]) 0) (p := [0, 1, 0, 1, 1]) (ls := [(0, .one (.sl)), (1, .one (.sl)), (5, .one (.int .i64))]) (ms := []) (rs := [(4, .one (.bool))]) (id := 0) (e2 := .ret) (nt := 26) (ws := [4, 5, 11, 12, 13, 14, 15, 16, 17, 18, 19, 20, 21, 22, 23, 24, 25]) (N := 400) (G := (fun n x => rosettaref10_Ints_L0 n (x.1) (x.2.1) (x.2.2))) (T := fun n => ⟨lookC (rosettaref10_Ints_ct n) (rosettaref10_Ints_dt n), lookL (rosettaref10_Ints_L0_lt n), lookJ (rosettaref10_Ints_L0_jt0 n), rosettaref10_Ints_dr⟩)
    (by kernel_rfl) (fun _ => by kernel_rfl) (fun n x => by kernel_rfl) n (fun m hm => (tabs_ok (P := Tryz.prog) (body := (bodyOf Tryz.f22)) (W := (26, some [4, 5, 11, 12, 13, 14, 15, 16, 17, 18, 19, 20, 21, 22, 23, 24, 25])) (cl := rosettaref10_Ints_ct m) (dl := rosettaref10_Ints_dt m) (ll := rosettaref10_Ints_L0_lt m) (dr := rosettaref10_Ints_dr) (fin := (finL2 [(0, .one (.sl)), (1, .one (.sl)), (5, .one (.int .i64))] [] [(4, .one (.bool))] 0 .ret (fun x => rosettaref10_Ints_L0 m (x.1) (x.2.1) (x.2.2)))) (N := 400) (js := rosettaref10_Ints_L0_jt0 m) AllMo.nil AllOK.nil AllD.nil AllL.nil AllJ.nil)) hW
theorem rosettaref10_Ints_ok (n : Nat) : FnOK Tryz.prog ⟨22, [.one (.sl), .one (.sl)], [.one (.bool)], fun x => rosettaref10_Ints n (x.1) (x.2)⟩ :=
  fn_ok (P := Tryz.prog) (e := ⟨22, [.one (.sl), .one (.sl)], [.one (.bool)], fun x => rosettaref10_Ints n (x.1) (x.2)⟩) (fn := Tryz.f22) (c := (bodyOf Tryz.f22)) (T := ⟨lookC (rosettaref10_Ints_ct n) (rosettaref10_Ints_dt n), lookL (rosettaref10_Ints_lt n), lookJ (rosettaref10_Ints_jt0 n), rosettaref10_Ints_dr⟩) (N := 400) (ps := [(0, .one (.sl)), (1, .one (.sl))])
    (by kernel_rfl) (by kernel_rfl) (by kernel_rfl) (by kernel_rfl) (by kernel_rfl) (tabs_ok (P := Tryz.prog) (body := (bodyOf Tryz.f22)) (W := (26, none)) (cl := rosettaref10_Ints_ct n) (dl := rosettaref10_Ints_dt n) (ll := rosettaref10_Ints_lt n) (dr := rosettaref10_Ints_dr) (fin := (finF Tryz.prog Tryz.f22 [.one (.bool)])) (N := 400) (js := rosettaref10_Ints_jt0 n) AllMo.nil AllOK.nil AllD.nil (AllL.cons (rosettaref10_Ints_L0_ok n (by kernel_rfl)) AllL.nil) AllJ.nil) (fun x => by kernel_rfl)
def rosettaref10_Identical_L0_B (G : Addr → Addr → Int → M ((Unit) ⊕ (Bool))) (n : Nat) (a0 : Addr) (a1 : Addr) (a2 : Int) : M ((Unit) ⊕ (Bool)) :=
  M.bind (ldL .sl (a0.plus 0)) fun (x0 : Sl) =>
  if decide (a2 < (↑x0.len : Int)) then
    M.bind (reserve 14) fun x1 =>
    M.bind (ldL .sl (a0.plus 0)) fun (x2 : Sl) =>
    M.bind (idxA x2 a2 5) fun x3 =>
    M.bind (ldLs [li, .str, .bool, .sl, .sl] x3) fun (x4 : Int × ByteArray × Bool × Sl × Sl) =>
    M.bind (ldL .sl (a1.plus 0)) fun (x5 : Sl) =>
    M.bind (idxA x5 a2 5) fun x6 =>
    M.bind (ldLs [li, .str, .bool, .sl, .sl] x6) fun (x7 : Int × ByteArray × Bool × Sl × Sl) =>
    M.bind (newB (some (x1 + 10)) T_api_Node [vi 0, Value.string (ofBytes []), Value.bool false, vsl0, vsl0]) fun x8 =>
    M.bind (newB (some (x1 + 11)) T_api_Node [vi 0, Value.string (ofBytes []), Value.bool false, vsl0, vsl0]) fun x9 =>
    M.bind (chk [some (a1.plus 0), some x6] (stN (adr x8) [vi x4.1, Value.string x4.2.1, Value.bool x4.2.2.1, vsl x4.2.2.2.1, vsl x4.2.2.2.2])) fun x10 =>
    M.bind (stN (adr x9) [vi x7.1, Value.string x7.2.1, Value.bool x7.2.2.1, vsl x7.2.2.2.1, vsl x7.2.2.2.2]) fun x11 =>
    M.bind (ldL (li) ((adr x8).plus 0)) fun (x12 : Int) =>
    M.bind (ldL (li) ((adr x9).plus 0)) fun (x13 : Int) =>
    if !decide (x12 = x13) then
      M.pure (Sum.inr false)
    else
      M.bind (ldL .str ((adr x8).plus 1)) fun (x14 : ByteArray) =>
      M.bind (ldL .str ((adr x9).plus 1)) fun (x15 : ByteArray) =>
      if !eqS x14 x15 then
        M.pure (Sum.inr false)
      else
        M.bind (ldL .bool ((adr x8).plus 2)) fun (x16 : Bool) =>
        M.bind (ldL .bool ((adr x9).plus 2)) fun (x17 : Bool) =>
        if !x16 == x17 then
          M.pure (Sum.inr false)
        else
          M.bind (ldL .sl ((adr x8).plus 3)) fun (x18 : Sl) =>
          M.bind (ldL .sl ((adr x9).plus 3)) fun (x19 : Sl) =>
          M.bind (rosettaref10_Ints n x18 x19) fun x20 =>
          if !x20 then
            M.pure (Sum.inr false)
          else
            M.bind (ldL .sl ((adr x8).plus 4)) fun (x21 : Sl) =>
            M.bind (ldL .sl ((adr x9).plus 4)) fun (x22 : Sl) =>
            M.bind (rosettaref10_Ints n x21 x22) fun x23 =>
            if !x23 then
              M.pure (Sum.inr false)
            else
              G a0 a1 (IntKind.i64.wrap (a2 + 1))
  else
    M.pure (Sum.inl ())
def rosettaref10_Identical_L0 : Nat → Addr → Addr → Int → M ((Unit) ⊕ (Bool))
  | 0 => fun _ _ _ => M.fail
  | n + 1 => rosettaref10_Identical_L0_B (rosettaref10_Identical_L0 n) n
theorem rosettaref10_Identical_L0_succ (n : Nat) : rosettaref10_Identical_L0 (n + 1) = rosettaref10_Identical_L0_B (rosettaref10_Identical_L0 n) n := rfl
def rosettaref10_Identical (n : Nat) (a0 : Sl × Int) (a1 : Sl × Int) : M (Bool) :=
  M.bind (newB none T_api_Graph [vsl a0.1, vi a0.2]) fun x0 =>
  M.bind (newB none T_api_Graph [vsl a1.1, vi a1.2]) fun x1 =>
  M.bind (ldL .sl ((adr x0).plus 0)) fun (x2 : Sl) =>
  M.bind (ldL .sl ((adr x1).plus 0)) fun (x3 : Sl) =>
  if !decide ((↑x2.len : Int) = (↑x3.len : Int)) then
    M.pure false
  else
    M.bind (ldL (li) ((adr x0).plus 1)) fun (x4 : Int) =>
    M.bind (ldL (li) ((adr x1).plus 1)) fun (x5 : Int) =>
    if !decide (x4 = x5) then
      M.pure false
    else
      M.bind (rosettaref10_Identical_L0 n (adr x0) (adr x1) 0) (sumElim (fun x6 =>
        M.pure true)
      (fun x6 =>
        M.pure x6))
def rosettaref10_Identical_dt (n : Nat) : List DEnt := []
def rosettaref10_Identical_ct (n : Nat) : List Ent := [⟨22, [.one (.sl), .one (.sl)], [.one (.bool)], fun x => rosettaref10_Ints n (x.1) (x.2)⟩]
def rosettaref10_Identical_dr (i : Nat) : Option (List (Nat × List Nat)) := cond (Nat.beq i 6) (some [(0, []), (2, []), (5, []), (7, []), (1, []), (3, []), (4, []), (6, []), (8, []), (9, []), (10, []), (11, []), (12, [6, 9]), (13, [])]) (none)
def rosettaref10_Identical_L0_lt (n : Nat) : List LEnt := []
def rosettaref10_Identical_L0_jt0 (n : Nat) : List (JEnt ((Unit) ⊕ (Bool))) := []
def rosettaref10_Identical_lt (n : Nat) : List LEnt := [⟨[0, 1, 0, 1, 1], [(2, .one (.adr)), (3, .one (.adr)), (5, .one (.int .i64))], actL2 [(2, .one (.adr)), (3, .one (.adr)), (5, .one (.int .i64))] [] [(4, .one (.bool))] [4, 5, 6, 7, 22, 23, 24, 25, 26, 27, 28, 29, 30, 31, 32, 33, 34, 35, 36, 37, 38, 39, 40, 41, 42, 43, 44, 45, 46, 47, 48, 49, 50, 51, 52, 53, 54, 55, 56, 57, 58, 59, 60, 61, 62, 63, 64, 65, 66, 67, 68, 69, 70, 71, 72, 73] 0 .ret (fun x => rosettaref10_Identical_L0 n (x.1) (x.2.1) (x.2.2))⟩]
def rosettaref10_Identical_jt0 (n : Nat) : List (JEnt (Bool)) := []
theorem rosettaref10_Identical_L0_ok (n : Nat) {W : Wr} (hW : subW W 74 [4, 5, 6, 7, 22, 23, 24, 25, 26, 27, 28, 29, 30, 31, 32, 33, 34, 35, 36, 37, 38, 39, 40, 41, 42, 43, 44, 45, 46, 47, 48, 49, 50, 51, 52, 53, 54, 55, 56, 57, 58, 59, 60, 61, 62, 63, 64, 65, 66, 67, 68, 69, 70, 71, 72, 73] = true) : LEntOK Tryz.prog (bodyOf Tryz.f10) W ⟨[0, 1, 0, 1, 1], [(2, .one (.adr)), (3, .one (.adr)), (5, .one (.int .i64))], actL2 [(2, .one (.adr)), (3, .one (.adr)), (5, .one (.int .i64))] [] [(4, .one (.bool))] [4, 5, 6, 7, 22, 23, 24, 25, 26, 27, 28, 29, 30, 31, 32, 33, 34, 35, 36, 37, 38, 39, 40, 41, 42, 43, 44, 45, 46, 47, 48, 49, 50, 51, 52, 53, 54, 55, 56, 57, 58, 59, 60, 61, 62, 63, 64, 65, 66, 67, 68, 69, 70, 71, 72, 73] 0 .ret (fun x => rosettaref10_Identical_L0 n (x.1) (x.2.1) (x.2.2))⟩ :=
  loop2_ok (P := Tryz.prog) (body := (bodyOf Tryz.f10)) (c := child (codeAt (bodyOf Tryz.f10) [0, 1, 0, 1, 1]) 0) (p := [0, 1, 0, 1, 1]) (ls := [(2, .one (.adr)), (3, .one (.adr)), (5, .one (.int .i64))]) (ms := []) (rs := [(4, .one (.bool))]) (id := 0) (e2 := .ret) (nt := 74) (ws := [4, 5, 6, 7, 22, 23, 24, 25, 26, 27, 28, 29, 30, 31, 32, 33, 34, 35, 36, 37, 38, 39, 40, 41, 42, 43, 44, 45, 46, 47, 48, 49, 50, 51, 52, 53, 54, 55, 56, 57, 58, 59, 60, 61, 62, 63, 64, 65, 66, 67, 68, 69, 70, 71, 72, 73]) (N := 400) (G := (fun n x => rosettaref10_Identical_L0 n (x.1) (x.2.1) (x.2.2))) (T := fun n => ⟨lookC (rosettaref10_Identical_ct n) (rosettaref10_Identical_dt n), lookL (rosettaref10_Identical_L0_lt n), lookJ (rosettaref10_Identical_L0_jt0 n), rosettaref10_Identical_dr⟩)
    (by kernel_rfl) (fun _ => by kernel_rfl) (fun n x => by kernel_rfl) n (fun m hm => (tabs_ok (P := Tryz.prog) (body := (bodyOf Tryz.f10)) (W := (74, some [4, 5, 6, 7, 22, 23, 24, 25, 26, 27, 28, 29, 30, 31, 32, 33, 34, 35, 36, 37, 38, 39, 40, 41, 42, 43, 44, 45, 46, 47, 48, 49, 50, 51, 52, 53, 54, 55, 56, 57, 58, 59, 60, 61, 62, 63, 64, 65, 66, 67, 68, 69, 70, 71, 72, 73])) (cl := rosettaref10_Identical_ct m) (dl := rosettaref10_Identical_dt m) (ll := rosettaref10_Identical_L0_lt m) (dr := rosettaref10_Identical_dr) (fin := (finL2 [(2, .one (.adr)), (3, .one (.adr)), (5, .one (.int .i64))] [] [(4, .one (.bool))] 0 .ret (fun x => rosettaref10_Identical_L0 m (x.1) (x.2.1) (x.2.2)))) (N := 400) (js := rosettaref10_Identical_L0_jt0 m) AllMo.nil (AllOK.cons (rosettaref10_Ints_ok m) AllOK.nil) AllD.nil AllL.nil AllJ.nil)) hW
theorem rosettaref10_Identical_ok (n : Nat) : FnOK Tryz.prog ⟨10, [.agg [.sl, .int .i64], .agg [.sl, .int .i64]], [.one (.bool)], fun x => rosettaref10_Identical n (x.1) (x.2)⟩ :=
  fn_ok (P := Tryz.prog) (e := ⟨10, [.agg [.sl, .int .i64], .agg [.sl, .int .i64]], [.one (.bool)], fun x => rosettaref10_Identical n (x.1) (x.2)⟩) (fn := Tryz.f10) (c := (bodyOf Tryz.f10)) (T := ⟨lookC (rosettaref10_Identical_ct n) (rosettaref10_Identical_dt n), lookL (rosettaref10_Identical_lt n), lookJ (rosettaref10_Identical_jt0 n), rosettaref10_Identical_dr⟩) (N := 400) (ps := [(0, .agg [.sl, .int .i64]), (1, .agg [.sl, .int .i64])])
    (by kernel_rfl) (by kernel_rfl) (by kernel_rfl) (by kernel_rfl) (by kernel_rfl) (tabs_ok (P := Tryz.prog) (body := (bodyOf Tryz.f10)) (W := (74, none)) (cl := rosettaref10_Identical_ct n) (dl := rosettaref10_Identical_dt n) (ll := rosettaref10_Identical_lt n) (dr := rosettaref10_Identical_dr) (fin := (finF Tryz.prog Tryz.f10 [.one (.bool)])) (N := 400) (js := rosettaref10_Identical_jt0 n) AllMo.nil (AllOK.cons (rosettaref10_Ints_ok n) AllOK.nil) AllD.nil (AllL.cons (rosettaref10_Identical_L0_ok n (by kernel_rfl)) AllL.nil) AllJ.nil) (fun x => by kernel_rfl)
def rosettalaw34_BencodeSpans_L0_J0_B (G : ByteArray → Addr → Int → Int → M ((Unit) ⊕ (Bool))) (n : Nat) (a0 : ByteArray) (a1 : Addr) (a2 : Int) (a3 : Int) : M ((Unit) ⊕ (Bool)) :=
  M.bind (ldL .sl (a1.plus 4)) fun (x0 : Sl) =>
  M.bind (idxA x0 a3 9) fun x1 =>
  M.bind (ldLs [li, li, li, li, li, li, li, .bool, .bool] x1) fun (x2 : Int × Int × Int × Int × Int × Int × Int × Bool × Bool) =>
  M.bind (newB none T_api_Span [vi 0, vi 0, vi 0, vi 0, vi 0, vi 0, vi 0, Value.bool false, Value.bool false]) fun x3 =>
  M.bind (stN (adr x3) [vi x2.1, vi x2.2.1, vi x2.2.2.1, vi x2.2.2.2.1, vi x2.2.2.2.2.1, vi x2.2.2.2.2.2.1, vi x2.2.2.2.2.2.2.1, Value.bool x2.2.2.2.2.2.2.2.1, Value.bool x2.2.2.2.2.2.2.2.2]) fun x4 =>
  M.bind (ldL (li) ((adr x3).plus 3)) fun (x5 : Int) =>
  M.bind (ldL (li) ((adr x3).plus 4)) fun (x6 : Int) =>
  M.bind (sliceS a0 x5 x6) fun x7 =>
  M.bind (bencode_Parse n x7) fun x8 =>
  M.bind (newB none T_api_Doc [vi 0, Value.string (ofBytes []), vsl0, vi 0, vsl0, vsl0]) fun x9 =>
  M.bind (stN (adr x9) [vi x8.1.1, Value.string x8.1.2.1, vsl x8.1.2.2.1, vi x8.1.2.2.2.1, vsl x8.1.2.2.2.2.1, vsl x8.1.2.2.2.2.2]) fun x10 =>
  M.bind (ldLs [.sl, li] (a1.plus 2)) fun (x11 : Sl × Int) =>
  M.bind (ldL (li) ((adr x3).plus 0)) fun (x12 : Int) =>
  M.bind (graph_Sub n (x11.1, x11.2) x12) fun x13 =>
  M.bind (newB none T_api_Graph [vsl0, vi 0]) fun x14 =>
  M.bind (stN (adr x14) [vsl x13.1.1, vi x13.1.2]) fun x15 =>
  if !decide (x8.2.2 = 0) then
    M.pure (Sum.inr false)
  else
    if !decide (x13.2 = 0) then
      M.pure (Sum.inr false)
    else
      M.bind (ldLs [.sl, li] ((adr x9).plus 2)) fun (x16 : Sl × Int) =>
      M.bind (ldLs [.sl, li] (adr x14)) fun (x17 : Sl × Int) =>
      M.bind (rosettaref10_Identical n (x16.1, x16.2) (x17.1, x17.2)) fun x18 =>
      if !x18 then
        M.pure (Sum.inr false)
      else
        M.bind (ldL .bool ((adr x3).plus 8)) fun (x19 : Bool) =>
        if !x19 then
          M.pure (Sum.inr false)
        else
          M.bind (ldL .bool ((adr x3).plus 7)) fun (x20 : Bool) =>
          if x20 then
            M.pure (Sum.inr false)
          else
            G a0 a1 a2 (IntKind.i64.wrap (a3 + 1))
def rosettalaw34_BencodeSpans_L0_B (G : ByteArray → Addr → Int → Int → M ((Unit) ⊕ (Bool))) (n : Nat) (a0 : ByteArray) (a1 : Addr) (a2 : Int) (a3 : Int) : M ((Unit) ⊕ (Bool)) :=
  if decide (a2 = 0) then
    M.bind (ldL .sl (a1.plus 4)) fun (x0 : Sl) =>
    if decide (a3 < (↑x0.len : Int)) then
      rosettalaw34_BencodeSpans_L0_J0_B G n a0 a1 a2 a3
    else
      M.pure (Sum.inl ())
  else
    M.pure (Sum.inl ())
def rosettalaw34_BencodeSpans_L0 : Nat → ByteArray → Addr → Int → Int → M ((Unit) ⊕ (Bool))
  | 0 => fun _ _ _ _ => M.fail
  | n + 1 => rosettalaw34_BencodeSpans_L0_B (rosettalaw34_BencodeSpans_L0 n) n
theorem rosettalaw34_BencodeSpans_L0_succ (n : Nat) : rosettalaw34_BencodeSpans_L0 (n + 1) = rosettalaw34_BencodeSpans_L0_B (rosettalaw34_BencodeSpans_L0 n) n := rfl
def rosettalaw34_BencodeSpans_L0_J0 (n : Nat) (a0 : ByteArray) (a1 : Addr) (a2 : Int) (a3 : Int) : M ((Unit) ⊕ (Bool)) := rosettalaw34_BencodeSpans_L0_J0_B (rosettalaw34_BencodeSpans_L0 n) n a0 a1 a2 a3
def rosettalaw34_BencodeSpans (n : Nat) (a0 : ByteArray) : M (Bool) :=
  if decide (200 < (↑a0.size : Int)) then
    M.bind (rosettalaw34_awake n) fun x0 =>
    M.pure x0
  else
    M.bind (bencode_Parse n a0) fun x0 =>
    M.bind (newB none T_api_Doc [vi 0, Value.string (ofBytes []), vsl0, vi 0, vsl0, vsl0]) fun x1 =>
    M.bind (stN (adr x1) [vi x0.1.1, Value.string x0.1.2.1, vsl x0.1.2.2.1, vi x0.1.2.2.2.1, vsl x0.1.2.2.2.2.1, vsl x0.1.2.2.2.2.2]) fun x2 =>
    M.bind (rosettalaw34_BencodeSpans_L0 n a0 (adr x1) x0.2.2 0) (sumElim (fun x3 =>
      M.bind (rosettalaw34_awake n) fun x4 =>
      M.pure x4)
    (fun x3 =>
      M.pure x3))
def rosettalaw34_BencodeSpans_dt (n : Nat) : List DEnt := []
def rosettalaw34_BencodeSpans_ct (n : Nat) : List Ent := [⟨7, [], [.one (.bool)], fun _ => rosettalaw34_awake n⟩,
  ⟨8, [.one (.str)], [.agg [.int .i64, .str, .sl, .int .i64, .sl, .sl], .one (.int .i64), .one (.int .i64)], fun x => bencode_Parse n (x)⟩,
  ⟨9, [.agg [.sl, .int .i64], .one (.int .i64)], [.agg [.sl, .int .i64], .one (.int .i64)], fun x => graph_Sub n (x.1) (x.2)⟩,
  ⟨10, [.agg [.sl, .int .i64], .agg [.sl, .int .i64]], [.one (.bool)], fun x => rosettaref10_Identical n (x.1) (x.2)⟩]
def rosettalaw34_BencodeSpans_dr (i : Nat) : Option (List (Nat × List Nat)) := none
def rosettalaw34_BencodeSpans_L0_lt (n : Nat) : List LEnt := []
def rosettalaw34_BencodeSpans_L0_jt1 (n : Nat) : List (JEnt ((Unit) ⊕ (Bool))) := []
def rosettalaw34_BencodeSpans_L0_jt0 (n : Nat) : List (JEnt ((Unit) ⊕ (Bool))) := ⟨[0, 0, 0, 1, 0, 0, 1, 0, 1, 1, 1], [.code [1, 0, 0, 1, 0, 0, 1, 0, 1, 1, 1], .blk 1, .code [1, 1, 0, 0, 1, 0, 1, 1, 1]], [(0, .one (.str)), (3, .one (.adr)), (5, .one (.int .i64)), (6, .one (.int .i64))], fun x => rosettalaw34_BencodeSpans_L0_J0 n (x.1) (x.2.1) (x.2.2.1) (x.2.2.2)⟩ :: rosettalaw34_BencodeSpans_L0_jt1 n
def rosettalaw34_BencodeSpans_lt (n : Nat) : List LEnt := [⟨[0, 1, 0, 1, 1, 1], [(0, .one (.str)), (3, .one (.adr)), (5, .one (.int .i64)), (6, .one (.int .i64))], actL2 [(0, .one (.str)), (3, .one (.adr)), (5, .one (.int .i64)), (6, .one (.int .i64))] [] [(2, .one (.bool))] [2, 6, 7, 8, 9, 10, 11, 12, 23, 24, 25, 26, 27, 28, 29, 30, 31, 32, 33, 34, 35, 36, 37, 38, 39, 40, 41, 42, 43, 44, 45, 46, 47, 48, 49, 50, 51, 52, 53, 54, 55, 56, 57, 58, 59, 60, 61, 62, 63, 64, 65, 66, 67, 68, 69, 70, 71, 72, 73, 74, 75, 76, 77, 78, 79] 0 .ret (fun x => rosettalaw34_BencodeSpans_L0 n (x.1) (x.2.1) (x.2.2.1) (x.2.2.2))⟩]
def rosettalaw34_BencodeSpans_jt0 (n : Nat) : List (JEnt (Bool)) := []
theorem rosettalaw34_BencodeSpans_L0_ok (n : Nat) {W : Wr} (hW : subW W 81 [2, 6, 7, 8, 9, 10, 11, 12, 23, 24, 25, 26, 27, 28, 29, 30, 31, 32, 33, 34, 35, 36, 37, 38, 39, 40, 41, 42, 43, 44, 45, 46, 47, 48, 49, 50, 51, 52, 53, 54, 55, 56, 57, 58, 59, 60, 61, 62, 63, 64, 65, 66, 67, 68, 69, 70, 71, 72, 73, 74, 75, 76, 77, 78, 79] = true) : LEntOK Tryz.prog (bodyOf Tryz.f3) W ⟨[0, 1, 0, 1, 1, 1], [(0, .one (.str)), (3, .one (.adr)), (5, .one (.int .i64)), (6, .one (.int .i64))], actL2 [(0, .one (.str)), (3, .one (.adr)), (5, .one (.int .i64)), (6, .one (.int .i64))] [] [(2, .one (.bool))] [2, 6, 7, 8, 9, 10, 11, 12, 23, 24, 25, 26, 27, 28, 29, 30, 31, 32, 33, 34, 35, 36, 37, 38, 39, 40, 41, 42, 43, 44, 45, 46, 47, 48, 49, 50, 51, 52, 53, 54, 55, 56, 57, 58, 59, 60, 61, 62, 63, 64, 65, 66, 67, 68, 69, 70, 71, 72, 73, 74, 75, 76, 77, 78, 79] 0 .ret (fun x => rosettalaw34_BencodeSpans_L0 n (x.1) (x.2.1) (x.2.2.1) (x.2.2.2))⟩ :=
  loop2_ok (P := Tryz.prog) (body := (bodyOf Tryz.f3)) (c := child (codeAt (bodyOf Tryz.f3) [0, 1, 0, 1, 1, 1]) 0) (p := [0, 1, 0, 1, 1, 1]) (ls := [(0, .one (.str)), (3, .one (.adr)), (5, .one (.int .i64)), (6, .one (.int .i64))]) (ms := []) (rs := [(2, .one (.bool))]) (id := 0) (e2 := .ret) (nt := 81) (ws := [2, 6, 7, 8, 9, 10, 11, 12, 23, 24, 25, 26, 27, 28, 29, 30, 31, 32, 33, 34, 35, 36, 37, 38, 39, 40, 41, 42, 43, 44, 45, 46, 47, 48, 49, 50, 51, 52, 53, 54, 55, 56, 57, 58, 59, 60, 61, 62, 63, 64, 65, 66, 67, 68, 69, 70, 71, 72, 73, 74, 75, 76, 77, 78, 79]) (N := 400) (G := (fun n x => rosettalaw34_BencodeSpans_L0 n (x.1) (x.2.1) (x.2.2.1) (x.2.2.2))) (T := fun n => ⟨lookC (rosettalaw34_BencodeSpans_ct n) (rosettalaw34_BencodeSpans_dt n), lookL (rosettalaw34_BencodeSpans_L0_lt n), lookJ (rosettalaw34_BencodeSpans_L0_jt0 n), rosettalaw34_BencodeSpans_dr⟩)
    (by kernel_rfl) (fun _ => by kernel_rfl) (fun n x => by kernel_rfl) n (fun m hm => (tabs_ok (P := Tryz.prog) (body := (bodyOf Tryz.f3)) (W := (81, some [2, 6, 7, 8, 9, 10, 11, 12, 23, 24, 25, 26, 27, 28, 29, 30, 31, 32, 33, 34, 35, 36, 37, 38, 39, 40, 41, 42, 43, 44, 45, 46, 47, 48, 49, 50, 51, 52, 53, 54, 55, 56, 57, 58, 59, 60, 61, 62, 63, 64, 65, 66, 67, 68, 69, 70, 71, 72, 73, 74, 75, 76, 77, 78, 79])) (cl := rosettalaw34_BencodeSpans_ct m) (dl := rosettalaw34_BencodeSpans_dt m) (ll := rosettalaw34_BencodeSpans_L0_lt m) (dr := rosettalaw34_BencodeSpans_dr) (fin := (finL2 [(0, .one (.str)), (3, .one (.adr)), (5, .one (.int .i64)), (6, .one (.int .i64))] [] [(2, .one (.bool))] 0 .ret (fun x => rosettalaw34_BencodeSpans_L0 m (x.1) (x.2.1) (x.2.2.1) (x.2.2.2)))) (N := 400) (js := rosettalaw34_BencodeSpans_L0_jt0 m) AllMo.nil (AllOK.cons (rosettalaw34_awake_ok m) (AllOK.cons (bencode_Parse_ok m) (AllOK.cons (graph_Sub_ok m) (AllOK.cons (rosettaref10_Identical_ok m) AllOK.nil)))) AllD.nil AllL.nil (AllJ.cons (fun x => by kernel_rfl) AllJ.nil))) hW
theorem rosettalaw34_BencodeSpans_ok (n : Nat) : FnOK Tryz.prog ⟨3, [.one (.str)], [.one (.bool)], fun x => rosettalaw34_BencodeSpans n (x)⟩ :=
  fn_ok (P := Tryz.prog) (e := ⟨3, [.one (.str)], [.one (.bool)], fun x => rosettalaw34_BencodeSpans n (x)⟩) (fn := Tryz.f3) (c := (bodyOf Tryz.f3)) (T := ⟨lookC (rosettalaw34_BencodeSpans_ct n) (rosettalaw34_BencodeSpans_dt n), lookL (rosettalaw34_BencodeSpans_lt n), lookJ (rosettalaw34_BencodeSpans_jt0 n), rosettalaw34_BencodeSpans_dr⟩) (N := 400) (ps := [(0, .one (.str))])
    (by kernel_rfl) (by kernel_rfl) (by kernel_rfl) (by kernel_rfl) (by kernel_rfl) (tabs_ok (P := Tryz.prog) (body := (bodyOf Tryz.f3)) (W := (81, none)) (cl := rosettalaw34_BencodeSpans_ct n) (dl := rosettalaw34_BencodeSpans_dt n) (ll := rosettalaw34_BencodeSpans_lt n) (dr := rosettalaw34_BencodeSpans_dr) (fin := (finF Tryz.prog Tryz.f3 [.one (.bool)])) (N := 400) (js := rosettalaw34_BencodeSpans_jt0 n) AllMo.nil (AllOK.cons (rosettalaw34_awake_ok n) (AllOK.cons (bencode_Parse_ok n) (AllOK.cons (graph_Sub_ok n) (AllOK.cons (rosettaref10_Identical_ok n) AllOK.nil)))) AllD.nil (AllL.cons (rosettalaw34_BencodeSpans_L0_ok n (by kernel_rfl)) AllL.nil) AllJ.nil) (fun x => by kernel_rfl)
end Go.Sh
