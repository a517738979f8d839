/-
The shallow functions of this seat, part 1, and that each is sound; written by program. No theorem about what they compute stands here.
-/
import Derived.Test.YtcgicpibdffpfaaDoorSh0
set_option maxRecDepth 100000
set_option maxHeartbeats 0
set_option linter.all false
namespace Go.Sh
open Go Go.Ago Go.Proofs
def rosettaref01_Decode_L0_B (G : ByteArray → Sl → Int → M ((Sl) ⊕ (Sl × Int))) (n : Nat) (a0 : ByteArray) (a1 : Sl) (a2 : Int) : M ((Sl) ⊕ (Sl × Int)) :=
  if decide (a2 < (↑a0.size : Int)) then
    M.bind (rosettaref01_At n a0 a2) fun x0 =>
    if decide (x0.2 = 0) then
      M.pure (Sum.inr (a1, a2))
    else
      M.bind (app false a1 1 T_i32 1 [Value.int IntKind.i32 (IntKind.i32.wrap x0.1)]) fun x1 =>
      G a0 x1 (IntKind.i64.wrap (a2 + x0.2))
  else
    M.pure (Sum.inl a1)
def rosettaref01_Decode_L0 : Nat → ByteArray → Sl → Int → M ((Sl) ⊕ (Sl × Int))
  | 0 => fun _ _ _ => M.fail
  | n + 1 => rosettaref01_Decode_L0_B (rosettaref01_Decode_L0 n) n
theorem rosettaref01_Decode_L0_succ (n : Nat) : rosettaref01_Decode_L0 (n + 1) = rosettaref01_Decode_L0_B (rosettaref01_Decode_L0 n) n := rfl
def rosettaref01_Decode (n : Nat) (a0 : ByteArray) : M (Sl × Int) :=
  M.bind (rosettaref01_Decode_L0 n a0 sl0 0) (sumElim (fun x0 =>
    M.pure (x0, -1))
  (fun x0 =>
    M.pure (x0.1, x0.2)))
def rosettaref01_Decode_ct (n : Nat) : List Ent := [⟨39, [.one (.str), .one (.int .i64)], [.one (.int .i64), .one (.int .i64)], fun x => rosettaref01_At n (x.1) (x.2)⟩]
def rosettaref01_Decode_dr (i : Nat) : Option (List (Nat × List Nat)) := none
def rosettaref01_Decode_L0_lt (n : Nat) : List LEnt := []
def rosettaref01_Decode_L0_jt0 (n : Nat) : List (JEnt ((Sl) ⊕ (Sl × Int))) := []
def rosettaref01_Decode_lt (n : Nat) : List LEnt := [⟨[0, 0, 1, 1, 1], [(0, .one (.str)), (4, .one (.sl)), (5, .one (.int .i64))], actL2 [(0, .one (.str)), (4, .one (.sl)), (5, .one (.int .i64))] [(4, .one (.sl))] [(2, .one (.sl)), (3, .one (.int .i64))] [2, 3, 4, 5, 6, 7, 8, 9, 10, 11, 12, 13, 14, 15, 16, 17, 18, 19, 20, 21, 22, 23, 24, 25, 26, 27, 28, 29] 0 .ret (fun x => rosettaref01_Decode_L0 n (x.1) (x.2.1) (x.2.2))⟩]
def rosettaref01_Decode_jt0 (n : Nat) : List (JEnt (Sl × Int)) := []
theorem rosettaref01_Decode_L0_ok (n : Nat) {W : Wr} (hW : subW W 31 [2, 3, 4, 5, 6, 7, 8, 9, 10, 11, 12, 13, 14, 15, 16, 17, 18, 19, 20, 21, 22, 23, 24, 25, 26, 27, 28, 29] = true) : LEntOK Tryd.prog (bodyOf Tryd.f33) W ⟨[0, 0, 1, 1, 1], [(0, .one (.str)), (4, .one (.sl)), (5, .one (.int .i64))], actL2 [(0, .one (.str)), (4, .one (.sl)), (5, .one (.int .i64))] [(4, .one (.sl))] [(2, .one (.sl)), (3, .one (.int .i64))] [2, 3, 4, 5, 6, 7, 8, 9, 10, 11, 12, 13, 14, 15, 16, 17, 18, 19, 20, 21, 22, 23, 24, 25, 26, 27, 28, 29] 0 .ret (fun x => rosettaref01_Decode_L0 n (x.1) (x.2.1) (x.2.2))⟩ :=
  loop2_ok (P := Tryd.prog) (body := (bodyOf Tryd.f33)) (c := child (codeAt (bodyOf Tryd.f33) [0, 0, 1, 1, 1]) 0) (p := [0, 0, 1, 1, 1]) (ls := [(0, .one (.str)), (4, .one (.sl)), (5, .one (.int .i64))]) (ms := [(4, .one (.sl))]) (rs := [(2, .one (.sl)), (3, .one (.int .i64))]) (id := 0) (e2 := .ret) (nt := 31) (ws := [2, 3, 4, 5, 6, 7, 8, 9, 10, 11, 12, 13, 14, 15, 16, 17, 18, 19, 20, 21, 22, 23, 24, 25, 26, 27, 28, 29]) (N := 400) (G := (fun n x => rosettaref01_Decode_L0 n (x.1) (x.2.1) (x.2.2))) (T := fun n => ⟨lookC (rosettaref01_Decode_ct n), lookL (rosettaref01_Decode_L0_lt n), lookJ (rosettaref01_Decode_L0_jt0 n), rosettaref01_Decode_dr⟩)
    (by kernel_rfl) (fun _ => by kernel_rfl) (fun n x => by kernel_rfl) n (fun m hm => (tabs_ok (P := Tryd.prog) (body := (bodyOf Tryd.f33)) (W := (31, some [2, 3, 4, 5, 6, 7, 8, 9, 10, 11, 12, 13, 14, 15, 16, 17, 18, 19, 20, 21, 22, 23, 24, 25, 26, 27, 28, 29])) (cl := rosettaref01_Decode_ct m) (ll := rosettaref01_Decode_L0_lt m) (dr := rosettaref01_Decode_dr) (fin := (finL2 [(0, .one (.str)), (4, .one (.sl)), (5, .one (.int .i64))] [(4, .one (.sl))] [(2, .one (.sl)), (3, .one (.int .i64))] 0 .ret (fun x => rosettaref01_Decode_L0 m (x.1) (x.2.1) (x.2.2)))) (N := 400) (js := rosettaref01_Decode_L0_jt0 m) (AllOK.cons (rosettaref01_At_ok m) AllOK.nil) AllL.nil AllJ.nil)) hW
theorem rosettaref01_Decode_ok (n : Nat) : FnOK Tryd.prog ⟨33, [.one (.str)], [.one (.sl), .one (.int .i64)], fun x => rosettaref01_Decode n (x)⟩ :=
  fn_ok (P := Tryd.prog) (e := ⟨33, [.one (.str)], [.one (.sl), .one (.int .i64)], fun x => rosettaref01_Decode n (x)⟩) (fn := Tryd.f33) (c := (bodyOf Tryd.f33)) (T := ⟨lookC (rosettaref01_Decode_ct n), lookL (rosettaref01_Decode_lt n), lookJ (rosettaref01_Decode_jt0 n), rosettaref01_Decode_dr⟩) (N := 400) (ps := [(0, .one (.str))])
    (by kernel_rfl) (by kernel_rfl) (by kernel_rfl) (by kernel_rfl) (by kernel_rfl) (tabs_ok (P := Tryd.prog) (body := (bodyOf Tryd.f33)) (W := (31, none)) (cl := rosettaref01_Decode_ct n) (ll := rosettaref01_Decode_lt n) (dr := rosettaref01_Decode_dr) (fin := (finF Tryd.prog Tryd.f33 [.one (.sl), .one (.int .i64)])) (N := 400) (js := rosettaref01_Decode_jt0 n) (AllOK.cons (rosettaref01_At_ok n) AllOK.nil) (AllL.cons (rosettaref01_Decode_L0_ok n (by kernel_rfl)) AllL.nil) AllJ.nil) (fun x => by kernel_rfl)
def rosettaref01_Valid (n : Nat) (a0 : ByteArray) : M (Bool) :=
  M.bind (rosettaref01_Decode n a0) fun x0 =>
  M.pure (decide (x0.2 < 0))
def rosettaref01_Valid_ct (n : Nat) : List Ent := [⟨33, [.one (.str)], [.one (.sl), .one (.int .i64)], fun x => rosettaref01_Decode n (x)⟩]
def rosettaref01_Valid_dr (i : Nat) : Option (List (Nat × List Nat)) := none
def rosettaref01_Valid_lt (n : Nat) : List LEnt := []
def rosettaref01_Valid_jt0 (n : Nat) : List (JEnt (Bool)) := []
theorem rosettaref01_Valid_ok (n : Nat) : FnOK Tryd.prog ⟨25, [.one (.str)], [.one (.bool)], fun x => rosettaref01_Valid n (x)⟩ :=
  fn_ok (P := Tryd.prog) (e := ⟨25, [.one (.str)], [.one (.bool)], fun x => rosettaref01_Valid n (x)⟩) (fn := Tryd.f25) (c := (bodyOf Tryd.f25)) (T := ⟨lookC (rosettaref01_Valid_ct n), lookL (rosettaref01_Valid_lt n), lookJ (rosettaref01_Valid_jt0 n), rosettaref01_Valid_dr⟩) (N := 400) (ps := [(0, .one (.str))])
    (by kernel_rfl) (by kernel_rfl) (by kernel_rfl) (by kernel_rfl) (by kernel_rfl) (tabs_ok (P := Tryd.prog) (body := (bodyOf Tryd.f25)) (W := (12, none)) (cl := rosettaref01_Valid_ct n) (ll := rosettaref01_Valid_lt n) (dr := rosettaref01_Valid_dr) (fin := (finF Tryd.prog Tryd.f25 [.one (.bool)])) (N := 400) (js := rosettaref01_Valid_jt0 n) (AllOK.cons (rosettaref01_Decode_ok n) AllOK.nil) AllL.nil AllJ.nil) (fun x => by kernel_rfl)
def rosettaref03_Valid_L0_B (G : ByteArray → Int → M ((Unit) ⊕ (Bool))) (n : Nat) (a0 : ByteArray) (a1 : Int) : M ((Unit) ⊕ (Bool)) :=
  if decide (a1 < (↑a0.size : Int)) then
    M.bind (idxS a0 a1) fun x0 =>
    if decide ((↑x0.toNat : Int) < 48) then
      M.pure (Sum.inr false)
    else
      M.bind (idxS a0 a1) fun x1 =>
      if decide (57 < (↑x1.toNat : Int)) then
        M.pure (Sum.inr false)
      else
        G a0 (IntKind.i64.wrap (a1 + 1))
  else
    M.pure (Sum.inl ())
def rosettaref03_Valid_L0 : Nat → ByteArray → Int → M ((Unit) ⊕ (Bool))
  | 0 => fun _ _ => M.fail
  | n + 1 => rosettaref03_Valid_L0_B (rosettaref03_Valid_L0 n) n
theorem rosettaref03_Valid_L0_succ (n : Nat) : rosettaref03_Valid_L0 (n + 1) = rosettaref03_Valid_L0_B (rosettaref03_Valid_L0 n) n := rfl
def rosettaref03_Valid_J0 (n : Nat) (a0 : ByteArray) (a1 : Int) : M (Bool) :=
  if decide (a1 = (↑a0.size : Int)) then
    M.pure false
  else
    if decide (400 < IntKind.i64.wrap ((↑a0.size : Int) - a1)) then
      M.pure false
    else
      M.bind (idxS a0 a1) fun x0 =>
      if decide ((↑x0.toNat : Int) = 48) then
        if decide (1 < (↑a0.size : Int)) then
          M.pure false
        else
          M.bind (rosettaref03_Valid_L0 n a0 a1) (sumElim (fun x1 =>
            M.pure true)
          (fun x1 =>
            M.pure x1))
      else
        M.bind (rosettaref03_Valid_L0 n a0 a1) (sumElim (fun x1 =>
          M.pure true)
        (fun x1 =>
          M.pure x1))
def rosettaref03_Valid (n : Nat) (a0 : ByteArray) : M (Bool) :=
  if decide (0 < (↑a0.size : Int)) then
    M.bind (idxS a0 0) fun x0 =>
    if decide ((↑x0.toNat : Int) = 45) then
      rosettaref03_Valid_J0 n a0 1
    else
      rosettaref03_Valid_J0 n a0 0
  else
    rosettaref03_Valid_J0 n a0 0
def rosettaref03_Valid_ct (n : Nat) : List Ent := []
def rosettaref03_Valid_dr (i : Nat) : Option (List (Nat × List Nat)) := none
def rosettaref03_Valid_L0_lt (n : Nat) : List LEnt := []
def rosettaref03_Valid_L0_jt0 (n : Nat) : List (JEnt ((Unit) ⊕ (Bool))) := []
def rosettaref03_Valid_lt (n : Nat) : List LEnt := [⟨[0, 1, 0, 1, 1, 1, 1], [(0, .one (.str)), (4, .one (.int .i64))], actL2 [(0, .one (.str)), (4, .one (.int .i64))] [] [(2, .one (.bool))] [2, 4, 36, 37, 38, 39, 40, 41, 42, 43, 44, 45, 46, 47, 48, 49, 50, 51] 0 .ret (fun x => rosettaref03_Valid_L0 n (x.1) (x.2))⟩]
def rosettaref03_Valid_jt1 (n : Nat) : List (JEnt (Bool)) := []
def rosettaref03_Valid_jt0 (n : Nat) : List (JEnt (Bool)) := ⟨[0, 0, 1, 1, 1], [.code [1, 0, 1, 1, 1], .code [1, 1, 1, 1]], [(0, .one (.str)), (3, .one (.int .i64))], fun x => rosettaref03_Valid_J0 n (x.1) (x.2)⟩ :: rosettaref03_Valid_jt1 n
theorem rosettaref03_Valid_L0_ok (n : Nat) {W : Wr} (hW : subW W 52 [2, 4, 36, 37, 38, 39, 40, 41, 42, 43, 44, 45, 46, 47, 48, 49, 50, 51] = true) : LEntOK Tryd.prog (bodyOf Tryd.f32) W ⟨[0, 1, 0, 1, 1, 1, 1], [(0, .one (.str)), (4, .one (.int .i64))], actL2 [(0, .one (.str)), (4, .one (.int .i64))] [] [(2, .one (.bool))] [2, 4, 36, 37, 38, 39, 40, 41, 42, 43, 44, 45, 46, 47, 48, 49, 50, 51] 0 .ret (fun x => rosettaref03_Valid_L0 n (x.1) (x.2))⟩ :=
  loop2_ok (P := Tryd.prog) (body := (bodyOf Tryd.f32)) (c := child (codeAt (bodyOf Tryd.f32) [0, 1, 0, 1, 1, 1, 1]) 0) (p := [0, 1, 0, 1, 1, 1, 1]) (ls := [(0, .one (.str)), (4, .one (.int .i64))]) (ms := []) (rs := [(2, .one (.bool))]) (id := 0) (e2 := .ret) (nt := 52) (ws := [2, 4, 36, 37, 38, 39, 40, 41, 42, 43, 44, 45, 46, 47, 48, 49, 50, 51]) (N := 400) (G := (fun n x => rosettaref03_Valid_L0 n (x.1) (x.2))) (T := fun n => ⟨lookC (rosettaref03_Valid_ct n), lookL (rosettaref03_Valid_L0_lt n), lookJ (rosettaref03_Valid_L0_jt0 n), rosettaref03_Valid_dr⟩)
    (by kernel_rfl) (fun _ => by kernel_rfl) (fun n x => by kernel_rfl) n (fun m hm => (tabs_ok (P := Tryd.prog) (body := (bodyOf Tryd.f32)) (W := (52, some [2, 4, 36, 37, 38, 39, 40, 41, 42, 43, 44, 45, 46, 47, 48, 49, 50, 51])) (cl := rosettaref03_Valid_ct m) (ll := rosettaref03_Valid_L0_lt m) (dr := rosettaref03_Valid_dr) (fin := (finL2 [(0, .one (.str)), (4, .one (.int .i64))] [] [(2, .one (.bool))] 0 .ret (fun x => rosettaref03_Valid_L0 m (x.1) (x.2)))) (N := 400) (js := rosettaref03_Valid_L0_jt0 m) AllOK.nil AllL.nil AllJ.nil)) hW
theorem rosettaref03_Valid_ok (n : Nat) : FnOK Tryd.prog ⟨32, [.one (.str)], [.one (.bool)], fun x => rosettaref03_Valid n (x)⟩ :=
  fn_ok (P := Tryd.prog) (e := ⟨32, [.one (.str)], [.one (.bool)], fun x => rosettaref03_Valid n (x)⟩) (fn := Tryd.f32) (c := (bodyOf Tryd.f32)) (T := ⟨lookC (rosettaref03_Valid_ct n), lookL (rosettaref03_Valid_lt n), lookJ (rosettaref03_Valid_jt0 n), rosettaref03_Valid_dr⟩) (N := 400) (ps := [(0, .one (.str))])
    (by kernel_rfl) (by kernel_rfl) (by kernel_rfl) (by kernel_rfl) (by kernel_rfl) (tabs_ok (P := Tryd.prog) (body := (bodyOf Tryd.f32)) (W := (52, none)) (cl := rosettaref03_Valid_ct n) (ll := rosettaref03_Valid_lt n) (dr := rosettaref03_Valid_dr) (fin := (finF Tryd.prog Tryd.f32 [.one (.bool)])) (N := 400) (js := rosettaref03_Valid_jt0 n) AllOK.nil (AllL.cons (rosettaref03_Valid_L0_ok n (by kernel_rfl)) AllL.nil) (AllJ.cons (fun x => by kernel_rfl) AllJ.nil)) (fun x => by kernel_rfl)
def rosettaref34_State_integer_L0_B (G : Option Addr → Int → M (Unit)) (n : Nat) (a0 : Option Addr) (a1 : Int) : M (Unit) :=
  M.bind (nn a0) fun x0 =>
  M.bind (nn a0) fun x1 =>
  M.bind (ldL (li) (x0.plus 1)) fun (x2 : Int) =>
  M.bind (ldL .str (x1.plus 0)) fun (x3 : ByteArray) =>
  if decide (x2 < (↑(ByteArray.size x3) : Int)) then
    M.bind (nn a0) fun x4 =>
    M.bind (nn a0) fun x5 =>
    M.bind (ldL .str (x4.plus 0)) fun (x6 : ByteArray) =>
    M.bind (ldL (li) (x5.plus 1)) fun (x7 : Int) =>
    M.bind (idxS x6 x7) fun x8 =>
    if !decide ((↑x8.toNat : Int) = 101) then
      M.bind (nn a0) fun x9 =>
      M.bind (ldL (li) (x9.plus 1)) fun (x10 : Int) =>
      M.bind (nn a0) fun x11 =>
      M.bind (stN (x11.plus 1) [vi (IntKind.i64.wrap (x10 + 1))]) fun x12 =>
      G a0 a1
    else
      M.pure ()
  else
    M.pure ()
def rosettaref34_State_integer_L0 : Nat → Option Addr → Int → M (Unit)
  | 0 => fun _ _ => M.fail
  | n + 1 => rosettaref34_State_integer_L0_B (rosettaref34_State_integer_L0 n) n
theorem rosettaref34_State_integer_L0_succ (n : Nat) : rosettaref34_State_integer_L0 (n + 1) = rosettaref34_State_integer_L0_B (rosettaref34_State_integer_L0 n) n := rfl
def rosettaref34_State_integer (n : Nat) (a0 : Option Addr) : M (ByteArray) :=
  M.bind (nn a0) fun x0 =>
  M.bind (ldL (li) (x0.plus 1)) fun (x1 : Int) =>
  M.bind (nn a0) fun x2 =>
  M.bind (ldL (li) (x2.plus 1)) fun (x3 : Int) =>
  M.bind (nn a0) fun x4 =>
  M.bind (stN (x4.plus 1) [vi (IntKind.i64.wrap (x3 + 1))]) fun x5 =>
  M.bind (rosettaref34_State_integer_L0 n a0 x1) fun x6 =>
  M.bind (rosettaref34_State_next n a0) fun x7 =>
  M.bind (nn a0) fun x8 =>
  M.bind (ldL (li) (x8.plus 8)) fun (x9 : Int) =>
  if !decide (x9 = 0) then
    M.pure (ofBytes [])
  else
    M.bind (nn a0) fun x10 =>
    M.bind (nn a0) fun x11 =>
    M.bind (ldL .str (x10.plus 0)) fun (x12 : ByteArray) =>
    M.bind (ldL (li) (x11.plus 1)) fun (x13 : Int) =>
    M.bind (sliceS x12 (IntKind.i64.wrap (x1 + 1)) x13) fun x14 =>
    M.bind (nn a0) fun x15 =>
    M.bind (ldL (li) (x15.plus 1)) fun (x16 : Int) =>
    M.bind (nn a0) fun x17 =>
    M.bind (stN (x17.plus 1) [vi (IntKind.i64.wrap (x16 + 1))]) fun x18 =>
    M.bind (rosettaref03_Valid n x14) fun x19 =>
    if !x19 then
      M.bind (rosettaref34_State_fail n a0 12 x1) fun x20 =>
      M.pure x14
    else
      M.pure x14
def rosettaref34_State_integer_ct (n : Nat) : List Ent := [⟨13, [.one (.ptr), .one (.int .i64), .one (.int .i64)], [], fun x => rosettaref34_State_fail n (x.1) (x.2.1) (x.2.2)⟩,
  ⟨20, [.one (.ptr)], [.one (.int .u8)], fun x => rosettaref34_State_next n (x)⟩,
  ⟨32, [.one (.str)], [.one (.bool)], fun x => rosettaref03_Valid n (x)⟩]
def rosettaref34_State_integer_dr (i : Nat) : Option (List (Nat × List Nat)) := cond (Nat.beq i 3) (some [(0, []), (1, []), (2, []), (4, []), (5, []), (6, []), (3, []), (7, []), (8, []), (9, []), (10, []), (11, []), (12, []), (13, []), (15, []), (16, []), (17, []), (14, []), (18, []), (19, []), (20, []), (21, [])]) (cond (Nat.beq i 8) (some [(0, []), (1, []), (2, []), (4, []), (5, []), (6, []), (7, []), (8, []), (3, []), (9, []), (10, []), (11, [])]) (none))
def rosettaref34_State_integer_L0_lt (n : Nat) : List LEnt := []
def rosettaref34_State_integer_L0_jt0 (n : Nat) : List (JEnt (Unit)) := []
def rosettaref34_State_integer_lt (n : Nat) : List LEnt := [⟨[0, 0, 1, 1, 1], [(0, .one (.ptr)), (3, .one (.int .i64))], actL1 [(0, .one (.ptr)), (3, .one (.int .i64))] [] [16, 17, 18, 19, 20, 21, 22, 23, 24, 25, 26, 27, 28, 29, 30, 31, 32, 33, 34, 35, 36, 37, 38, 39, 40, 41, 42, 43, 44] 0 (fun x => rosettaref34_State_integer_L0 n (x.1) (x.2))⟩]
def rosettaref34_State_integer_jt0 (n : Nat) : List (JEnt (ByteArray)) := []
theorem rosettaref34_State_integer_L0_ok (n : Nat) {W : Wr} (hW : subW W 77 [16, 17, 18, 19, 20, 21, 22, 23, 24, 25, 26, 27, 28, 29, 30, 31, 32, 33, 34, 35, 36, 37, 38, 39, 40, 41, 42, 43, 44] = true) : LEntOK Tryd.prog (bodyOf Tryd.f23) W ⟨[0, 0, 1, 1, 1], [(0, .one (.ptr)), (3, .one (.int .i64))], actL1 [(0, .one (.ptr)), (3, .one (.int .i64))] [] [16, 17, 18, 19, 20, 21, 22, 23, 24, 25, 26, 27, 28, 29, 30, 31, 32, 33, 34, 35, 36, 37, 38, 39, 40, 41, 42, 43, 44] 0 (fun x => rosettaref34_State_integer_L0 n (x.1) (x.2))⟩ :=
  loop1_ok (P := Tryd.prog) (body := (bodyOf Tryd.f23)) (c := child (codeAt (bodyOf Tryd.f23) [0, 0, 1, 1, 1]) 0) (p := [0, 0, 1, 1, 1]) (ls := [(0, .one (.ptr)), (3, .one (.int .i64))]) (ms := []) (id := 0) (nt := 77) (ws := [16, 17, 18, 19, 20, 21, 22, 23, 24, 25, 26, 27, 28, 29, 30, 31, 32, 33, 34, 35, 36, 37, 38, 39, 40, 41, 42, 43, 44]) (N := 400) (G := (fun n x => rosettaref34_State_integer_L0 n (x.1) (x.2))) (T := fun n => ⟨lookC (rosettaref34_State_integer_ct n), lookL (rosettaref34_State_integer_L0_lt n), lookJ (rosettaref34_State_integer_L0_jt0 n), rosettaref34_State_integer_dr⟩)
    (by kernel_rfl) (fun _ => by kernel_rfl) (fun n x => by kernel_rfl) n (fun m hm => (tabs_ok (P := Tryd.prog) (body := (bodyOf Tryd.f23)) (W := (77, some [16, 17, 18, 19, 20, 21, 22, 23, 24, 25, 26, 27, 28, 29, 30, 31, 32, 33, 34, 35, 36, 37, 38, 39, 40, 41, 42, 43, 44])) (cl := rosettaref34_State_integer_ct m) (ll := rosettaref34_State_integer_L0_lt m) (dr := rosettaref34_State_integer_dr) (fin := (finL1 [(0, .one (.ptr)), (3, .one (.int .i64))] [] 0 (fun x => rosettaref34_State_integer_L0 m (x.1) (x.2)))) (N := 400) (js := rosettaref34_State_integer_L0_jt0 m) (AllOK.cons (rosettaref34_State_fail_ok m) (AllOK.cons (rosettaref34_State_next_ok m) (AllOK.cons (rosettaref03_Valid_ok m) AllOK.nil))) AllL.nil AllJ.nil)) hW
theorem rosettaref34_State_integer_ok (n : Nat) : FnOK Tryd.prog ⟨23, [.one (.ptr)], [.one (.str)], fun x => rosettaref34_State_integer n (x)⟩ :=
  fn_ok (P := Tryd.prog) (e := ⟨23, [.one (.ptr)], [.one (.str)], fun x => rosettaref34_State_integer n (x)⟩) (fn := Tryd.f23) (c := (bodyOf Tryd.f23)) (T := ⟨lookC (rosettaref34_State_integer_ct n), lookL (rosettaref34_State_integer_lt n), lookJ (rosettaref34_State_integer_jt0 n), rosettaref34_State_integer_dr⟩) (N := 400) (ps := [(0, .one (.ptr))])
    (by kernel_rfl) (by kernel_rfl) (by kernel_rfl) (by kernel_rfl) (by kernel_rfl) (tabs_ok (P := Tryd.prog) (body := (bodyOf Tryd.f23)) (W := (77, none)) (cl := rosettaref34_State_integer_ct n) (ll := rosettaref34_State_integer_lt n) (dr := rosettaref34_State_integer_dr) (fin := (finF Tryd.prog Tryd.f23 [.one (.str)])) (N := 400) (js := rosettaref34_State_integer_jt0 n) (AllOK.cons (rosettaref34_State_fail_ok n) (AllOK.cons (rosettaref34_State_next_ok n) (AllOK.cons (rosettaref03_Valid_ok n) AllOK.nil))) (AllL.cons (rosettaref34_State_integer_L0_ok n (by kernel_rfl)) AllL.nil) AllJ.nil) (fun x => by kernel_rfl)
structure Cl_rosettaref34_State_value where
  rosettaref34_State_value : Option Addr → (Int × Int × Int × Int × Int × Int × Int × Bool × Bool) → Int → M (Int)
  rosettaref34_State_content_L0 : Option Addr → Int → Int → Int → ByteArray → Int → M ((Unit) ⊕ (Unit))
  rosettaref34_State_content : Option Addr → Int → Int → Int → M (Unit)
def rosettaref34_State_value_J3_B (G : Cl_rosettaref34_State_value) (n : Nat) (a0 : Option Addr) (a1 : Int) (a2 : Int) : M (Int) :=
  M.bind (nn a0) fun x0 =>
  M.bind (nn a0) fun x1 =>
  M.bind (nn a0) fun x2 =>
  M.bind (ldL .sl ((x0.plus 2).plus 4)) fun (x3 : Sl) =>
  M.bind (ldL .sl ((x1.plus 2).plus 4)) fun (x4 : Sl) =>
  M.bind (ldL (li) (x2.plus 1)) fun (x5 : Int) =>
  M.bind (idxA x3 a1 9) fun x6 =>
  M.bind (stN (x6.plus 0) [vi a2]) fun x7 =>
  M.bind (idxA x4 a1 9) fun x8 =>
  M.bind (stN (x8.plus 4) [vi x5]) fun x9 =>
  M.pure a2
def rosettaref34_State_value_J2_B (G : Cl_rosettaref34_State_value) (n : Nat) (a0 : Option Addr) (a1 : Int) (a2 : Int) (a3 : Int) (a4 : Int) : M (Int) :=
  M.bind (rosettaref34_State_node n a0 (a4, (ofBytes []), false, sl0, sl0) a2 a1) fun x0 =>
  M.bind (nn a0) fun x1 =>
  M.bind (ldL (li) (x1.plus 1)) fun (x2 : Int) =>
  M.bind (nn a0) fun x3 =>
  M.bind (stN (x3.plus 1) [vi (IntKind.i64.wrap (x2 + 1))]) fun x4 =>
  M.bind (G.rosettaref34_State_content a0 x0 a3 (IntKind.i64.wrap (a1 + 1))) fun x5 =>
  rosettaref34_State_value_J3_B G n a0 a3 x0
def rosettaref34_State_value_J1_B (G : Cl_rosettaref34_State_value) (n : Nat) (a0 : Option Addr) (a1 : Int) (a2 : Int) (a3 : Int) (a4 : Int) (a5 : ByteArray) (a6 : Int) : M (Int) :=
  M.bind (nn a0) fun x0 =>
  M.bind (ldL (li) (x0.plus 8)) fun (x1 : Int) =>
  if decide (x1 = 0) then
    M.bind (rosettaref34_State_node n a0 (a6, a5, false, sl0, sl0) a2 a1) fun x2 =>
    rosettaref34_State_value_J3_B G n a0 a3 x2
  else
    rosettaref34_State_value_J3_B G n a0 a3 a4
def rosettaref34_State_value_J0_B (G : Cl_rosettaref34_State_value) (n : Nat) (a0 : Option Addr) (a1 : Int) (a2 : Int) (a3 : Int) (a4 : Int) (a5 : Int) : M (Int) :=
  if decide (a5 = 105) then
    M.bind (rosettaref34_State_integer n a0) fun x0 =>
    M.bind (nn a0) fun x1 =>
    M.bind (ldL (li) (x1.plus 8)) fun (x2 : Int) =>
    if decide (x2 = 0) then
      M.bind (rosettaref34_State_node n a0 (2, x0, false, sl0, sl0) a2 a1) fun x3 =>
      rosettaref34_State_value_J3_B G n a0 a3 x3
    else
      rosettaref34_State_value_J3_B G n a0 a3 a4
  else
    M.bind (rosettaref34_State_text n a0) fun x0 =>
    M.bind (rosettaref01_Valid n x0) fun x1 =>
    if !x1 then
      rosettaref34_State_value_J1_B G n a0 a1 a2 a3 a4 x0 6
    else
      rosettaref34_State_value_J1_B G n a0 a1 a2 a3 a4 x0 5
def rosettaref34_State_value_B (G : Cl_rosettaref34_State_value) (n : Nat) (a0 : Option Addr) (a1 : Int × Int × Int × Int × Int × Int × Int × Bool × Bool) (a2 : Int) : M (Int) :=
  M.bind (newB none T_api_Span [vi a1.1, vi a1.2.1, vi a1.2.2.1, vi a1.2.2.2.1, vi a1.2.2.2.2.1, vi a1.2.2.2.2.2.1, vi a1.2.2.2.2.2.2.1, Value.bool a1.2.2.2.2.2.2.2.1, Value.bool a1.2.2.2.2.2.2.2.2]) fun x0 =>
  M.bind (nn a0) fun x1 =>
  M.bind (ldL (li) (x1.plus 1)) fun (x2 : Int) =>
  M.bind (stN ((adr x0).plus 3) [vi x2]) fun x3 =>
  M.bind (stN ((adr x0).plus 8) [Value.bool true]) fun x4 =>
  M.bind (nn a0) fun x5 =>
  M.bind (ldL .sl ((x5.plus 2).plus 4)) fun (x6 : Sl) =>
  M.bind (nn a0) fun x7 =>
  M.bind (ldL .sl ((x7.plus 2).plus 4)) fun (x8 : Sl) =>
  M.bind (ldLs [li, li, li, li, li, li, li, .bool, .bool] (adr x0)) fun (x9 : Int × Int × Int × Int × Int × Int × Int × Bool × Bool) =>
  M.bind (app true x8 9 T_api_Span 1 [vi x9.1, vi x9.2.1, vi x9.2.2.1, vi x9.2.2.2.1, vi x9.2.2.2.2.1, vi x9.2.2.2.2.2.1, vi x9.2.2.2.2.2.2.1, Value.bool x9.2.2.2.2.2.2.2.1, Value.bool x9.2.2.2.2.2.2.2.2]) fun x10 =>
  M.bind (nn a0) fun x11 =>
  M.bind (stN ((x11.plus 2).plus 4) [vsl x10]) fun x12 =>
  M.bind (rosettaref34_State_next n a0) fun x13 =>
  M.bind (nn a0) fun x14 =>
  M.bind (ldL (li) (x14.plus 8)) fun (x15 : Int) =>
  if !decide (x15 = 0) then
    M.pure 0
  else
    if decide (x13 = 108) then
      if decide (x13 = 100) then
        rosettaref34_State_value_J2_B G n a0 a2 x2 (↑x6.len : Int) 10
      else
        rosettaref34_State_value_J2_B G n a0 a2 x2 (↑x6.len : Int) 9
    else
      if decide (x13 = 100) then
        if decide (x13 = 100) then
          rosettaref34_State_value_J2_B G n a0 a2 x2 (↑x6.len : Int) 10
        else
          rosettaref34_State_value_J2_B G n a0 a2 x2 (↑x6.len : Int) 9
      else
        rosettaref34_State_value_J0_B G n a0 a2 x2 (↑x6.len : Int) 0 x13
def rosettaref34_State_content_L0_J3_B (G : Cl_rosettaref34_State_value) (n : Nat) (a0 : Option Addr) (a1 : Int) (a2 : Int) (a3 : Int) (a4 : ByteArray) (a5 : Int) (a6 : Addr) : M ((Unit) ⊕ (Unit)) :=
  M.bind (ldLs [li, li, li, li, li, li, li, .bool, .bool] a6) fun (x0 : Int × Int × Int × Int × Int × Int × Int × Bool × Bool) =>
  M.bind (G.rosettaref34_State_value a0 (x0.1, x0.2.1, x0.2.2.1, x0.2.2.2.1, x0.2.2.2.2.1, x0.2.2.2.2.2.1, x0.2.2.2.2.2.2.1, x0.2.2.2.2.2.2.2.1, x0.2.2.2.2.2.2.2.2) a3) fun x1 =>
  M.bind (nn a0) fun x2 =>
  M.bind (nn a0) fun x3 =>
  M.bind (ldL .sl (((x2.plus 2).plus 2).plus 0)) fun (x4 : Sl) =>
  M.bind (ldL .sl (((x3.plus 2).plus 2).plus 0)) fun (x5 : Sl) =>
  M.bind (idxA x5 a1 5) fun x6 =>
  M.bind (ldL .sl (x6.plus 4)) fun (x7 : Sl) =>
  M.bind (app true x7 1 T_i64 1 [vi x1]) fun x8 =>
  M.bind (idxA x4 a1 5) fun x9 =>
  M.bind (stN (x9.plus 4) [vsl x8]) fun x10 =>
  G.rosettaref34_State_content_L0 a0 a1 a2 a3 a4 (IntKind.i64.wrap (a5 + 1))
def rosettaref34_State_content_L0_J2_B (G : Cl_rosettaref34_State_value) (n : Nat) (a0 : Option Addr) (a1 : Int) (a2 : Int) (a3 : Int) (a4 : ByteArray) (a5 : Int) (a6 : Addr) (a7 : Int) (a8 : ByteArray) (a9 : Int) : M ((Unit) ⊕ (Unit)) :=
  M.bind (nn a0) fun x0 =>
  M.bind (ldL (li) (x0.plus 1)) fun (x1 : Int) =>
  M.bind (chk [some (x0.plus 1)] (stN (a6.plus 5) [vi a7])) fun x2 =>
  M.bind (stN (a6.plus 6) [vi x1]) fun x3 =>
  M.bind (nn a0) fun x4 =>
  M.bind (nn a0) fun x5 =>
  M.bind (ldL .sl (((x4.plus 2).plus 2).plus 0)) fun (x6 : Sl) =>
  M.bind (ldL .sl (((x5.plus 2).plus 2).plus 0)) fun (x7 : Sl) =>
  M.bind (idxA x7 a1 5) fun x8 =>
  M.bind (ldL .sl (x8.plus 3)) fun (x9 : Sl) =>
  M.bind (app true x9 1 T_i64 1 [vi a9]) fun x10 =>
  M.bind (idxA x6 a1 5) fun x11 =>
  M.bind (stN (x11.plus 3) [vsl x10]) fun x12 =>
  M.bind (nn a0) fun x13 =>
  M.bind (ldL (li) (x13.plus 8)) fun (x14 : Int) =>
  if !decide (x14 = 0) then
    M.pure (Sum.inr ())
  else
    rosettaref34_State_content_L0_J3_B G n a0 a1 a2 a3 a8 a5 a6
def rosettaref34_State_content_L0_J1_B (G : Cl_rosettaref34_State_value) (n : Nat) (a0 : Option Addr) (a1 : Int) (a2 : Int) (a3 : Int) (a4 : ByteArray) (a5 : Int) (a6 : Addr) (a7 : Int) (a8 : ByteArray) (a9 : Int) : M ((Unit) ⊕ (Unit)) :=
  if decide (0 < a5) then
    if ltS a8 a4 || eqS a8 a4 then
      M.bind (rosettaref34_State_fail n a0 16 a7) fun x0 =>
      rosettaref34_State_content_L0_J2_B G n a0 a1 a2 a3 a4 a5 a6 a7 a8 a9
    else
      rosettaref34_State_content_L0_J2_B G n a0 a1 a2 a3 a4 a5 a6 a7 a8 a9
  else
    rosettaref34_State_content_L0_J2_B G n a0 a1 a2 a3 a4 a5 a6 a7 a8 a9
def rosettaref34_State_content_L0_J0_B (G : Cl_rosettaref34_State_value) (n : Nat) (a0 : Option Addr) (a1 : Int) (a2 : Int) (a3 : Int) (a4 : ByteArray) (a5 : Int) : M ((Unit) ⊕ (Unit)) :=
  M.bind (newB none T_api_Span [vi 0, vi 0, vi 0, vi 0, vi 0, vi 0, vi 0, Value.bool false, Value.bool false]) fun x0 =>
  M.bind (stN (adr x0) [vi 0, vi a2, vi a5, vi 0, vi 0, vi 0, vi 0, Value.bool false, Value.bool false]) fun x1 =>
  M.bind (nn a0) fun x2 =>
  M.bind (ldL .sl (((x2.plus 2).plus 2).plus 0)) fun (x3 : Sl) =>
  M.bind (idxA x3 a1 5) fun x4 =>
  M.bind (ldL (li) (x4.plus 0)) fun (x5 : Int) =>
  if decide (x5 = 10) then
    M.bind (nn a0) fun x6 =>
    M.bind (ldL (li) (x6.plus 1)) fun (x7 : Int) =>
    M.bind (rosettaref34_State_text n a0) fun x8 =>
    M.bind (nn a0) fun x9 =>
    M.bind (ldL (li) (x9.plus 8)) fun (x10 : Int) =>
    if !decide (x10 = 0) then
      M.pure (Sum.inr ())
    else
      M.bind (rosettaref34_State_node n a0 (5, x8, false, sl0, sl0) x7 a3) fun x11 =>
      M.bind (rosettaref01_Valid n x8) fun x12 =>
      if !x12 then
        M.bind (rosettaref34_State_fail n a0 11 x7) fun x13 =>
        rosettaref34_State_content_L0_J1_B G n a0 a1 a2 a3 a4 a5 (adr x0) x7 x8 x11
      else
        rosettaref34_State_content_L0_J1_B G n a0 a1 a2 a3 a4 a5 (adr x0) x7 x8 x11
  else
    rosettaref34_State_content_L0_J3_B G n a0 a1 a2 a3 a4 a5 (adr x0)
def rosettaref34_State_content_L0_B (G : Cl_rosettaref34_State_value) (n : Nat) (a0 : Option Addr) (a1 : Int) (a2 : Int) (a3 : Int) (a4 : ByteArray) (a5 : Int) : M ((Unit) ⊕ (Unit)) :=
  M.bind (nn a0) fun x0 =>
  M.bind (ldL (li) (x0.plus 8)) fun (x1 : Int) =>
  if decide (x1 = 0) then
    M.bind (rosettaref34_State_next n a0) fun x2 =>
    if !decide (x2 = 101) then
      M.bind (nn a0) fun x3 =>
      M.bind (ldL (li) (x3.plus 8)) fun (x4 : Int) =>
      if decide (x4 = 0) then
        rosettaref34_State_content_L0_J0_B G n a0 a1 a2 a3 a4 a5
      else
        M.pure (Sum.inl ())
    else
      M.pure (Sum.inl ())
  else
    M.pure (Sum.inl ())
def rosettaref34_State_content_B (G : Cl_rosettaref34_State_value) (n : Nat) (a0 : Option Addr) (a1 : Int) (a2 : Int) (a3 : Int) : M (Unit) :=
  M.bind (G.rosettaref34_State_content_L0 a0 a1 a2 a3 (ofBytes []) 0) (sumElim (fun x0 =>
    M.bind (nn a0) fun x1 =>
    M.bind (ldL (li) (x1.plus 1)) fun (x2 : Int) =>
    M.bind (nn a0) fun x3 =>
    M.bind (stN (x3.plus 1) [vi (IntKind.i64.wrap (x2 + 1))]) fun x4 =>
    M.pure ())
  (fun x0 =>
    M.pure ()))
def Cl_rosettaref34_State_value.at : Nat → Cl_rosettaref34_State_value
  | 0 => ⟨fun _ _ _ => M.fail, fun _ _ _ _ _ _ => M.fail, fun _ _ _ _ => M.fail⟩
  | n + 1 => ⟨rosettaref34_State_value_B (Cl_rosettaref34_State_value.at n) n, rosettaref34_State_content_L0_B (Cl_rosettaref34_State_value.at n) n, rosettaref34_State_content_B (Cl_rosettaref34_State_value.at n) n⟩
def rosettaref34_State_value (n : Nat) (a0 : Option Addr) (a1 : Int × Int × Int × Int × Int × Int × Int × Bool × Bool) (a2 : Int) : M (Int) := (Cl_rosettaref34_State_value.at n).rosettaref34_State_value a0 a1 a2
theorem rosettaref34_State_value_succ (n : Nat) (a0 : Option Addr) (a1 : Int × Int × Int × Int × Int × Int × Int × Bool × Bool) (a2 : Int) : rosettaref34_State_value (n + 1) a0 a1 a2 = rosettaref34_State_value_B (Cl_rosettaref34_State_value.at n) n a0 a1 a2 := rfl
def rosettaref34_State_content_L0 (n : Nat) (a0 : Option Addr) (a1 : Int) (a2 : Int) (a3 : Int) (a4 : ByteArray) (a5 : Int) : M ((Unit) ⊕ (Unit)) := (Cl_rosettaref34_State_value.at n).rosettaref34_State_content_L0 a0 a1 a2 a3 a4 a5
theorem rosettaref34_State_content_L0_succ (n : Nat) (a0 : Option Addr) (a1 : Int) (a2 : Int) (a3 : Int) (a4 : ByteArray) (a5 : Int) : rosettaref34_State_content_L0 (n + 1) a0 a1 a2 a3 a4 a5 = rosettaref34_State_content_L0_B (Cl_rosettaref34_State_value.at n) n a0 a1 a2 a3 a4 a5 := rfl
def rosettaref34_State_content (n : Nat) (a0 : Option Addr) (a1 : Int) (a2 : Int) (a3 : Int) : M (Unit) := (Cl_rosettaref34_State_value.at n).rosettaref34_State_content a0 a1 a2 a3
theorem rosettaref34_State_content_succ (n : Nat) (a0 : Option Addr) (a1 : Int) (a2 : Int) (a3 : Int) : rosettaref34_State_content (n + 1) a0 a1 a2 a3 = rosettaref34_State_content_B (Cl_rosettaref34_State_value.at n) n a0 a1 a2 a3 := rfl
def rosettaref34_State_value_J0 (n : Nat) (a0 : Option Addr) (a1 : Int) (a2 : Int) (a3 : Int) (a4 : Int) (a5 : Int) : M (Int) := rosettaref34_State_value_J0_B (Cl_rosettaref34_State_value.at n) n a0 a1 a2 a3 a4 a5
def rosettaref34_State_value_J1 (n : Nat) (a0 : Option Addr) (a1 : Int) (a2 : Int) (a3 : Int) (a4 : Int) (a5 : ByteArray) (a6 : Int) : M (Int) := rosettaref34_State_value_J1_B (Cl_rosettaref34_State_value.at n) n a0 a1 a2 a3 a4 a5 a6
def rosettaref34_State_value_J2 (n : Nat) (a0 : Option Addr) (a1 : Int) (a2 : Int) (a3 : Int) (a4 : Int) : M (Int) := rosettaref34_State_value_J2_B (Cl_rosettaref34_State_value.at n) n a0 a1 a2 a3 a4
def rosettaref34_State_value_J3 (n : Nat) (a0 : Option Addr) (a1 : Int) (a2 : Int) : M (Int) := rosettaref34_State_value_J3_B (Cl_rosettaref34_State_value.at n) n a0 a1 a2
def rosettaref34_State_content_L0_J0 (n : Nat) (a0 : Option Addr) (a1 : Int) (a2 : Int) (a3 : Int) (a4 : ByteArray) (a5 : Int) : M ((Unit) ⊕ (Unit)) := rosettaref34_State_content_L0_J0_B (Cl_rosettaref34_State_value.at n) n a0 a1 a2 a3 a4 a5
def rosettaref34_State_content_L0_J1 (n : Nat) (a0 : Option Addr) (a1 : Int) (a2 : Int) (a3 : Int) (a4 : ByteArray) (a5 : Int) (a6 : Addr) (a7 : Int) (a8 : ByteArray) (a9 : Int) : M ((Unit) ⊕ (Unit)) := rosettaref34_State_content_L0_J1_B (Cl_rosettaref34_State_value.at n) n a0 a1 a2 a3 a4 a5 a6 a7 a8 a9
def rosettaref34_State_content_L0_J2 (n : Nat) (a0 : Option Addr) (a1 : Int) (a2 : Int) (a3 : Int) (a4 : ByteArray) (a5 : Int) (a6 : Addr) (a7 : Int) (a8 : ByteArray) (a9 : Int) : M ((Unit) ⊕ (Unit)) := rosettaref34_State_content_L0_J2_B (Cl_rosettaref34_State_value.at n) n a0 a1 a2 a3 a4 a5 a6 a7 a8 a9
def rosettaref34_State_content_L0_J3 (n : Nat) (a0 : Option Addr) (a1 : Int) (a2 : Int) (a3 : Int) (a4 : ByteArray) (a5 : Int) (a6 : Addr) : M ((Unit) ⊕ (Unit)) := rosettaref34_State_content_L0_J3_B (Cl_rosettaref34_State_value.at n) n a0 a1 a2 a3 a4 a5 a6
def rosettaref34_State_value_ct (n : Nat) : List Ent := [⟨20, [.one (.ptr)], [.one (.int .u8)], fun x => rosettaref34_State_next n (x)⟩,
  ⟨21, [.one (.ptr), .agg [.int .i64, .str, .bool, .sl, .sl], .one (.int .i64), .one (.int .i64)], [.one (.int .i64)], fun x => rosettaref34_State_node n (x.1) (x.2.1) (x.2.2.1) (x.2.2.2)⟩,
  ⟨22, [.one (.ptr), .one (.int .i64), .one (.int .i64), .one (.int .i64)], [], fun x => rosettaref34_State_content n (x.1) (x.2.1) (x.2.2.1) (x.2.2.2)⟩,
  ⟨23, [.one (.ptr)], [.one (.str)], fun x => rosettaref34_State_integer n (x)⟩,
  ⟨24, [.one (.ptr)], [.one (.str)], fun x => rosettaref34_State_text n (x)⟩,
  ⟨25, [.one (.str)], [.one (.bool)], fun x => rosettaref01_Valid n (x)⟩]
def rosettaref34_State_value_dr (i : Nat) : Option (List (Nat × List Nat)) := cond (Nat.beq i 4) (some [(0, []), (1, []), (2, []), (3, []), (4, []), (5, []), (6, []), (7, []), (8, []), (9, []), (10, []), (11, []), (12, [])]) (cond (Nat.beq i 26) (some [(0, []), (1, []), (2, []), (3, []), (5, []), (6, []), (7, []), (8, []), (9, []), (11, []), (12, []), (13, []), (14, []), (15, []), (4, []), (10, []), (16, []), (17, []), (18, []), (19, []), (20, []), (21, []), (22, [])]) (none))
def rosettaref34_State_value_lt (n : Nat) : List LEnt := []
def rosettaref34_State_value_jt4 (n : Nat) : List (JEnt (Int)) := []
def rosettaref34_State_value_jt3 (n : Nat) : List (JEnt (Int)) := ⟨[0, 1, 1, 1, 1, 1, 1, 1], [.code [1, 1, 1, 1, 1, 1, 1, 1]], [(0, .one (.ptr)), (8, .one (.int .i64)), (9, .one (.int .i64))], fun x => rosettaref34_State_value_J3 n (x.1) (x.2.1) (x.2.2)⟩ :: rosettaref34_State_value_jt4 n
def rosettaref34_State_value_jt2 (n : Nat) : List (JEnt (Int)) := ⟨[0, 1, 1, 0, 1, 1, 1, 0, 1, 0, 1, 1, 1, 1, 1, 1], [.code [1, 1, 1, 0, 1, 1, 1, 0, 1, 0, 1, 1, 1, 1, 1, 1], .blk 0, .code [1, 1, 1, 1, 1, 1, 1]], [(0, .one (.ptr)), (2, .one (.int .i64)), (7, .one (.int .i64)), (8, .one (.int .i64)), (11, .one (.int .i64))], fun x => rosettaref34_State_value_J2 n (x.1) (x.2.1) (x.2.2.1) (x.2.2.2.1) (x.2.2.2.2)⟩ :: rosettaref34_State_value_jt3 n
def rosettaref34_State_value_jt1 (n : Nat) : List (JEnt (Int)) := ⟨[0, 1, 1, 1, 1, 1, 1, 1, 1, 1, 0, 1, 0, 1, 1, 1, 1, 1, 1], [.code [1, 1, 1, 1, 1, 1, 1, 1, 1, 1, 0, 1, 0, 1, 1, 1, 1, 1, 1], .blk 0, .code [1, 1, 1, 1, 1, 1, 1]], [(0, .one (.ptr)), (2, .one (.int .i64)), (7, .one (.int .i64)), (8, .one (.int .i64)), (9, .one (.int .i64)), (13, .one (.str)), (14, .one (.int .i64))], fun x => rosettaref34_State_value_J1 n (x.1) (x.2.1) (x.2.2.1) (x.2.2.2.1) (x.2.2.2.2.1) (x.2.2.2.2.2.1) (x.2.2.2.2.2.2)⟩ :: rosettaref34_State_value_jt2 n
def rosettaref34_State_value_jt0 (n : Nat) : List (JEnt (Int)) := ⟨[0, 1, 1, 1, 1, 0, 1, 0, 1, 1, 1, 1, 1, 1], [.code [1, 1, 1, 1, 1, 0, 1, 0, 1, 1, 1, 1, 1, 1], .blk 0, .code [1, 1, 1, 1, 1, 1, 1]], [(0, .one (.ptr)), (2, .one (.int .i64)), (7, .one (.int .i64)), (8, .one (.int .i64)), (9, .one (.int .i64)), (10, .one (.int .u8))], fun x => rosettaref34_State_value_J0 n (x.1) (x.2.1) (x.2.2.1) (x.2.2.2.1) (x.2.2.2.2.1) (x.2.2.2.2.2)⟩ :: rosettaref34_State_value_jt1 n
def rosettaref34_State_content_ct (n : Nat) : List Ent := [⟨12, [.one (.ptr), .agg [.int .i64, .int .i64, .int .i64, .int .i64, .int .i64, .int .i64, .int .i64, .bool, .bool], .one (.int .i64)], [.one (.int .i64)], fun x => rosettaref34_State_value n (x.1) (x.2.1) (x.2.2)⟩,
  ⟨13, [.one (.ptr), .one (.int .i64), .one (.int .i64)], [], fun x => rosettaref34_State_fail n (x.1) (x.2.1) (x.2.2)⟩,
  ⟨20, [.one (.ptr)], [.one (.int .u8)], fun x => rosettaref34_State_next n (x)⟩,
  ⟨21, [.one (.ptr), .agg [.int .i64, .str, .bool, .sl, .sl], .one (.int .i64), .one (.int .i64)], [.one (.int .i64)], fun x => rosettaref34_State_node n (x.1) (x.2.1) (x.2.2.1) (x.2.2.2)⟩,
  ⟨24, [.one (.ptr)], [.one (.str)], fun x => rosettaref34_State_text n (x)⟩,
  ⟨25, [.one (.str)], [.one (.bool)], fun x => rosettaref01_Valid n (x)⟩]
def rosettaref34_State_content_dr (i : Nat) : Option (List (Nat × List Nat)) := cond (Nat.beq i 15) (some [(0, []), (1, []), (2, []), (3, []), (5, []), (4, []), (6, [4]), (7, []), (8, [])]) (cond (Nat.beq i 16) (some [(0, []), (1, []), (2, []), (3, []), (4, []), (6, []), (7, []), (8, []), (9, []), (10, []), (11, []), (13, []), (17, []), (18, []), (5, []), (12, []), (14, []), (15, []), (16, []), (19, []), (20, []), (21, []), (22, [])]) (cond (Nat.beq i 19) (some [(0, []), (1, []), (2, []), (3, []), (4, []), (6, []), (7, []), (8, []), (9, []), (10, []), (11, []), (13, []), (17, []), (18, []), (5, []), (12, []), (14, []), (15, []), (16, []), (19, []), (20, []), (21, []), (22, [])]) (none)))
def rosettaref34_State_content_L0_lt (n : Nat) : List LEnt := []
def rosettaref34_State_content_L0_jt4 (n : Nat) : List (JEnt ((Unit) ⊕ (Unit))) := []
def rosettaref34_State_content_L0_jt3 (n : Nat) : List (JEnt ((Unit) ⊕ (Unit))) := ⟨[0, 1, 1, 0, 0, 1, 0, 0, 1, 0, 1], [.code [1, 1, 1, 0, 0, 1, 0, 0, 1, 0, 1], .blk 1, .code [1, 1, 0, 0, 1, 0, 1]], [(0, .one (.ptr)), (1, .one (.int .i64)), (2, .one (.int .i64)), (3, .one (.int .i64)), (8, .one (.str)), (9, .one (.int .i64)), (10, .one (.adr))], fun x => rosettaref34_State_content_L0_J3 n (x.1) (x.2.1) (x.2.2.1) (x.2.2.2.1) (x.2.2.2.2.1) (x.2.2.2.2.2.1) (x.2.2.2.2.2.2)⟩ :: rosettaref34_State_content_L0_jt4 n
def rosettaref34_State_content_L0_jt2 (n : Nat) : List (JEnt ((Unit) ⊕ (Unit))) := ⟨[0, 1, 1, 1, 1, 1, 1, 0, 1, 0, 1, 0, 0, 1, 0, 0, 1, 0, 1], [.code [1, 1, 1, 1, 1, 1, 1, 0, 1, 0, 1, 0, 0, 1, 0, 0, 1, 0, 1], .code [1, 1, 0, 0, 1, 0, 0, 1, 0, 1], .blk 1, .code [1, 1, 0, 0, 1, 0, 1]], [(0, .one (.ptr)), (1, .one (.int .i64)), (2, .one (.int .i64)), (3, .one (.int .i64)), (8, .one (.str)), (9, .one (.int .i64)), (10, .one (.adr)), (11, .one (.int .i64)), (12, .one (.str)), (13, .one (.int .i64))], fun x => rosettaref34_State_content_L0_J2 n (x.1) (x.2.1) (x.2.2.1) (x.2.2.2.1) (x.2.2.2.2.1) (x.2.2.2.2.2.1) (x.2.2.2.2.2.2.1) (x.2.2.2.2.2.2.2.1) (x.2.2.2.2.2.2.2.2.1) (x.2.2.2.2.2.2.2.2.2)⟩ :: rosettaref34_State_content_L0_jt3 n
def rosettaref34_State_content_L0_jt1 (n : Nat) : List (JEnt ((Unit) ⊕ (Unit))) := ⟨[0, 0, 1, 1, 1, 1, 1, 0, 1, 0, 1, 0, 0, 1, 0, 0, 1, 0, 1], [.code [1, 0, 1, 1, 1, 1, 1, 0, 1, 0, 1, 0, 0, 1, 0, 0, 1, 0, 1], .code [1, 1, 1, 1, 1, 1, 0, 1, 0, 1, 0, 0, 1, 0, 0, 1, 0, 1], .code [1, 1, 0, 0, 1, 0, 0, 1, 0, 1], .blk 1, .code [1, 1, 0, 0, 1, 0, 1]], [(0, .one (.ptr)), (1, .one (.int .i64)), (2, .one (.int .i64)), (3, .one (.int .i64)), (8, .one (.str)), (9, .one (.int .i64)), (10, .one (.adr)), (11, .one (.int .i64)), (12, .one (.str)), (13, .one (.int .i64))], fun x => rosettaref34_State_content_L0_J1 n (x.1) (x.2.1) (x.2.2.1) (x.2.2.2.1) (x.2.2.2.2.1) (x.2.2.2.2.2.1) (x.2.2.2.2.2.2.1) (x.2.2.2.2.2.2.2.1) (x.2.2.2.2.2.2.2.2.1) (x.2.2.2.2.2.2.2.2.2)⟩ :: rosettaref34_State_content_L0_jt2 n
def rosettaref34_State_content_L0_jt0 (n : Nat) : List (JEnt ((Unit) ⊕ (Unit))) := ⟨[0, 0, 0, 1, 0, 0, 1, 0, 1], [.code [1, 0, 0, 1, 0, 0, 1, 0, 1], .blk 1, .code [1, 1, 0, 0, 1, 0, 1]], [(0, .one (.ptr)), (1, .one (.int .i64)), (2, .one (.int .i64)), (3, .one (.int .i64)), (8, .one (.str)), (9, .one (.int .i64))], fun x => rosettaref34_State_content_L0_J0 n (x.1) (x.2.1) (x.2.2.1) (x.2.2.2.1) (x.2.2.2.2.1) (x.2.2.2.2.2)⟩ :: rosettaref34_State_content_L0_jt1 n
def rosettaref34_State_content_lt (n : Nat) : List LEnt := [⟨[0, 1, 0, 1], [(0, .one (.ptr)), (1, .one (.int .i64)), (2, .one (.int .i64)), (3, .one (.int .i64)), (8, .one (.str)), (9, .one (.int .i64))], actL2 [(0, .one (.ptr)), (1, .one (.int .i64)), (2, .one (.int .i64)), (3, .one (.int .i64)), (8, .one (.str)), (9, .one (.int .i64))] [] [] [8, 9, 10, 11, 12, 13, 14, 15, 16, 17, 18, 19, 20, 21, 22, 23, 24, 25, 26, 27, 28, 29, 30, 31, 32, 33, 34, 35, 36, 37, 38, 39, 40, 41, 42, 43, 44, 45, 46, 47, 48, 49, 50, 51, 52, 53, 54, 55, 56, 57, 58, 59, 60, 61, 62, 63, 64, 65, 66, 67, 68, 69, 70, 71, 72, 73, 74, 75, 76, 77, 78, 79, 80, 81, 82, 83, 84, 85, 86, 87, 88, 89, 90, 91, 92, 93, 94, 95, 96, 97, 98, 99, 100, 101, 102, 103, 104, 105, 106, 107, 108, 109, 110, 111, 112, 113, 114, 115, 116, 117, 118, 119, 120, 121, 122, 123, 124, 125, 126, 127, 128, 129, 130, 131, 132, 133, 134, 135, 136, 137, 138, 139, 140, 141] 0 .ret (fun x => rosettaref34_State_content_L0 n (x.1) (x.2.1) (x.2.2.1) (x.2.2.2.1) (x.2.2.2.2.1) (x.2.2.2.2.2))⟩]
def rosettaref34_State_content_jt0 (n : Nat) : List (JEnt (Unit)) := []
def P_rosettaref34_State_value (n : Nat) : Prop := FnOK Tryd.prog ⟨12, [.one (.ptr), .agg [.int .i64, .int .i64, .int .i64, .int .i64, .int .i64, .int .i64, .int .i64, .bool, .bool], .one (.int .i64)], [.one (.int .i64)], fun x => rosettaref34_State_value n (x.1) (x.2.1) (x.2.2)⟩ ∧ FnOK Tryd.prog ⟨22, [.one (.ptr), .one (.int .i64), .one (.int .i64), .one (.int .i64)], [], fun x => rosettaref34_State_content n (x.1) (x.2.1) (x.2.2.1) (x.2.2.2)⟩
theorem rosettaref34_State_value_ok_step (n : Nat) (H : ∀ m, m < n + 1 → P_rosettaref34_State_value m) : FnOK Tryd.prog ⟨12, [.one (.ptr), .agg [.int .i64, .int .i64, .int .i64, .int .i64, .int .i64, .int .i64, .int .i64, .bool, .bool], .one (.int .i64)], [.one (.int .i64)], fun x => rosettaref34_State_value (n + 1) (x.1) (x.2.1) (x.2.2)⟩ :=
  fn_ok (P := Tryd.prog) (e := ⟨12, [.one (.ptr), .agg [.int .i64, .int .i64, .int .i64, .int .i64, .int .i64, .int .i64, .int .i64, .bool, .bool], .one (.int .i64)], [.one (.int .i64)], fun x => rosettaref34_State_value (n + 1) (x.1) (x.2.1) (x.2.2)⟩) (fn := Tryd.f12) (c := (bodyOf Tryd.f12)) (T := ⟨lookC (rosettaref34_State_value_ct n), lookL (rosettaref34_State_value_lt n), lookJ (rosettaref34_State_value_jt0 n), rosettaref34_State_value_dr⟩) (N := 400) (ps := [(0, .one (.ptr)), (1, .agg [.int .i64, .int .i64, .int .i64, .int .i64, .int .i64, .int .i64, .int .i64, .bool, .bool]), (2, .one (.int .i64))])
    (by kernel_rfl) (by kernel_rfl) (by kernel_rfl) (by kernel_rfl) (by kernel_rfl) (tabs_ok (P := Tryd.prog) (body := (bodyOf Tryd.f12)) (W := (131, none)) (cl := rosettaref34_State_value_ct n) (ll := rosettaref34_State_value_lt n) (dr := rosettaref34_State_value_dr) (fin := (finF Tryd.prog Tryd.f12 [.one (.int .i64)])) (N := 400) (js := rosettaref34_State_value_jt0 n) (AllOK.cons (rosettaref34_State_next_ok n) (AllOK.cons (rosettaref34_State_node_ok n) (AllOK.cons (H n (Nat.lt_succ_self n)).2 (AllOK.cons (rosettaref34_State_integer_ok n) (AllOK.cons (rosettaref34_State_text_ok n) (AllOK.cons (rosettaref01_Valid_ok n) AllOK.nil)))))) AllL.nil (AllJ.cons (fun x => by kernel_rfl) (AllJ.cons (fun x => by kernel_rfl) (AllJ.cons (fun x => by kernel_rfl) (AllJ.cons (fun x => by kernel_rfl) AllJ.nil))))) (fun x => by kernel_rfl)
theorem rosettaref34_State_content_L0_ok (n : Nat) (H : ∀ m, m < n → P_rosettaref34_State_value m) {W : Wr} (hW : subW W 149 [8, 9, 10, 11, 12, 13, 14, 15, 16, 17, 18, 19, 20, 21, 22, 23, 24, 25, 26, 27, 28, 29, 30, 31, 32, 33, 34, 35, 36, 37, 38, 39, 40, 41, 42, 43, 44, 45, 46, 47, 48, 49, 50, 51, 52, 53, 54, 55, 56, 57, 58, 59, 60, 61, 62, 63, 64, 65, 66, 67, 68, 69, 70, 71, 72, 73, 74, 75, 76, 77, 78, 79, 80, 81, 82, 83, 84, 85, 86, 87, 88, 89, 90, 91, 92, 93, 94, 95, 96, 97, 98, 99, 100, 101, 102, 103, 104, 105, 106, 107, 108, 109, 110, 111, 112, 113, 114, 115, 116, 117, 118, 119, 120, 121, 122, 123, 124, 125, 126, 127, 128, 129, 130, 131, 132, 133, 134, 135, 136, 137, 138, 139, 140, 141] = true) : LEntOK Tryd.prog (bodyOf Tryd.f22) W ⟨[0, 1, 0, 1], [(0, .one (.ptr)), (1, .one (.int .i64)), (2, .one (.int .i64)), (3, .one (.int .i64)), (8, .one (.str)), (9, .one (.int .i64))], actL2 [(0, .one (.ptr)), (1, .one (.int .i64)), (2, .one (.int .i64)), (3, .one (.int .i64)), (8, .one (.str)), (9, .one (.int .i64))] [] [] [8, 9, 10, 11, 12, 13, 14, 15, 16, 17, 18, 19, 20, 21, 22, 23, 24, 25, 26, 27, 28, 29, 30, 31, 32, 33, 34, 35, 36, 37, 38, 39, 40, 41, 42, 43, 44, 45, 46, 47, 48, 49, 50, 51, 52, 53, 54, 55, 56, 57, 58, 59, 60, 61, 62, 63, 64, 65, 66, 67, 68, 69, 70, 71, 72, 73, 74, 75, 76, 77, 78, 79, 80, 81, 82, 83, 84, 85, 86, 87, 88, 89, 90, 91, 92, 93, 94, 95, 96, 97, 98, 99, 100, 101, 102, 103, 104, 105, 106, 107, 108, 109, 110, 111, 112, 113, 114, 115, 116, 117, 118, 119, 120, 121, 122, 123, 124, 125, 126, 127, 128, 129, 130, 131, 132, 133, 134, 135, 136, 137, 138, 139, 140, 141] 0 .ret (fun x => rosettaref34_State_content_L0 n (x.1) (x.2.1) (x.2.2.1) (x.2.2.2.1) (x.2.2.2.2.1) (x.2.2.2.2.2))⟩ :=
  loop2_ok (P := Tryd.prog) (body := (bodyOf Tryd.f22)) (c := child (codeAt (bodyOf Tryd.f22) [0, 1, 0, 1]) 0) (p := [0, 1, 0, 1]) (ls := [(0, .one (.ptr)), (1, .one (.int .i64)), (2, .one (.int .i64)), (3, .one (.int .i64)), (8, .one (.str)), (9, .one (.int .i64))]) (ms := []) (rs := []) (id := 0) (e2 := .ret) (nt := 149) (ws := [8, 9, 10, 11, 12, 13, 14, 15, 16, 17, 18, 19, 20, 21, 22, 23, 24, 25, 26, 27, 28, 29, 30, 31, 32, 33, 34, 35, 36, 37, 38, 39, 40, 41, 42, 43, 44, 45, 46, 47, 48, 49, 50, 51, 52, 53, 54, 55, 56, 57, 58, 59, 60, 61, 62, 63, 64, 65, 66, 67, 68, 69, 70, 71, 72, 73, 74, 75, 76, 77, 78, 79, 80, 81, 82, 83, 84, 85, 86, 87, 88, 89, 90, 91, 92, 93, 94, 95, 96, 97, 98, 99, 100, 101, 102, 103, 104, 105, 106, 107, 108, 109, 110, 111, 112, 113, 114, 115, 116, 117, 118, 119, 120, 121, 122, 123, 124, 125, 126, 127, 128, 129, 130, 131, 132, 133, 134, 135, 136, 137, 138, 139, 140, 141]) (N := 400) (G := (fun n x => rosettaref34_State_content_L0 n (x.1) (x.2.1) (x.2.2.1) (x.2.2.2.1) (x.2.2.2.2.1) (x.2.2.2.2.2))) (T := fun n => ⟨lookC (rosettaref34_State_content_ct n), lookL (rosettaref34_State_content_L0_lt n), lookJ (rosettaref34_State_content_L0_jt0 n), rosettaref34_State_content_dr⟩)
    (by kernel_rfl) (fun _ => by kernel_rfl) (fun n x => by kernel_rfl) n (fun m hm => (tabs_ok (P := Tryd.prog) (body := (bodyOf Tryd.f22)) (W := (149, some [8, 9, 10, 11, 12, 13, 14, 15, 16, 17, 18, 19, 20, 21, 22, 23, 24, 25, 26, 27, 28, 29, 30, 31, 32, 33, 34, 35, 36, 37, 38, 39, 40, 41, 42, 43, 44, 45, 46, 47, 48, 49, 50, 51, 52, 53, 54, 55, 56, 57, 58, 59, 60, 61, 62, 63, 64, 65, 66, 67, 68, 69, 70, 71, 72, 73, 74, 75, 76, 77, 78, 79, 80, 81, 82, 83, 84, 85, 86, 87, 88, 89, 90, 91, 92, 93, 94, 95, 96, 97, 98, 99, 100, 101, 102, 103, 104, 105, 106, 107, 108, 109, 110, 111, 112, 113, 114, 115, 116, 117, 118, 119, 120, 121, 122, 123, 124, 125, 126, 127, 128, 129, 130, 131, 132, 133, 134, 135, 136, 137, 138, 139, 140, 141])) (cl := rosettaref34_State_content_ct m) (ll := rosettaref34_State_content_L0_lt m) (dr := rosettaref34_State_content_dr) (fin := (finL2 [(0, .one (.ptr)), (1, .one (.int .i64)), (2, .one (.int .i64)), (3, .one (.int .i64)), (8, .one (.str)), (9, .one (.int .i64))] [] [] 0 .ret (fun x => rosettaref34_State_content_L0 m (x.1) (x.2.1) (x.2.2.1) (x.2.2.2.1) (x.2.2.2.2.1) (x.2.2.2.2.2)))) (N := 400) (js := rosettaref34_State_content_L0_jt0 m) (AllOK.cons (H m hm).1 (AllOK.cons (rosettaref34_State_fail_ok m) (AllOK.cons (rosettaref34_State_next_ok m) (AllOK.cons (rosettaref34_State_node_ok m) (AllOK.cons (rosettaref34_State_text_ok m) (AllOK.cons (rosettaref01_Valid_ok m) AllOK.nil)))))) AllL.nil (AllJ.cons (fun x => by kernel_rfl) (AllJ.cons (fun x => by kernel_rfl) (AllJ.cons (fun x => by kernel_rfl) (AllJ.cons (fun x => by kernel_rfl) AllJ.nil)))))) hW
theorem rosettaref34_State_content_ok_step (n : Nat) (H : ∀ m, m < n + 1 → P_rosettaref34_State_value m) : FnOK Tryd.prog ⟨22, [.one (.ptr), .one (.int .i64), .one (.int .i64), .one (.int .i64)], [], fun x => rosettaref34_State_content (n + 1) (x.1) (x.2.1) (x.2.2.1) (x.2.2.2)⟩ :=
  fn_ok (P := Tryd.prog) (e := ⟨22, [.one (.ptr), .one (.int .i64), .one (.int .i64), .one (.int .i64)], [], fun x => rosettaref34_State_content (n + 1) (x.1) (x.2.1) (x.2.2.1) (x.2.2.2)⟩) (fn := Tryd.f22) (c := (bodyOf Tryd.f22)) (T := ⟨lookC (rosettaref34_State_content_ct n), lookL (rosettaref34_State_content_lt n), lookJ (rosettaref34_State_content_jt0 n), rosettaref34_State_content_dr⟩) (N := 400) (ps := [(0, .one (.ptr)), (1, .one (.int .i64)), (2, .one (.int .i64)), (3, .one (.int .i64))])
    (by kernel_rfl) (by kernel_rfl) (by kernel_rfl) (by kernel_rfl) (by kernel_rfl) (tabs_ok (P := Tryd.prog) (body := (bodyOf Tryd.f22)) (W := (149, none)) (cl := rosettaref34_State_content_ct n) (ll := rosettaref34_State_content_lt n) (dr := rosettaref34_State_content_dr) (fin := (finF Tryd.prog Tryd.f22 [])) (N := 400) (js := rosettaref34_State_content_jt0 n) (AllOK.cons (H n (Nat.lt_succ_self n)).1 (AllOK.cons (rosettaref34_State_fail_ok n) (AllOK.cons (rosettaref34_State_next_ok n) (AllOK.cons (rosettaref34_State_node_ok n) (AllOK.cons (rosettaref34_State_text_ok n) (AllOK.cons (rosettaref01_Valid_ok n) AllOK.nil)))))) (AllL.cons (rosettaref34_State_content_L0_ok n (fun k hk => H k (Nat.lt_succ_of_lt hk)) (by kernel_rfl)) AllL.nil) AllJ.nil) (fun x => by kernel_rfl)
theorem P_rosettaref34_State_value_all : ∀ n m, m < n → P_rosettaref34_State_value m := by
  intro n
  induction n with
  | zero => intro m hm; exact absurd hm (Nat.not_lt_zero m)
  | succ n ih =>
    intro m hm
    cases m with
    | zero => exact ⟨fn_zero (fn := Tryd.f12) (by kernel_rfl) (by kernel_rfl) (by kernel_rfl) (fun _ => rfl), fn_zero (fn := Tryd.f22) (by kernel_rfl) (by kernel_rfl) (by kernel_rfl) (fun _ => rfl)⟩
    | succ k => exact ⟨rosettaref34_State_value_ok_step k fun m hm => ih m (by omega), rosettaref34_State_content_ok_step k fun m hm => ih m (by omega)⟩
theorem rosettaref34_State_value_ok (n : Nat) : FnOK Tryd.prog ⟨12, [.one (.ptr), .agg [.int .i64, .int .i64, .int .i64, .int .i64, .int .i64, .int .i64, .int .i64, .bool, .bool], .one (.int .i64)], [.one (.int .i64)], fun x => rosettaref34_State_value n (x.1) (x.2.1) (x.2.2)⟩ := (P_rosettaref34_State_value_all (n + 1) n (Nat.lt_succ_self n)).1
theorem rosettaref34_State_content_ok (n : Nat) : FnOK Tryd.prog ⟨22, [.one (.ptr), .one (.int .i64), .one (.int .i64), .one (.int .i64)], [], fun x => rosettaref34_State_content n (x.1) (x.2.1) (x.2.2.1) (x.2.2.2)⟩ := (P_rosettaref34_State_value_all (n + 1) n (Nat.lt_succ_self n)).2
def rosettaref34_Parse_J0 (n : Nat) (a0 : Addr) (a1 : Option Addr) : M ((Int × ByteArray × Sl × Int × Sl × Sl) × Int × Int) :=
  M.bind (nn a1) fun x0 =>
  M.bind (ldL (li) (x0.plus 8)) fun (x1 : Int) =>
  if !decide (x1 = 0) then
    M.bind (nn a1) fun x2 =>
    M.bind (nn a1) fun x3 =>
    M.bind (ldL (li) (x2.plus 9)) fun (x4 : Int) =>
    M.bind (ldL (li) (x3.plus 8)) fun (x5 : Int) =>
    M.bind (chk [some (x2.plus 9), some (x3.plus 8)] (stN a0 [vi 0, Value.string (ofBytes []), vsl0, vi 0, vsl0, vsl0])) fun x6 =>
    M.bind (ldLs [li, .str, .sl, li, .sl, .sl] a0) fun (x7 : Int × ByteArray × Sl × Int × Sl × Sl) =>
    M.pure ((x7.1, x7.2.1, x7.2.2.1, x7.2.2.2.1, x7.2.2.2.2.1, x7.2.2.2.2.2), x4, x5)
  else
    M.bind (nn a1) fun x2 =>
    M.bind (ldLs [li, .str, .sl, li, .sl, .sl] (x2.plus 2)) fun (x3 : Int × ByteArray × Sl × Int × Sl × Sl) =>
    M.bind (stN a0 [vi x3.1, Value.string x3.2.1, vsl x3.2.2.1, vi x3.2.2.2.1, vsl x3.2.2.2.2.1, vsl x3.2.2.2.2.2]) fun x4 =>
    M.bind (ldLs [li, .str, .sl, li, .sl, .sl] a0) fun (x5 : Int × ByteArray × Sl × Int × Sl × Sl) =>
    M.pure ((x5.1, x5.2.1, x5.2.2.1, x5.2.2.2.1, x5.2.2.2.2.1, x5.2.2.2.2.2), 0, 0)
def rosettaref34_Parse (n : Nat) (a0 : ByteArray) : M ((Int × ByteArray × Sl × Int × Sl × Sl) × Int × Int) :=
  M.bind (newB none T_api_Doc [vi 0, Value.string (ofBytes []), vsl0, vi 0, vsl0, vsl0]) fun x0 =>
  if decide (65536 < (↑a0.size : Int)) then
    M.bind (stN (adr x0) [vi 0, Value.string (ofBytes []), vsl0, vi 0, vsl0, vsl0]) fun x1 =>
    M.bind (ldLs [li, .str, .sl, li, .sl, .sl] (adr x0)) fun (x2 : Int × ByteArray × Sl × Int × Sl × Sl) =>
    M.pure ((x2.1, x2.2.1, x2.2.2.1, x2.2.2.2.1, x2.2.2.2.2.1, x2.2.2.2.2.2), 0, 6)
  else
    M.bind (newB none T_rosettaref34_State [Value.string a0, vi 0, vi 5, Value.string a0, vsl0, vi 0, vsl0, vsl0, vi 0, vi 0]) fun x1 =>
    M.bind (rosettaref34_State_value n (some (adr x1)) (0, -1, 0, 0, 0, 0, 0, false, false) 0) fun x2 =>
    M.bind (nn (some (adr x1))) fun x3 =>
    M.bind (ldL (li) (x3.plus 8)) fun (x4 : Int) =>
    if decide (x4 = 0) then
      M.bind (nn (some (adr x1))) fun x5 =>
      M.bind (ldL (li) (x5.plus 1)) fun (x6 : Int) =>
      if decide (x6 < (↑a0.size : Int)) then
        M.bind (nn (some (adr x1))) fun x7 =>
        M.bind (ldL (li) (x7.plus 1)) fun (x8 : Int) =>
        M.bind (rosettaref34_State_fail n (some (adr x1)) 4 x8) fun x9 =>
        rosettaref34_Parse_J0 n (adr x0) (some (adr x1))
      else
        rosettaref34_Parse_J0 n (adr x0) (some (adr x1))
    else
      rosettaref34_Parse_J0 n (adr x0) (some (adr x1))
def rosettaref34_Parse_ct (n : Nat) : List Ent := [⟨12, [.one (.ptr), .agg [.int .i64, .int .i64, .int .i64, .int .i64, .int .i64, .int .i64, .int .i64, .bool, .bool], .one (.int .i64)], [.one (.int .i64)], fun x => rosettaref34_State_value n (x.1) (x.2.1) (x.2.2)⟩,
  ⟨13, [.one (.ptr), .one (.int .i64), .one (.int .i64)], [], fun x => rosettaref34_State_fail n (x.1) (x.2.1) (x.2.2)⟩]
def rosettaref34_Parse_dr (i : Nat) : Option (List (Nat × List Nat)) := cond (Nat.beq i 8) (some [(0, []), (1, []), (2, []), (3, []), (5, []), (6, []), (7, []), (4, []), (8, []), (9, [4, 8]), (10, []), (11, [])]) (none)
def rosettaref34_Parse_lt (n : Nat) : List LEnt := []
def rosettaref34_Parse_jt1 (n : Nat) : List (JEnt ((Int × ByteArray × Sl × Int × Sl × Sl) × Int × Int)) := []
def rosettaref34_Parse_jt0 (n : Nat) : List (JEnt ((Int × ByteArray × Sl × Int × Sl × Sl) × Int × Int)) := ⟨[0, 0, 1, 1, 1, 1, 1], [.code [1, 0, 1, 1, 1, 1, 1], .code [1, 1, 1, 1, 1, 1]], [(2, .one (.adr)), (5, .one (.ptr))], fun x => rosettaref34_Parse_J0 n (x.1) (x.2)⟩ :: rosettaref34_Parse_jt1 n
theorem rosettaref34_Parse_ok (n : Nat) : FnOK Tryd.prog ⟨8, [.one (.str)], [.agg [.int .i64, .str, .sl, .int .i64, .sl, .sl], .one (.int .i64), .one (.int .i64)], fun x => rosettaref34_Parse n (x)⟩ :=
  fn_ok (P := Tryd.prog) (e := ⟨8, [.one (.str)], [.agg [.int .i64, .str, .sl, .int .i64, .sl, .sl], .one (.int .i64), .one (.int .i64)], fun x => rosettaref34_Parse n (x)⟩) (fn := Tryd.f8) (c := (bodyOf Tryd.f8)) (T := ⟨lookC (rosettaref34_Parse_ct n), lookL (rosettaref34_Parse_lt n), lookJ (rosettaref34_Parse_jt0 n), rosettaref34_Parse_dr⟩) (N := 400) (ps := [(0, .one (.str))])
    (by kernel_rfl) (by kernel_rfl) (by kernel_rfl) (by kernel_rfl) (by kernel_rfl) (tabs_ok (P := Tryd.prog) (body := (bodyOf Tryd.f8)) (W := (56, none)) (cl := rosettaref34_Parse_ct n) (ll := rosettaref34_Parse_lt n) (dr := rosettaref34_Parse_dr) (fin := (finF Tryd.prog Tryd.f8 [.agg [.int .i64, .str, .sl, .int .i64, .sl, .sl], .one (.int .i64), .one (.int .i64)])) (N := 400) (js := rosettaref34_Parse_jt0 n) (AllOK.cons (rosettaref34_State_value_ok n) (AllOK.cons (rosettaref34_State_fail_ok n) AllOK.nil)) AllL.nil (AllJ.cons (fun x => by kernel_rfl) AllJ.nil)) (fun x => by kernel_rfl)
def rosettaref13_ints_L0_B (G : Sl → Sl → Int → M ((Unit) ⊕ (Bool))) (n : Nat) (a0 : Sl) (a1 : Sl) (a2 : Int) : M ((Unit) ⊕ (Bool)) :=
  if decide (a2 < (↑a0.len : Int)) then
    M.bind (idxA a0 a2 1) fun x0 =>
    M.bind (idxA a1 a2 1) fun x1 =>
    M.bind (ldL (li) x0) fun (x2 : Int) =>
    M.bind (ldL (li) x1) fun (x3 : Int) =>
    if !decide (x2 = x3) then
      M.pure (Sum.inr false)
    else
      G a0 a1 (IntKind.i64.wrap (a2 + 1))
  else
    M.pure (Sum.inl ())
def rosettaref13_ints_L0 : Nat → Sl → Sl → Int → M ((Unit) ⊕ (Bool))
  | 0 => fun _ _ _ => M.fail
  | n + 1 => rosettaref13_ints_L0_B (rosettaref13_ints_L0 n) n
theorem rosettaref13_ints_L0_succ (n : Nat) : rosettaref13_ints_L0 (n + 1) = rosettaref13_ints_L0_B (rosettaref13_ints_L0 n) n := rfl
def rosettaref13_ints (n : Nat) (a0 : Sl) (a1 : Sl) : M (Bool) :=
  if !decide ((↑a0.len : Int) = (↑a1.len : Int)) then
    M.pure false
  else
    M.bind (rosettaref13_ints_L0 n a0 a1 0) (sumElim (fun x0 =>
      M.pure true)
    (fun x0 =>
      M.pure x0))
def rosettaref13_ints_ct (n : Nat) : List Ent := []
def rosettaref13_ints_dr (i : Nat) : Option (List (Nat × List Nat)) := cond (Nat.beq i 6) (some [(0, []), (1, []), (2, []), (4, []), (5, []), (6, []), (3, []), (7, []), (8, [])]) (none)
def rosettaref13_ints_L0_lt (n : Nat) : List LEnt := []
def rosettaref13_ints_L0_jt0 (n : Nat) : List (JEnt ((Unit) ⊕ (Bool))) := []
def rosettaref13_ints_lt (n : Nat) : List LEnt := [⟨[0, 1, 0, 1, 1], [(0, .one (.sl)), (1, .one (.sl)), (5, .one (.int .i64))], actL2 [(0, .one (.sl)), (1, .one (.sl)), (5, .one (.int .i64))] [] [(4, .one (.bool))] [4, 5, 11, 12, 13, 14, 15, 16, 17, 18, 19, 20, 21, 22, 23, 24, 25] 0 .ret (fun x => rosettaref13_ints_L0 n (x.1) (x.2.1) (x.2.2))⟩]
def rosettaref13_ints_jt0 (n : Nat) : List (JEnt (Bool)) := []
theorem rosettaref13_ints_L0_ok (n : Nat) {W : Wr} (hW : subW W 26 [4, 5, 11, 12, 13, 14, 15, 16, 17, 18, 19, 20, 21, 22, 23, 24, 25] = true) : LEntOK Tryd.prog (bodyOf Tryd.f34) W ⟨[0, 1, 0, 1, 1], [(0, .one (.sl)), (1, .one (.sl)), (5, .one (.int .i64))], actL2 [(0, .one (.sl)), (1, .one (.sl)), (5, .one (.int .i64))] [] [(4, .one (.bool))] [4, 5, 11, 12, 13, 14, 15, 16, 17, 18, 19, 20, 21, 22, 23, 24, 25] 0 .ret (fun x => rosettaref13_ints_L0 n (x.1) (x.2.1) (x.2.2))⟩ :=
  loop2_ok (P := Tryd.prog) (body := (bodyOf Tryd.f34)) (c := child (codeAt (bodyOf Tryd.f34) [0, 1, 0, 1, 1]) 0) (p := [0, 1, 0, 1, 1]) (ls := [(0, .one (.sl)), (1, .one (.sl)), (5, .one (.int .i64))]) (ms := []) (rs := [(4, .one (.bool))]) (id := 0) (e2 := .ret) (nt := 26) (ws := [4, 5, 11, 12, 13, 14, 15, 16, 17, 18, 19, 20, 21, 22, 23, 24, 25]) (N := 400) (G := (fun n x => rosettaref13_ints_L0 n (x.1) (x.2.1) (x.2.2))) (T := fun n => ⟨lookC (rosettaref13_ints_ct n), lookL (rosettaref13_ints_L0_lt n), lookJ (rosettaref13_ints_L0_jt0 n), rosettaref13_ints_dr⟩)
    (by kernel_rfl) (fun _ => by kernel_rfl) (fun n x => by kernel_rfl) n (fun m hm => (tabs_ok (P := Tryd.prog) (body := (bodyOf Tryd.f34)) (W := (26, some [4, 5, 11, 12, 13, 14, 15, 16, 17, 18, 19, 20, 21, 22, 23, 24, 25])) (cl := rosettaref13_ints_ct m) (ll := rosettaref13_ints_L0_lt m) (dr := rosettaref13_ints_dr) (fin := (finL2 [(0, .one (.sl)), (1, .one (.sl)), (5, .one (.int .i64))] [] [(4, .one (.bool))] 0 .ret (fun x => rosettaref13_ints_L0 m (x.1) (x.2.1) (x.2.2)))) (N := 400) (js := rosettaref13_ints_L0_jt0 m) AllOK.nil AllL.nil AllJ.nil)) hW
theorem rosettaref13_ints_ok (n : Nat) : FnOK Tryd.prog ⟨34, [.one (.sl), .one (.sl)], [.one (.bool)], fun x => rosettaref13_ints n (x.1) (x.2)⟩ :=
  fn_ok (P := Tryd.prog) (e := ⟨34, [.one (.sl), .one (.sl)], [.one (.bool)], fun x => rosettaref13_ints n (x.1) (x.2)⟩) (fn := Tryd.f34) (c := (bodyOf Tryd.f34)) (T := ⟨lookC (rosettaref13_ints_ct n), lookL (rosettaref13_ints_lt n), lookJ (rosettaref13_ints_jt0 n), rosettaref13_ints_dr⟩) (N := 400) (ps := [(0, .one (.sl)), (1, .one (.sl))])
    (by kernel_rfl) (by kernel_rfl) (by kernel_rfl) (by kernel_rfl) (by kernel_rfl) (tabs_ok (P := Tryd.prog) (body := (bodyOf Tryd.f34)) (W := (26, none)) (cl := rosettaref13_ints_ct n) (ll := rosettaref13_ints_lt n) (dr := rosettaref13_ints_dr) (fin := (finF Tryd.prog Tryd.f34 [.one (.bool)])) (N := 400) (js := rosettaref13_ints_jt0 n) AllOK.nil (AllL.cons (rosettaref13_ints_L0_ok n (by kernel_rfl)) AllL.nil) AllJ.nil) (fun x => by kernel_rfl)
def rosettaref13_Is_L0_B (G : Addr → Addr → Int → M ((Unit) ⊕ (Bool))) (n : Nat) (a0 : Addr) (a1 : Addr) (a2 : Int) : M ((Unit) ⊕ (Bool)) :=
  M.bind (ldL .sl (a0.plus 0)) fun (x0 : Sl) =>
  if decide (a2 < (↑x0.len : Int)) then
    M.bind (reserve 14) fun x1 =>
    M.bind (ldL .sl (a0.plus 0)) fun (x2 : Sl) =>
    M.bind (idxA x2 a2 5) fun x3 =>
    M.bind (ldLs [li, .str, .bool, .sl, .sl] x3) fun (x4 : Int × ByteArray × Bool × Sl × Sl) =>
    M.bind (ldL .sl (a1.plus 0)) fun (x5 : Sl) =>
    M.bind (idxA x5 a2 5) fun x6 =>
    M.bind (ldLs [li, .str, .bool, .sl, .sl] x6) fun (x7 : Int × ByteArray × Bool × Sl × Sl) =>
    M.bind (newB (some (x1 + 10)) T_api_Node [vi 0, Value.string (ofBytes []), Value.bool false, vsl0, vsl0]) fun x8 =>
    M.bind (newB (some (x1 + 11)) T_api_Node [vi 0, Value.string (ofBytes []), Value.bool false, vsl0, vsl0]) fun x9 =>
    M.bind (chk [some (a1.plus 0), some x6] (stN (adr x8) [vi x4.1, Value.string x4.2.1, Value.bool x4.2.2.1, vsl x4.2.2.2.1, vsl x4.2.2.2.2])) fun x10 =>
    M.bind (stN (adr x9) [vi x7.1, Value.string x7.2.1, Value.bool x7.2.2.1, vsl x7.2.2.2.1, vsl x7.2.2.2.2]) fun x11 =>
    M.bind (ldL (li) ((adr x8).plus 0)) fun (x12 : Int) =>
    M.bind (ldL (li) ((adr x9).plus 0)) fun (x13 : Int) =>
    if !decide (x12 = x13) then
      M.pure (Sum.inr false)
    else
      M.bind (ldL .str ((adr x8).plus 1)) fun (x14 : ByteArray) =>
      M.bind (ldL .str ((adr x9).plus 1)) fun (x15 : ByteArray) =>
      if !eqS x14 x15 then
        M.pure (Sum.inr false)
      else
        M.bind (ldL .bool ((adr x8).plus 2)) fun (x16 : Bool) =>
        M.bind (ldL .bool ((adr x9).plus 2)) fun (x17 : Bool) =>
        if !x16 == x17 then
          M.pure (Sum.inr false)
        else
          M.bind (ldL .sl ((adr x8).plus 3)) fun (x18 : Sl) =>
          M.bind (ldL .sl ((adr x9).plus 3)) fun (x19 : Sl) =>
          M.bind (rosettaref13_ints n x18 x19) fun x20 =>
          if !x20 then
            M.pure (Sum.inr false)
          else
            M.bind (ldL .sl ((adr x8).plus 4)) fun (x21 : Sl) =>
            M.bind (ldL .sl ((adr x9).plus 4)) fun (x22 : Sl) =>
            M.bind (rosettaref13_ints n x21 x22) fun x23 =>
            if !x23 then
              M.pure (Sum.inr false)
            else
              G a0 a1 (IntKind.i64.wrap (a2 + 1))
  else
    M.pure (Sum.inl ())
def rosettaref13_Is_L0 : Nat → Addr → Addr → Int → M ((Unit) ⊕ (Bool))
  | 0 => fun _ _ _ => M.fail
  | n + 1 => rosettaref13_Is_L0_B (rosettaref13_Is_L0 n) n
theorem rosettaref13_Is_L0_succ (n : Nat) : rosettaref13_Is_L0 (n + 1) = rosettaref13_Is_L0_B (rosettaref13_Is_L0 n) n := rfl
def rosettaref13_Is (n : Nat) (a0 : Sl × Int) (a1 : Sl × Int) : M (Bool) :=
  M.bind (newB none T_api_Graph [vsl a0.1, vi a0.2]) fun x0 =>
  M.bind (newB none T_api_Graph [vsl a1.1, vi a1.2]) fun x1 =>
  M.bind (ldL (li) ((adr x0).plus 1)) fun (x2 : Int) =>
  M.bind (ldL (li) ((adr x1).plus 1)) fun (x3 : Int) =>
  if !decide (x2 = x3) then
    M.pure false
  else
    M.bind (ldL .sl ((adr x0).plus 0)) fun (x4 : Sl) =>
    M.bind (ldL .sl ((adr x1).plus 0)) fun (x5 : Sl) =>
    if !decide ((↑x4.len : Int) = (↑x5.len : Int)) then
      M.pure false
    else
      M.bind (rosettaref13_Is_L0 n (adr x0) (adr x1) 0) (sumElim (fun x6 =>
        M.pure true)
      (fun x6 =>
        M.pure x6))
def rosettaref13_Is_ct (n : Nat) : List Ent := [⟨34, [.one (.sl), .one (.sl)], [.one (.bool)], fun x => rosettaref13_ints n (x.1) (x.2)⟩]
def rosettaref13_Is_dr (i : Nat) : Option (List (Nat × List Nat)) := cond (Nat.beq i 6) (some [(0, []), (2, []), (5, []), (7, []), (1, []), (3, []), (4, []), (6, []), (8, []), (9, []), (10, []), (11, []), (12, [6, 9]), (13, [])]) (none)
def rosettaref13_Is_L0_lt (n : Nat) : List LEnt := []
def rosettaref13_Is_L0_jt0 (n : Nat) : List (JEnt ((Unit) ⊕ (Bool))) := []
def rosettaref13_Is_lt (n : Nat) : List LEnt := [⟨[0, 1, 0, 1, 1], [(2, .one (.adr)), (3, .one (.adr)), (5, .one (.int .i64))], actL2 [(2, .one (.adr)), (3, .one (.adr)), (5, .one (.int .i64))] [] [(4, .one (.bool))] [4, 5, 6, 7, 22, 23, 24, 25, 26, 27, 28, 29, 30, 31, 32, 33, 34, 35, 36, 37, 38, 39, 40, 41, 42, 43, 44, 45, 46, 47, 48, 49, 50, 51, 52, 53, 54, 55, 56, 57, 58, 59, 60, 61, 62, 63, 64, 65, 66, 67, 68, 69, 70, 71, 72, 73] 0 .ret (fun x => rosettaref13_Is_L0 n (x.1) (x.2.1) (x.2.2))⟩]
def rosettaref13_Is_jt0 (n : Nat) : List (JEnt (Bool)) := []
theorem rosettaref13_Is_L0_ok (n : Nat) {W : Wr} (hW : subW W 74 [4, 5, 6, 7, 22, 23, 24, 25, 26, 27, 28, 29, 30, 31, 32, 33, 34, 35, 36, 37, 38, 39, 40, 41, 42, 43, 44, 45, 46, 47, 48, 49, 50, 51, 52, 53, 54, 55, 56, 57, 58, 59, 60, 61, 62, 63, 64, 65, 66, 67, 68, 69, 70, 71, 72, 73] = true) : LEntOK Tryd.prog (bodyOf Tryd.f26) W ⟨[0, 1, 0, 1, 1], [(2, .one (.adr)), (3, .one (.adr)), (5, .one (.int .i64))], actL2 [(2, .one (.adr)), (3, .one (.adr)), (5, .one (.int .i64))] [] [(4, .one (.bool))] [4, 5, 6, 7, 22, 23, 24, 25, 26, 27, 28, 29, 30, 31, 32, 33, 34, 35, 36, 37, 38, 39, 40, 41, 42, 43, 44, 45, 46, 47, 48, 49, 50, 51, 52, 53, 54, 55, 56, 57, 58, 59, 60, 61, 62, 63, 64, 65, 66, 67, 68, 69, 70, 71, 72, 73] 0 .ret (fun x => rosettaref13_Is_L0 n (x.1) (x.2.1) (x.2.2))⟩ :=
  loop2_ok (P := Tryd.prog) (body := (bodyOf Tryd.f26)) (c := child (codeAt (bodyOf Tryd.f26) [0, 1, 0, 1, 1]) 0) (p := [0, 1, 0, 1, 1]) (ls := [(2, .one (.adr)), (3, .one (.adr)), (5, .one (.int .i64))]) (ms := []) (rs := [(4, .one (.bool))]) (id := 0) (e2 := .ret) (nt := 74) (ws := [4, 5, 6, 7, 22, 23, 24, 25, 26, 27, 28, 29, 30, 31, 32, 33, 34, 35, 36, 37, 38, 39, 40, 41, 42, 43, 44, 45, 46, 47, 48, 49, 50, 51, 52, 53, 54, 55, 56, 57, 58, 59, 60, 61, 62, 63, 64, 65, 66, 67, 68, 69, 70, 71, 72, 73]) (N := 400) (G := (fun n x => rosettaref13_Is_L0 n (x.1) (x.2.1) (x.2.2))) (T := fun n => ⟨lookC (rosettaref13_Is_ct n), lookL (rosettaref13_Is_L0_lt n), lookJ (rosettaref13_Is_L0_jt0 n), rosettaref13_Is_dr⟩)
    (by kernel_rfl) (fun _ => by kernel_rfl) (fun n x => by kernel_rfl) n (fun m hm => (tabs_ok (P := Tryd.prog) (body := (bodyOf Tryd.f26)) (W := (74, some [4, 5, 6, 7, 22, 23, 24, 25, 26, 27, 28, 29, 30, 31, 32, 33, 34, 35, 36, 37, 38, 39, 40, 41, 42, 43, 44, 45, 46, 47, 48, 49, 50, 51, 52, 53, 54, 55, 56, 57, 58, 59, 60, 61, 62, 63, 64, 65, 66, 67, 68, 69, 70, 71, 72, 73])) (cl := rosettaref13_Is_ct m) (ll := rosettaref13_Is_L0_lt m) (dr := rosettaref13_Is_dr) (fin := (finL2 [(2, .one (.adr)), (3, .one (.adr)), (5, .one (.int .i64))] [] [(4, .one (.bool))] 0 .ret (fun x => rosettaref13_Is_L0 m (x.1) (x.2.1) (x.2.2)))) (N := 400) (js := rosettaref13_Is_L0_jt0 m) (AllOK.cons (rosettaref13_ints_ok m) AllOK.nil) AllL.nil AllJ.nil)) hW
theorem rosettaref13_Is_ok (n : Nat) : FnOK Tryd.prog ⟨26, [.agg [.sl, .int .i64], .agg [.sl, .int .i64]], [.one (.bool)], fun x => rosettaref13_Is n (x.1) (x.2)⟩ :=
  fn_ok (P := Tryd.prog) (e := ⟨26, [.agg [.sl, .int .i64], .agg [.sl, .int .i64]], [.one (.bool)], fun x => rosettaref13_Is n (x.1) (x.2)⟩) (fn := Tryd.f26) (c := (bodyOf Tryd.f26)) (T := ⟨lookC (rosettaref13_Is_ct n), lookL (rosettaref13_Is_lt n), lookJ (rosettaref13_Is_jt0 n), rosettaref13_Is_dr⟩) (N := 400) (ps := [(0, .agg [.sl, .int .i64]), (1, .agg [.sl, .int .i64])])
    (by kernel_rfl) (by kernel_rfl) (by kernel_rfl) (by kernel_rfl) (by kernel_rfl) (tabs_ok (P := Tryd.prog) (body := (bodyOf Tryd.f26)) (W := (74, none)) (cl := rosettaref13_Is_ct n) (ll := rosettaref13_Is_lt n) (dr := rosettaref13_Is_dr) (fin := (finF Tryd.prog Tryd.f26 [.one (.bool)])) (N := 400) (js := rosettaref13_Is_jt0 n) (AllOK.cons (rosettaref13_ints_ok n) AllOK.nil) (AllL.cons (rosettaref13_Is_L0_ok n (by kernel_rfl)) AllL.nil) AllJ.nil) (fun x => by kernel_rfl)
def rosettaref18_SameGraph (n : Nat) (a0 : Sl × Int) (a1 : Sl × Int) : M (Bool) :=
  M.bind (newB none T_api_Graph [vsl a0.1, vi a0.2]) fun x0 =>
  M.bind (newB none T_api_Graph [vsl a1.1, vi a1.2]) fun x1 =>
  M.bind (ldLs [.sl, li] (adr x0)) fun (x2 : Sl × Int) =>
  M.bind (ldLs [.sl, li] (adr x1)) fun (x3 : Sl × Int) =>
  M.bind (rosettaref13_Is n (x2.1, x2.2) (x3.1, x3.2)) fun x4 =>
  M.pure x4
def rosettaref18_SameGraph_ct (n : Nat) : List Ent := [⟨26, [.agg [.sl, .int .i64], .agg [.sl, .int .i64]], [.one (.bool)], fun x => rosettaref13_Is n (x.1) (x.2)⟩]
def rosettaref18_SameGraph_dr (i : Nat) : Option (List (Nat × List Nat)) := none
def rosettaref18_SameGraph_lt (n : Nat) : List LEnt := []
def rosettaref18_SameGraph_jt0 (n : Nat) : List (JEnt (Bool)) := []
theorem rosettaref18_SameGraph_ok (n : Nat) : FnOK Tryd.prog ⟨14, [.agg [.sl, .int .i64], .agg [.sl, .int .i64]], [.one (.bool)], fun x => rosettaref18_SameGraph n (x.1) (x.2)⟩ :=
  fn_ok (P := Tryd.prog) (e := ⟨14, [.agg [.sl, .int .i64], .agg [.sl, .int .i64]], [.one (.bool)], fun x => rosettaref18_SameGraph n (x.1) (x.2)⟩) (fn := Tryd.f14) (c := (bodyOf Tryd.f14)) (T := ⟨lookC (rosettaref18_SameGraph_ct n), lookL (rosettaref18_SameGraph_lt n), lookJ (rosettaref18_SameGraph_jt0 n), rosettaref18_SameGraph_dr⟩) (N := 400) (ps := [(0, .agg [.sl, .int .i64]), (1, .agg [.sl, .int .i64])])
    (by kernel_rfl) (by kernel_rfl) (by kernel_rfl) (by kernel_rfl) (by kernel_rfl) (tabs_ok (P := Tryd.prog) (body := (bodyOf Tryd.f14)) (W := (8, none)) (cl := rosettaref18_SameGraph_ct n) (ll := rosettaref18_SameGraph_lt n) (dr := rosettaref18_SameGraph_dr) (fin := (finF Tryd.prog Tryd.f14 [.one (.bool)])) (N := 400) (js := rosettaref18_SameGraph_jt0 n) (AllOK.cons (rosettaref13_Is_ok n) AllOK.nil) AllL.nil AllJ.nil) (fun x => by kernel_rfl)
def rosettaref18_SameDoc_L1_B (G : Addr → Addr → Int → M ((Unit) ⊕ (Bool))) (n : Nat) (a0 : Addr) (a1 : Addr) (a2 : Int) : M ((Unit) ⊕ (Bool)) :=
  M.bind (ldL .sl (a0.plus 5)) fun (x0 : Sl) =>
  if decide (a2 < (↑x0.len : Int)) then
    M.bind (ldL .sl (a0.plus 5)) fun (x1 : Sl) =>
    M.bind (idxA x1 a2 3) fun x2 =>
    M.bind (ldLs [li, li, .str] x2) fun (x3 : Int × Int × ByteArray) =>
    M.bind (ldL .sl (a1.plus 5)) fun (x4 : Sl) =>
    M.bind (idxA x4 a2 3) fun x5 =>
    M.bind (ldLs [li, li, .str] x5) fun (x6 : Int × Int × ByteArray) =>
    if !(decide (x3.1 = x6.1) && (decide (x3.2.1 = x6.2.1) && (eqS x3.2.2 x6.2.2 && true))) then
      M.pure (Sum.inr false)
    else
      G a0 a1 (IntKind.i64.wrap (a2 + 1))
  else
    M.pure (Sum.inl ())
def rosettaref18_SameDoc_L1 : Nat → Addr → Addr → Int → M ((Unit) ⊕ (Bool))
  | 0 => fun _ _ _ => M.fail
  | n + 1 => rosettaref18_SameDoc_L1_B (rosettaref18_SameDoc_L1 n) n
theorem rosettaref18_SameDoc_L1_succ (n : Nat) : rosettaref18_SameDoc_L1 (n + 1) = rosettaref18_SameDoc_L1_B (rosettaref18_SameDoc_L1 n) n := rfl
def rosettaref18_SameDoc_L0_B (G : Addr → Addr → Int → M ((Unit) ⊕ (Bool))) (n : Nat) (a0 : Addr) (a1 : Addr) (a2 : Int) : M ((Unit) ⊕ (Bool)) :=
  M.bind (ldL .sl (a0.plus 4)) fun (x0 : Sl) =>
  if decide (a2 < (↑x0.len : Int)) then
    M.bind (ldL .sl (a0.plus 4)) fun (x1 : Sl) =>
    M.bind (idxA x1 a2 9) fun x2 =>
    M.bind (ldLs [li, li, li, li, li, li, li, .bool, .bool] x2) fun (x3 : Int × Int × Int × Int × Int × Int × Int × Bool × Bool) =>
    M.bind (ldL .sl (a1.plus 4)) fun (x4 : Sl) =>
    M.bind (idxA x4 a2 9) fun x5 =>
    M.bind (ldLs [li, li, li, li, li, li, li, .bool, .bool] x5) fun (x6 : Int × Int × Int × Int × Int × Int × Int × Bool × Bool) =>
    if !(decide (x3.1 = x6.1) && (decide (x3.2.1 = x6.2.1) && (decide (x3.2.2.1 = x6.2.2.1) && (decide (x3.2.2.2.1 = x6.2.2.2.1) && (decide (x3.2.2.2.2.1 = x6.2.2.2.2.1) && (decide (x3.2.2.2.2.2.1 = x6.2.2.2.2.2.1) && (decide (x3.2.2.2.2.2.2.1 = x6.2.2.2.2.2.2.1) && (x3.2.2.2.2.2.2.2.1 == x6.2.2.2.2.2.2.2.1 && (x3.2.2.2.2.2.2.2.2 == x6.2.2.2.2.2.2.2.2 && true))))))))) then
      M.pure (Sum.inr false)
    else
      G a0 a1 (IntKind.i64.wrap (a2 + 1))
  else
    M.pure (Sum.inl ())
def rosettaref18_SameDoc_L0 : Nat → Addr → Addr → Int → M ((Unit) ⊕ (Bool))
  | 0 => fun _ _ _ => M.fail
  | n + 1 => rosettaref18_SameDoc_L0_B (rosettaref18_SameDoc_L0 n) n
theorem rosettaref18_SameDoc_L0_succ (n : Nat) : rosettaref18_SameDoc_L0 (n + 1) = rosettaref18_SameDoc_L0_B (rosettaref18_SameDoc_L0 n) n := rfl
def rosettaref18_SameDoc_J0 (n : Nat) (a0 : Addr) (a1 : Addr) : M (Bool) :=
  M.bind (rosettaref18_SameDoc_L0 n a0 a1 0) (sumElim (fun x0 =>
    M.bind (rosettaref18_SameDoc_L1 n a0 a1 0) (sumElim (fun x1 =>
      M.pure true)
    (fun x1 =>
      M.pure x1)))
  (fun x0 =>
    M.pure x0))
def rosettaref18_SameDoc (n : Nat) (a0 : Int × ByteArray × Sl × Int × Sl × Sl) (a1 : Int × ByteArray × Sl × Int × Sl × Sl) : M (Bool) :=
  M.bind (newB none T_api_Doc [vi a0.1, Value.string a0.2.1, vsl a0.2.2.1, vi a0.2.2.2.1, vsl a0.2.2.2.2.1, vsl a0.2.2.2.2.2]) fun x0 =>
  M.bind (newB none T_api_Doc [vi a1.1, Value.string a1.2.1, vsl a1.2.2.1, vi a1.2.2.2.1, vsl a1.2.2.2.2.1, vsl a1.2.2.2.2.2]) fun x1 =>
  M.bind (ldL (li) ((adr x0).plus 0)) fun (x2 : Int) =>
  M.bind (ldL (li) ((adr x1).plus 0)) fun (x3 : Int) =>
  if !decide (x2 = x3) then
    M.pure false
  else
    M.bind (ldL .str ((adr x0).plus 1)) fun (x4 : ByteArray) =>
    M.bind (ldL .str ((adr x1).plus 1)) fun (x5 : ByteArray) =>
    if !eqS x4 x5 then
      M.pure false
    else
      M.bind (ldLs [.sl, li] ((adr x0).plus 2)) fun (x6 : Sl × Int) =>
      M.bind (ldLs [.sl, li] ((adr x1).plus 2)) fun (x7 : Sl × Int) =>
      M.bind (rosettaref18_SameGraph n (x6.1, x6.2) (x7.1, x7.2)) fun x8 =>
      if !x8 then
        M.pure false
      else
        M.bind (ldL .sl ((adr x0).plus 4)) fun (x9 : Sl) =>
        M.bind (ldL .sl ((adr x1).plus 4)) fun (x10 : Sl) =>
        if !decide ((↑x9.len : Int) = (↑x10.len : Int)) then
          M.pure false
        else
          M.bind (ldL .sl ((adr x0).plus 5)) fun (x11 : Sl) =>
          M.bind (ldL .sl ((adr x1).plus 5)) fun (x12 : Sl) =>
          if !decide ((↑x11.len : Int) = (↑x12.len : Int)) then
            M.pure false
          else
            rosettaref18_SameDoc_J0 n (adr x0) (adr x1)
def rosettaref18_SameDoc_ct (n : Nat) : List Ent := [⟨14, [.agg [.sl, .int .i64], .agg [.sl, .int .i64]], [.one (.bool)], fun x => rosettaref18_SameGraph n (x.1) (x.2)⟩]
def rosettaref18_SameDoc_dr (i : Nat) : Option (List (Nat × List Nat)) := cond (Nat.beq i 6) (some [(0, []), (2, []), (5, []), (7, []), (1, []), (3, []), (4, []), (6, []), (8, []), (9, []), (10, [])]) (cond (Nat.beq i 11) (some [(0, []), (2, []), (5, []), (7, []), (1, []), (3, []), (4, []), (6, []), (8, []), (9, []), (10, [])]) (none))
def rosettaref18_SameDoc_L1_lt (n : Nat) : List LEnt := []
def rosettaref18_SameDoc_L1_jt0 (n : Nat) : List (JEnt ((Unit) ⊕ (Bool))) := []
def rosettaref18_SameDoc_L0_lt (n : Nat) : List LEnt := []
def rosettaref18_SameDoc_L0_jt0 (n : Nat) : List (JEnt ((Unit) ⊕ (Bool))) := []
def rosettaref18_SameDoc_lt (n : Nat) : List LEnt := [⟨[0, 1, 0, 1, 1], [(2, .one (.adr)), (3, .one (.adr)), (5, .one (.int .i64))], actL2 [(2, .one (.adr)), (3, .one (.adr)), (5, .one (.int .i64))] [] [(4, .one (.bool))] [4, 5, 45, 46, 47, 48, 49, 50, 51, 52, 53, 54, 55, 56, 57, 58, 59, 60, 61, 62] 0 .ret (fun x => rosettaref18_SameDoc_L0 n (x.1) (x.2.1) (x.2.2))⟩,
  ⟨[0, 1, 0, 1, 1, 1], [(2, .one (.adr)), (3, .one (.adr)), (6, .one (.int .i64))], actL2 [(2, .one (.adr)), (3, .one (.adr)), (6, .one (.int .i64))] [] [(4, .one (.bool))] [4, 6, 63, 64, 65, 66, 67, 68, 69, 70, 71, 72, 73, 74, 75, 76, 77, 78, 79, 80] 2 .ret (fun x => rosettaref18_SameDoc_L1 n (x.1) (x.2.1) (x.2.2))⟩]
def rosettaref18_SameDoc_jt1 (n : Nat) : List (JEnt (Bool)) := []
def rosettaref18_SameDoc_jt0 (n : Nat) : List (JEnt (Bool)) := ⟨[0, 0, 1, 1], [.code [1, 0, 1, 1], .code [1, 1, 1]], [(2, .one (.adr)), (3, .one (.adr))], fun x => rosettaref18_SameDoc_J0 n (x.1) (x.2)⟩ :: rosettaref18_SameDoc_jt1 n
theorem rosettaref18_SameDoc_L1_ok (n : Nat) {W : Wr} (hW : subW W 81 [4, 6, 63, 64, 65, 66, 67, 68, 69, 70, 71, 72, 73, 74, 75, 76, 77, 78, 79, 80] = true) : LEntOK Tryd.prog (bodyOf Tryd.f9) W ⟨[0, 1, 0, 1, 1, 1], [(2, .one (.adr)), (3, .one (.adr)), (6, .one (.int .i64))], actL2 [(2, .one (.adr)), (3, .one (.adr)), (6, .one (.int .i64))] [] [(4, .one (.bool))] [4, 6, 63, 64, 65, 66, 67, 68, 69, 70, 71, 72, 73, 74, 75, 76, 77, 78, 79, 80] 2 .ret (fun x => rosettaref18_SameDoc_L1 n (x.1) (x.2.1) (x.2.2))⟩ :=
  loop2_ok (P := Tryd.prog) (body := (bodyOf Tryd.f9)) (c := child (codeAt (bodyOf Tryd.f9) [0, 1, 0, 1, 1, 1]) 0) (p := [0, 1, 0, 1, 1, 1]) (ls := [(2, .one (.adr)), (3, .one (.adr)), (6, .one (.int .i64))]) (ms := []) (rs := [(4, .one (.bool))]) (id := 2) (e2 := .ret) (nt := 81) (ws := [4, 6, 63, 64, 65, 66, 67, 68, 69, 70, 71, 72, 73, 74, 75, 76, 77, 78, 79, 80]) (N := 400) (G := (fun n x => rosettaref18_SameDoc_L1 n (x.1) (x.2.1) (x.2.2))) (T := fun n => ⟨lookC (rosettaref18_SameDoc_ct n), lookL (rosettaref18_SameDoc_L1_lt n), lookJ (rosettaref18_SameDoc_L1_jt0 n), rosettaref18_SameDoc_dr⟩)
    (by kernel_rfl) (fun _ => by kernel_rfl) (fun n x => by kernel_rfl) n (fun m hm => (tabs_ok (P := Tryd.prog) (body := (bodyOf Tryd.f9)) (W := (81, some [4, 6, 63, 64, 65, 66, 67, 68, 69, 70, 71, 72, 73, 74, 75, 76, 77, 78, 79, 80])) (cl := rosettaref18_SameDoc_ct m) (ll := rosettaref18_SameDoc_L1_lt m) (dr := rosettaref18_SameDoc_dr) (fin := (finL2 [(2, .one (.adr)), (3, .one (.adr)), (6, .one (.int .i64))] [] [(4, .one (.bool))] 2 .ret (fun x => rosettaref18_SameDoc_L1 m (x.1) (x.2.1) (x.2.2)))) (N := 400) (js := rosettaref18_SameDoc_L1_jt0 m) (AllOK.cons (rosettaref18_SameGraph_ok m) AllOK.nil) AllL.nil AllJ.nil)) hW
theorem rosettaref18_SameDoc_L0_ok (n : Nat) {W : Wr} (hW : subW W 81 [4, 5, 45, 46, 47, 48, 49, 50, 51, 52, 53, 54, 55, 56, 57, 58, 59, 60, 61, 62] = true) : LEntOK Tryd.prog (bodyOf Tryd.f9) W ⟨[0, 1, 0, 1, 1], [(2, .one (.adr)), (3, .one (.adr)), (5, .one (.int .i64))], actL2 [(2, .one (.adr)), (3, .one (.adr)), (5, .one (.int .i64))] [] [(4, .one (.bool))] [4, 5, 45, 46, 47, 48, 49, 50, 51, 52, 53, 54, 55, 56, 57, 58, 59, 60, 61, 62] 0 .ret (fun x => rosettaref18_SameDoc_L0 n (x.1) (x.2.1) (x.2.2))⟩ :=
  loop2_ok (P := Tryd.prog) (body := (bodyOf Tryd.f9)) (c := child (codeAt (bodyOf Tryd.f9) [0, 1, 0, 1, 1]) 0) (p := [0, 1, 0, 1, 1]) (ls := [(2, .one (.adr)), (3, .one (.adr)), (5, .one (.int .i64))]) (ms := []) (rs := [(4, .one (.bool))]) (id := 0) (e2 := .ret) (nt := 81) (ws := [4, 5, 45, 46, 47, 48, 49, 50, 51, 52, 53, 54, 55, 56, 57, 58, 59, 60, 61, 62]) (N := 400) (G := (fun n x => rosettaref18_SameDoc_L0 n (x.1) (x.2.1) (x.2.2))) (T := fun n => ⟨lookC (rosettaref18_SameDoc_ct n), lookL (rosettaref18_SameDoc_L0_lt n), lookJ (rosettaref18_SameDoc_L0_jt0 n), rosettaref18_SameDoc_dr⟩)
    (by kernel_rfl) (fun _ => by kernel_rfl) (fun n x => by kernel_rfl) n (fun m hm => (tabs_ok (P := Tryd.prog) (body := (bodyOf Tryd.f9)) (W := (81, some [4, 5, 45, 46, 47, 48, 49, 50, 51, 52, 53, 54, 55, 56, 57, 58, 59, 60, 61, 62])) (cl := rosettaref18_SameDoc_ct m) (ll := rosettaref18_SameDoc_L0_lt m) (dr := rosettaref18_SameDoc_dr) (fin := (finL2 [(2, .one (.adr)), (3, .one (.adr)), (5, .one (.int .i64))] [] [(4, .one (.bool))] 0 .ret (fun x => rosettaref18_SameDoc_L0 m (x.1) (x.2.1) (x.2.2)))) (N := 400) (js := rosettaref18_SameDoc_L0_jt0 m) (AllOK.cons (rosettaref18_SameGraph_ok m) AllOK.nil) AllL.nil AllJ.nil)) hW
theorem rosettaref18_SameDoc_ok (n : Nat) : FnOK Tryd.prog ⟨9, [.agg [.int .i64, .str, .sl, .int .i64, .sl, .sl], .agg [.int .i64, .str, .sl, .int .i64, .sl, .sl]], [.one (.bool)], fun x => rosettaref18_SameDoc n (x.1) (x.2)⟩ :=
  fn_ok (P := Tryd.prog) (e := ⟨9, [.agg [.int .i64, .str, .sl, .int .i64, .sl, .sl], .agg [.int .i64, .str, .sl, .int .i64, .sl, .sl]], [.one (.bool)], fun x => rosettaref18_SameDoc n (x.1) (x.2)⟩) (fn := Tryd.f9) (c := (bodyOf Tryd.f9)) (T := ⟨lookC (rosettaref18_SameDoc_ct n), lookL (rosettaref18_SameDoc_lt n), lookJ (rosettaref18_SameDoc_jt0 n), rosettaref18_SameDoc_dr⟩) (N := 400) (ps := [(0, .agg [.int .i64, .str, .sl, .int .i64, .sl, .sl]), (1, .agg [.int .i64, .str, .sl, .int .i64, .sl, .sl])])
    (by kernel_rfl) (by kernel_rfl) (by kernel_rfl) (by kernel_rfl) (by kernel_rfl) (tabs_ok (P := Tryd.prog) (body := (bodyOf Tryd.f9)) (W := (81, none)) (cl := rosettaref18_SameDoc_ct n) (ll := rosettaref18_SameDoc_lt n) (dr := rosettaref18_SameDoc_dr) (fin := (finF Tryd.prog Tryd.f9 [.one (.bool)])) (N := 400) (js := rosettaref18_SameDoc_jt0 n) (AllOK.cons (rosettaref18_SameGraph_ok n) AllOK.nil) (AllL.cons (rosettaref18_SameDoc_L0_ok n (by kernel_rfl)) (AllL.cons (rosettaref18_SameDoc_L1_ok n (by kernel_rfl)) AllL.nil)) (AllJ.cons (fun x => by kernel_rfl) AllJ.nil)) (fun x => by kernel_rfl)
def rosettalaw34_BencodeParses (n : Nat) (a0 : ByteArray) : M (Bool) :=
  if decide (400 < (↑a0.size : Int)) then
    M.bind (rosettalaw34_awake n) fun x0 =>
    M.pure x0
  else
    M.bind (bencode_Parse n a0) fun x0 =>
    M.bind (newB none T_api_Doc [vi 0, Value.string (ofBytes []), vsl0, vi 0, vsl0, vsl0]) fun x1 =>
    M.bind (stN (adr x1) [vi x0.1.1, Value.string x0.1.2.1, vsl x0.1.2.2.1, vi x0.1.2.2.2.1, vsl x0.1.2.2.2.2.1, vsl x0.1.2.2.2.2.2]) fun x2 =>
    M.bind (rosettaref34_Parse n a0) fun x3 =>
    M.bind (newB none T_api_Doc [vi 0, Value.string (ofBytes []), vsl0, vi 0, vsl0, vsl0]) fun x4 =>
    M.bind (stN (adr x4) [vi x3.1.1, Value.string x3.1.2.1, vsl x3.1.2.2.1, vi x3.1.2.2.2.1, vsl x3.1.2.2.2.2.1, vsl x3.1.2.2.2.2.2]) fun x5 =>
    M.bind (ldLs [li, .str, .sl, li, .sl, .sl] (adr x1)) fun (x6 : Int × ByteArray × Sl × Int × Sl × Sl) =>
    M.bind (ldLs [li, .str, .sl, li, .sl, .sl] (adr x4)) fun (x7 : Int × ByteArray × Sl × Int × Sl × Sl) =>
    M.bind (rosettaref18_SameDoc n (x6.1, x6.2.1, x6.2.2.1, x6.2.2.2.1, x6.2.2.2.2.1, x6.2.2.2.2.2) (x7.1, x7.2.1, x7.2.2.1, x7.2.2.2.1, x7.2.2.2.2.1, x7.2.2.2.2.2)) fun x8 =>
    if x8 then
      if decide (x0.2.1 = x3.2.1) then
        if decide (x0.2.2 = x3.2.2) then
          M.bind (rosettalaw34_awake n) fun x9 =>
          M.pure x9
        else
          M.pure false
      else
        M.pure false
    else
      M.pure false
def rosettalaw34_BencodeParses_ct (n : Nat) : List Ent := [⟨6, [], [.one (.bool)], fun _ => rosettalaw34_awake n⟩,
  ⟨7, [.one (.str)], [.agg [.int .i64, .str, .sl, .int .i64, .sl, .sl], .one (.int .i64), .one (.int .i64)], fun x => bencode_Parse n (x)⟩,
  ⟨8, [.one (.str)], [.agg [.int .i64, .str, .sl, .int .i64, .sl, .sl], .one (.int .i64), .one (.int .i64)], fun x => rosettaref34_Parse n (x)⟩,
  ⟨9, [.agg [.int .i64, .str, .sl, .int .i64, .sl, .sl], .agg [.int .i64, .str, .sl, .int .i64, .sl, .sl]], [.one (.bool)], fun x => rosettaref18_SameDoc n (x.1) (x.2)⟩]
def rosettalaw34_BencodeParses_dr (i : Nat) : Option (List (Nat × List Nat)) := none
def rosettalaw34_BencodeParses_lt (n : Nat) : List LEnt := []
def rosettalaw34_BencodeParses_jt0 (n : Nat) : List (JEnt (Bool)) := []
theorem rosettalaw34_BencodeParses_ok (n : Nat) : FnOK Tryd.prog ⟨3, [.one (.str)], [.one (.bool)], fun x => rosettalaw34_BencodeParses n (x)⟩ :=
  fn_ok (P := Tryd.prog) (e := ⟨3, [.one (.str)], [.one (.bool)], fun x => rosettalaw34_BencodeParses n (x)⟩) (fn := Tryd.f3) (c := (bodyOf Tryd.f3)) (T := ⟨lookC (rosettalaw34_BencodeParses_ct n), lookL (rosettalaw34_BencodeParses_lt n), lookJ (rosettalaw34_BencodeParses_jt0 n), rosettalaw34_BencodeParses_dr⟩) (N := 400) (ps := [(0, .one (.str))])
    (by kernel_rfl) (by kernel_rfl) (by kernel_rfl) (by kernel_rfl) (by kernel_rfl) (tabs_ok (P := Tryd.prog) (body := (bodyOf Tryd.f3)) (W := (41, none)) (cl := rosettalaw34_BencodeParses_ct n) (ll := rosettalaw34_BencodeParses_lt n) (dr := rosettalaw34_BencodeParses_dr) (fin := (finF Tryd.prog Tryd.f3 [.one (.bool)])) (N := 400) (js := rosettalaw34_BencodeParses_jt0 n) (AllOK.cons (rosettalaw34_awake_ok n) (AllOK.cons (bencode_Parse_ok n) (AllOK.cons (rosettaref34_Parse_ok n) (AllOK.cons (rosettaref18_SameDoc_ok n) AllOK.nil)))) AllL.nil AllJ.nil) (fun x => by kernel_rfl)
def rosettalaw34_BencodePrefixes_L0_B (G : ByteArray → ByteArray → Int → Int → M ((Unit) ⊕ (Bool))) (n : Nat) (a0 : ByteArray) (a1 : ByteArray) (a2 : Int) (a3 : Int) : M ((Unit) ⊕ (Bool)) :=
  if decide (a3 < a2) then
    M.bind (sliceS a0 0 a3) fun x0 =>
    M.bind (bencode_Parse n x0) fun x1 =>
    M.bind (newB none T_api_Doc [vi 0, Value.string (ofBytes []), vsl0, vi 0, vsl0, vsl0]) fun x2 =>
    M.bind (stN (adr x2) [vi x1.1.1, Value.string x1.1.2.1, vsl x1.1.2.2.1, vi x1.1.2.2.2.1, vsl x1.1.2.2.2.2.1, vsl x1.1.2.2.2.2.2]) fun x3 =>
    if !decide (x1.2.1 = a3) then
      M.pure (Sum.inr false)
    else
      if !decide (x1.2.2 = 4) then
        M.pure (Sum.inr false)
      else
        G a0 a1 a2 (IntKind.i64.wrap (a3 + 1))
  else
    M.pure (Sum.inl ())
def rosettalaw34_BencodePrefixes_L0 : Nat → ByteArray → ByteArray → Int → Int → M ((Unit) ⊕ (Bool))
  | 0 => fun _ _ _ _ => M.fail
  | n + 1 => rosettalaw34_BencodePrefixes_L0_B (rosettalaw34_BencodePrefixes_L0 n) n
theorem rosettalaw34_BencodePrefixes_L0_succ (n : Nat) : rosettalaw34_BencodePrefixes_L0 (n + 1) = rosettalaw34_BencodePrefixes_L0_B (rosettalaw34_BencodePrefixes_L0 n) n := rfl
def rosettalaw34_BencodePrefixes_J0 (n : Nat) (a0 : ByteArray) (a1 : ByteArray) : M (Bool) :=
  M.bind (bencode_Parse n a0) fun x0 =>
  M.bind (newB none T_api_Doc [vi 0, Value.string (ofBytes []), vsl0, vi 0, vsl0, vsl0]) fun x1 =>
  M.bind (stN (adr x1) [vi x0.1.1, Value.string x0.1.2.1, vsl x0.1.2.2.1, vi x0.1.2.2.2.1, vsl x0.1.2.2.2.2.1, vsl x0.1.2.2.2.2.2]) fun x2 =>
  if !decide (x0.2.2 = 0) then
    M.bind (rosettalaw34_awake n) fun x3 =>
    M.pure x3
  else
    M.bind (rosettalaw34_BencodePrefixes_L0 n a0 a1 (↑a0.size : Int) 0) (sumElim (fun x3 =>
      M.bind (catS a0 a1) fun x4 =>
      M.bind (bencode_Parse n x4) fun x5 =>
      M.bind (newB none T_api_Doc [vi 0, Value.string (ofBytes []), vsl0, vi 0, vsl0, vsl0]) fun x6 =>
      M.bind (stN (adr x6) [vi x5.1.1, Value.string x5.1.2.1, vsl x5.1.2.2.1, vi x5.1.2.2.2.1, vsl x5.1.2.2.2.2.1, vsl x5.1.2.2.2.2.2]) fun x7 =>
      if eqS a1 (ofBytes []) then
        M.bind (rosettalaw34_awake n) fun x8 =>
        M.pure x8
      else
        if decide (x5.2.1 = (↑a0.size : Int)) then
          if decide (x5.2.2 = 4) then
            M.bind (rosettalaw34_awake n) fun x8 =>
            M.pure x8
          else
            M.pure false
        else
          M.pure false)
    (fun x3 =>
      M.pure x3))
def rosettalaw34_BencodePrefixes (n : Nat) (a0 : ByteArray) (a1 : ByteArray) : M (Bool) :=
  if decide (200 < (↑a0.size : Int)) then
    M.bind (rosettalaw34_awake n) fun x0 =>
    M.pure x0
  else
    if decide (50 < (↑a1.size : Int)) then
      M.bind (rosettalaw34_awake n) fun x0 =>
      M.pure x0
    else
      rosettalaw34_BencodePrefixes_J0 n a0 a1
def rosettalaw34_BencodePrefixes_ct (n : Nat) : List Ent := [⟨6, [], [.one (.bool)], fun _ => rosettalaw34_awake n⟩,
  ⟨7, [.one (.str)], [.agg [.int .i64, .str, .sl, .int .i64, .sl, .sl], .one (.int .i64), .one (.int .i64)], fun x => bencode_Parse n (x)⟩]
def rosettalaw34_BencodePrefixes_dr (i : Nat) : Option (List (Nat × List Nat)) := none
def rosettalaw34_BencodePrefixes_L0_lt (n : Nat) : List LEnt := []
def rosettalaw34_BencodePrefixes_L0_jt0 (n : Nat) : List (JEnt ((Unit) ⊕ (Bool))) := []
def rosettalaw34_BencodePrefixes_lt (n : Nat) : List LEnt := [⟨[0, 1, 0, 1, 1, 1], [(0, .one (.str)), (1, .one (.str)), (34, .one (.int .i64)), (35, .one (.int .i64))], actL2 [(0, .one (.str)), (1, .one (.str)), (34, .one (.int .i64)), (35, .one (.int .i64))] [] [(4, .one (.bool))] [4, 8, 9, 10, 11, 35, 36, 37, 38, 39, 40, 41, 42, 43, 44, 45, 46, 47, 48, 49, 50, 51, 52, 53] 0 .ret (fun x => rosettalaw34_BencodePrefixes_L0 n (x.1) (x.2.1) (x.2.2.1) (x.2.2.2))⟩]
def rosettalaw34_BencodePrefixes_jt1 (n : Nat) : List (JEnt (Bool)) := []
def rosettalaw34_BencodePrefixes_jt0 (n : Nat) : List (JEnt (Bool)) := ⟨[0, 0, 1, 1], [.code [1, 0, 1, 1], .code [1, 1, 1]], [(0, .one (.str)), (1, .one (.str))], fun x => rosettalaw34_BencodePrefixes_J0 n (x.1) (x.2)⟩ :: rosettalaw34_BencodePrefixes_jt1 n
theorem rosettalaw34_BencodePrefixes_L0_ok (n : Nat) {W : Wr} (hW : subW W 77 [4, 8, 9, 10, 11, 35, 36, 37, 38, 39, 40, 41, 42, 43, 44, 45, 46, 47, 48, 49, 50, 51, 52, 53] = true) : LEntOK Tryd.prog (bodyOf Tryd.f4) W ⟨[0, 1, 0, 1, 1, 1], [(0, .one (.str)), (1, .one (.str)), (34, .one (.int .i64)), (35, .one (.int .i64))], actL2 [(0, .one (.str)), (1, .one (.str)), (34, .one (.int .i64)), (35, .one (.int .i64))] [] [(4, .one (.bool))] [4, 8, 9, 10, 11, 35, 36, 37, 38, 39, 40, 41, 42, 43, 44, 45, 46, 47, 48, 49, 50, 51, 52, 53] 0 .ret (fun x => rosettalaw34_BencodePrefixes_L0 n (x.1) (x.2.1) (x.2.2.1) (x.2.2.2))⟩ :=
  loop2_ok (P := Tryd.prog) (body := (bodyOf Tryd.f4)) (c := child (codeAt (bodyOf Tryd.f4) [0, 1, 0, 1, 1, 1]) 0) (p := [0, 1, 0, 1, 1, 1]) (ls := [(0, .one (.str)), (1, .one (.str)), (34, .one (.int .i64)), (35, .one (.int .i64))]) (ms := []) (rs := [(4, .one (.bool))]) (id := 0) (e2 := .ret) (nt := 77) (ws := [4, 8, 9, 10, 11, 35, 36, 37, 38, 39, 40, 41, 42, 43, 44, 45, 46, 47, 48, 49, 50, 51, 52, 53]) (N := 400) (G := (fun n x => rosettalaw34_BencodePrefixes_L0 n (x.1) (x.2.1) (x.2.2.1) (x.2.2.2))) (T := fun n => ⟨lookC (rosettalaw34_BencodePrefixes_ct n), lookL (rosettalaw34_BencodePrefixes_L0_lt n), lookJ (rosettalaw34_BencodePrefixes_L0_jt0 n), rosettalaw34_BencodePrefixes_dr⟩)
    (by kernel_rfl) (fun _ => by kernel_rfl) (fun n x => by kernel_rfl) n (fun m hm => (tabs_ok (P := Tryd.prog) (body := (bodyOf Tryd.f4)) (W := (77, some [4, 8, 9, 10, 11, 35, 36, 37, 38, 39, 40, 41, 42, 43, 44, 45, 46, 47, 48, 49, 50, 51, 52, 53])) (cl := rosettalaw34_BencodePrefixes_ct m) (ll := rosettalaw34_BencodePrefixes_L0_lt m) (dr := rosettalaw34_BencodePrefixes_dr) (fin := (finL2 [(0, .one (.str)), (1, .one (.str)), (34, .one (.int .i64)), (35, .one (.int .i64))] [] [(4, .one (.bool))] 0 .ret (fun x => rosettalaw34_BencodePrefixes_L0 m (x.1) (x.2.1) (x.2.2.1) (x.2.2.2)))) (N := 400) (js := rosettalaw34_BencodePrefixes_L0_jt0 m) (AllOK.cons (rosettalaw34_awake_ok m) (AllOK.cons (bencode_Parse_ok m) AllOK.nil)) AllL.nil AllJ.nil)) hW
theorem rosettalaw34_BencodePrefixes_ok (n : Nat) : FnOK Tryd.prog ⟨4, [.one (.str), .one (.str)], [.one (.bool)], fun x => rosettalaw34_BencodePrefixes n (x.1) (x.2)⟩ :=
  fn_ok (P := Tryd.prog) (e := ⟨4, [.one (.str), .one (.str)], [.one (.bool)], fun x => rosettalaw34_BencodePrefixes n (x.1) (x.2)⟩) (fn := Tryd.f4) (c := (bodyOf Tryd.f4)) (T := ⟨lookC (rosettalaw34_BencodePrefixes_ct n), lookL (rosettalaw34_BencodePrefixes_lt n), lookJ (rosettalaw34_BencodePrefixes_jt0 n), rosettalaw34_BencodePrefixes_dr⟩) (N := 400) (ps := [(0, .one (.str)), (1, .one (.str))])
    (by kernel_rfl) (by kernel_rfl) (by kernel_rfl) (by kernel_rfl) (by kernel_rfl) (tabs_ok (P := Tryd.prog) (body := (bodyOf Tryd.f4)) (W := (77, none)) (cl := rosettalaw34_BencodePrefixes_ct n) (ll := rosettalaw34_BencodePrefixes_lt n) (dr := rosettalaw34_BencodePrefixes_dr) (fin := (finF Tryd.prog Tryd.f4 [.one (.bool)])) (N := 400) (js := rosettalaw34_BencodePrefixes_jt0 n) (AllOK.cons (rosettalaw34_awake_ok n) (AllOK.cons (bencode_Parse_ok n) AllOK.nil)) (AllL.cons (rosettalaw34_BencodePrefixes_L0_ok n (by kernel_rfl)) AllL.nil) (AllJ.cons (fun x => by kernel_rfl) AllJ.nil)) (fun x => by kernel_rfl)
def rosettalaw34_BencodeLimits_L2_B (G : Int → Sl → Int → Int → M (Sl)) (n : Nat) (a0 : Int) (a1 : Sl) (a2 : Int) (a3 : Int) : M (Sl) :=
  if decide (a3 < a2) then
    M.bind (app false a1 1 T_u8 2 [Value.int IntKind.u8 48, Value.int IntKind.u8 58]) fun x0 =>
    G a0 x0 a2 (IntKind.i64.wrap (a3 + 1))
  else
    M.pure a1
def rosettalaw34_BencodeLimits_L2 : Nat → Int → Sl → Int → Int → M (Sl)
  | 0 => fun _ _ _ _ => M.fail
  | n + 1 => rosettalaw34_BencodeLimits_L2_B (rosettalaw34_BencodeLimits_L2 n) n
theorem rosettalaw34_BencodeLimits_L2_succ (n : Nat) : rosettalaw34_BencodeLimits_L2 (n + 1) = rosettalaw34_BencodeLimits_L2_B (rosettalaw34_BencodeLimits_L2 n) n := rfl
def rosettalaw34_BencodeLimits_L1_B (G : Int → Int → Sl → Int → Int → M (Sl)) (n : Nat) (a0 : Int) (a1 : Int) (a2 : Sl) (a3 : Int) (a4 : Int) : M (Sl) :=
  if decide (a4 < a3) then
    M.bind (app false a2 1 T_u8 1 [Value.int IntKind.u8 101]) fun x0 =>
    G a0 a1 x0 a3 (IntKind.i64.wrap (a4 + 1))
  else
    M.pure a2
def rosettalaw34_BencodeLimits_L1 : Nat → Int → Int → Sl → Int → Int → M (Sl)
  | 0 => fun _ _ _ _ _ => M.fail
  | n + 1 => rosettalaw34_BencodeLimits_L1_B (rosettalaw34_BencodeLimits_L1 n) n
theorem rosettalaw34_BencodeLimits_L1_succ (n : Nat) : rosettalaw34_BencodeLimits_L1 (n + 1) = rosettalaw34_BencodeLimits_L1_B (rosettalaw34_BencodeLimits_L1 n) n := rfl
def rosettalaw34_BencodeLimits_L0_B (G : Int → Int → Sl → Int → Int → M (Sl)) (n : Nat) (a0 : Int) (a1 : Int) (a2 : Sl) (a3 : Int) (a4 : Int) : M (Sl) :=
  if decide (a4 < a3) then
    M.bind (app false a2 1 T_u8 1 [Value.int IntKind.u8 108]) fun x0 =>
    G a0 a1 x0 a3 (IntKind.i64.wrap (a4 + 1))
  else
    M.pure a2
def rosettalaw34_BencodeLimits_L0 : Nat → Int → Int → Sl → Int → Int → M (Sl)
  | 0 => fun _ _ _ _ _ => M.fail
  | n + 1 => rosettalaw34_BencodeLimits_L0_B (rosettalaw34_BencodeLimits_L0 n) n
theorem rosettalaw34_BencodeLimits_L0_succ (n : Nat) : rosettalaw34_BencodeLimits_L0 (n + 1) = rosettalaw34_BencodeLimits_L0_B (rosettalaw34_BencodeLimits_L0 n) n := rfl
def rosettalaw34_BencodeLimits_J1 (n : Nat) : M (Bool) :=
  M.bind (mkS T_u8 [Value.int IntKind.u8 0] 65537 65537) fun x0 =>
  M.bind (strOf x0) fun x1 =>
  M.bind (bencode_Parse n x1) fun x2 =>
  if decide (x2.2.1 = 0) then
    if decide (x2.2.2 = 6) then
      M.bind (rosettalaw34_awake n) fun x3 =>
      M.pure x3
    else
      M.pure false
  else
    M.pure false
def rosettalaw34_BencodeLimits_J0 (n : Nat) (a0 : Int) (a1 : Sl) : M (Bool) :=
  M.bind (sliceL a1 0 0 T_u8 1) fun x0 =>
  M.bind (app false x0 1 T_u8 1 [Value.int IntKind.u8 108]) fun x1 =>
  M.bind (rosettalaw34_BencodeLimits_L2 n a0 x1 a0 0) fun x2 =>
  M.bind (app false x2 1 T_u8 1 [Value.int IntKind.u8 101]) fun x3 =>
  M.bind (strOf x3) fun x4 =>
  M.bind (bencode_Parse n x4) fun x5 =>
  if decide (4096 < IntKind.i64.wrap (a0 + 1)) then
    if !decide (x5.2.1 = 8191) then
      M.pure false
    else
      if !decide (x5.2.2 = 7) then
        M.pure false
      else
        if decide (IntKind.i64.wrap (a0 + 1) ≤ 4096) then
          if !decide (x5.2.2 = 0) then
            M.pure false
          else
            rosettalaw34_BencodeLimits_J1 n
        else
          rosettalaw34_BencodeLimits_J1 n
  else
    if decide (IntKind.i64.wrap (a0 + 1) ≤ 4096) then
      if !decide (x5.2.2 = 0) then
        M.pure false
      else
        rosettalaw34_BencodeLimits_J1 n
    else
      rosettalaw34_BencodeLimits_J1 n
def rosettalaw34_BencodeLimits (n : Nat) (a0 : Int) (a1 : Int) : M (Bool) :=
  M.bind (ckM (decide (10 ≠ 0))) fun x0 =>
  M.bind (ckM (decide (12 ≠ 0))) fun x1 =>
  M.bind (rosettalaw34_BencodeLimits_L0 n (IntKind.i64.wrap (28 + IntKind.i64.wrap (a0.tmod 10))) (IntKind.i64.wrap (4090 + IntKind.i64.wrap (a1.tmod 12))) sl0 (IntKind.i64.wrap (28 + IntKind.i64.wrap (a0.tmod 10))) 0) fun x2 =>
  M.bind (rosettalaw34_BencodeLimits_L1 n (IntKind.i64.wrap (28 + IntKind.i64.wrap (a0.tmod 10))) (IntKind.i64.wrap (4090 + IntKind.i64.wrap (a1.tmod 12))) x2 (IntKind.i64.wrap (28 + IntKind.i64.wrap (a0.tmod 10))) 0) fun x3 =>
  M.bind (strOf x3) fun x4 =>
  M.bind (bencode_Parse n x4) fun x5 =>
  M.bind (newB none T_api_Doc [vi 0, Value.string (ofBytes []), vsl0, vi 0, vsl0, vsl0]) fun x6 =>
  M.bind (stN (adr x6) [vi x5.1.1, Value.string x5.1.2.1, vsl x5.1.2.2.1, vi x5.1.2.2.2.1, vsl x5.1.2.2.2.2.1, vsl x5.1.2.2.2.2.2]) fun x7 =>
  if decide (33 < IntKind.i64.wrap (28 + IntKind.i64.wrap (a0.tmod 10))) then
    if !decide (x5.2.1 = 33) then
      M.pure false
    else
      if !decide (x5.2.2 = 5) then
        M.pure false
      else
        if decide (IntKind.i64.wrap (28 + IntKind.i64.wrap (a0.tmod 10)) ≤ 33) then
          if !decide (x5.2.2 = 0) then
            M.pure false
          else
            rosettalaw34_BencodeLimits_J0 n (IntKind.i64.wrap (4090 + IntKind.i64.wrap (a1.tmod 12))) x3
        else
          rosettalaw34_BencodeLimits_J0 n (IntKind.i64.wrap (4090 + IntKind.i64.wrap (a1.tmod 12))) x3
  else
    if decide (IntKind.i64.wrap (28 + IntKind.i64.wrap (a0.tmod 10)) ≤ 33) then
      if !decide (x5.2.2 = 0) then
        M.pure false
      else
        rosettalaw34_BencodeLimits_J0 n (IntKind.i64.wrap (4090 + IntKind.i64.wrap (a1.tmod 12))) x3
    else
      rosettalaw34_BencodeLimits_J0 n (IntKind.i64.wrap (4090 + IntKind.i64.wrap (a1.tmod 12))) x3
def rosettalaw34_BencodeLimits_ct (n : Nat) : List Ent := [⟨6, [], [.one (.bool)], fun _ => rosettalaw34_awake n⟩,
  ⟨7, [.one (.str)], [.agg [.int .i64, .str, .sl, .int .i64, .sl, .sl], .one (.int .i64), .one (.int .i64)], fun x => bencode_Parse n (x)⟩]
def rosettalaw34_BencodeLimits_dr (i : Nat) : Option (List (Nat × List Nat)) := none
def rosettalaw34_BencodeLimits_L2_lt (n : Nat) : List LEnt := []
def rosettalaw34_BencodeLimits_L2_jt0 (n : Nat) : List (JEnt (Sl)) := []
def rosettalaw34_BencodeLimits_L1_lt (n : Nat) : List LEnt := []
def rosettalaw34_BencodeLimits_L1_jt0 (n : Nat) : List (JEnt (Sl)) := []
def rosettalaw34_BencodeLimits_L0_lt (n : Nat) : List LEnt := []
def rosettalaw34_BencodeLimits_L0_jt0 (n : Nat) : List (JEnt (Sl)) := []
def rosettalaw34_BencodeLimits_lt (n : Nat) : List LEnt := [⟨[0, 1, 0, 1, 1, 1], [(5, .one (.int .i64)), (6, .one (.int .i64)), (7, .one (.sl)), (19, .one (.int .i64)), (20, .one (.int .i64))], actL1 [(5, .one (.int .i64)), (6, .one (.int .i64)), (7, .one (.sl)), (19, .one (.int .i64)), (20, .one (.int .i64))] [(7, .one (.sl))] [7, 20, 21, 22, 23, 24, 25] 0 (fun x => rosettalaw34_BencodeLimits_L0 n (x.1) (x.2.1) (x.2.2.1) (x.2.2.2.1) (x.2.2.2.2))⟩,
  ⟨[0, 1, 0, 1, 1, 1, 1], [(5, .one (.int .i64)), (6, .one (.int .i64)), (7, .one (.sl)), (26, .one (.int .i64)), (27, .one (.int .i64))], actL1 [(5, .one (.int .i64)), (6, .one (.int .i64)), (7, .one (.sl)), (26, .one (.int .i64)), (27, .one (.int .i64))] [(7, .one (.sl))] [7, 27, 28, 29, 30, 31, 32] 2 (fun x => rosettalaw34_BencodeLimits_L1 n (x.1) (x.2.1) (x.2.2.1) (x.2.2.2.1) (x.2.2.2.2))⟩,
  ⟨[0, 1, 0, 1, 1, 1, 1, 1, 1, 1, 1], [(6, .one (.int .i64)), (7, .one (.sl)), (62, .one (.int .i64)), (63, .one (.int .i64))], actL1 [(6, .one (.int .i64)), (7, .one (.sl)), (62, .one (.int .i64)), (63, .one (.int .i64))] [(7, .one (.sl))] [7, 63, 64, 65, 66, 67, 68] 4 (fun x => rosettalaw34_BencodeLimits_L2 n (x.1) (x.2.1) (x.2.2.1) (x.2.2.2))⟩]
def rosettalaw34_BencodeLimits_jt2 (n : Nat) : List (JEnt (Bool)) := []
def rosettalaw34_BencodeLimits_jt1 (n : Nat) : List (JEnt (Bool)) := ⟨[0, 1, 1, 1, 1, 1, 1, 1, 1, 1, 1, 1, 1], [.code [1, 1, 1, 1, 1, 1, 1, 1, 1, 1, 1, 1, 1]], [], fun _ => rosettalaw34_BencodeLimits_J1 n⟩ :: rosettalaw34_BencodeLimits_jt2 n
def rosettalaw34_BencodeLimits_jt0 (n : Nat) : List (JEnt (Bool)) := ⟨[0, 1, 1, 1, 1, 1, 1, 1], [.code [1, 1, 1, 1, 1, 1, 1, 1]], [(6, .one (.int .i64)), (7, .one (.sl))], fun x => rosettalaw34_BencodeLimits_J0 n (x.1) (x.2)⟩ :: rosettalaw34_BencodeLimits_jt1 n
theorem rosettalaw34_BencodeLimits_L2_ok (n : Nat) {W : Wr} (hW : subW W 115 [7, 63, 64, 65, 66, 67, 68] = true) : LEntOK Tryd.prog (bodyOf Tryd.f5) W ⟨[0, 1, 0, 1, 1, 1, 1, 1, 1, 1, 1], [(6, .one (.int .i64)), (7, .one (.sl)), (62, .one (.int .i64)), (63, .one (.int .i64))], actL1 [(6, .one (.int .i64)), (7, .one (.sl)), (62, .one (.int .i64)), (63, .one (.int .i64))] [(7, .one (.sl))] [7, 63, 64, 65, 66, 67, 68] 4 (fun x => rosettalaw34_BencodeLimits_L2 n (x.1) (x.2.1) (x.2.2.1) (x.2.2.2))⟩ :=
  loop1_ok (P := Tryd.prog) (body := (bodyOf Tryd.f5)) (c := child (codeAt (bodyOf Tryd.f5) [0, 1, 0, 1, 1, 1, 1, 1, 1, 1, 1]) 0) (p := [0, 1, 0, 1, 1, 1, 1, 1, 1, 1, 1]) (ls := [(6, .one (.int .i64)), (7, .one (.sl)), (62, .one (.int .i64)), (63, .one (.int .i64))]) (ms := [(7, .one (.sl))]) (id := 4) (nt := 115) (ws := [7, 63, 64, 65, 66, 67, 68]) (N := 400) (G := (fun n x => rosettalaw34_BencodeLimits_L2 n (x.1) (x.2.1) (x.2.2.1) (x.2.2.2))) (T := fun n => ⟨lookC (rosettalaw34_BencodeLimits_ct n), lookL (rosettalaw34_BencodeLimits_L2_lt n), lookJ (rosettalaw34_BencodeLimits_L2_jt0 n), rosettalaw34_BencodeLimits_dr⟩)
    (by kernel_rfl) (fun _ => by kernel_rfl) (fun n x => by kernel_rfl) n (fun m hm => (tabs_ok (P := Tryd.prog) (body := (bodyOf Tryd.f5)) (W := (115, some [7, 63, 64, 65, 66, 67, 68])) (cl := rosettalaw34_BencodeLimits_ct m) (ll := rosettalaw34_BencodeLimits_L2_lt m) (dr := rosettalaw34_BencodeLimits_dr) (fin := (finL1 [(6, .one (.int .i64)), (7, .one (.sl)), (62, .one (.int .i64)), (63, .one (.int .i64))] [(7, .one (.sl))] 4 (fun x => rosettalaw34_BencodeLimits_L2 m (x.1) (x.2.1) (x.2.2.1) (x.2.2.2)))) (N := 400) (js := rosettalaw34_BencodeLimits_L2_jt0 m) (AllOK.cons (rosettalaw34_awake_ok m) (AllOK.cons (bencode_Parse_ok m) AllOK.nil)) AllL.nil AllJ.nil)) hW
theorem rosettalaw34_BencodeLimits_L1_ok (n : Nat) {W : Wr} (hW : subW W 115 [7, 27, 28, 29, 30, 31, 32] = true) : LEntOK Tryd.prog (bodyOf Tryd.f5) W ⟨[0, 1, 0, 1, 1, 1, 1], [(5, .one (.int .i64)), (6, .one (.int .i64)), (7, .one (.sl)), (26, .one (.int .i64)), (27, .one (.int .i64))], actL1 [(5, .one (.int .i64)), (6, .one (.int .i64)), (7, .one (.sl)), (26, .one (.int .i64)), (27, .one (.int .i64))] [(7, .one (.sl))] [7, 27, 28, 29, 30, 31, 32] 2 (fun x => rosettalaw34_BencodeLimits_L1 n (x.1) (x.2.1) (x.2.2.1) (x.2.2.2.1) (x.2.2.2.2))⟩ :=
  loop1_ok (P := Tryd.prog) (body := (bodyOf Tryd.f5)) (c := child (codeAt (bodyOf Tryd.f5) [0, 1, 0, 1, 1, 1, 1]) 0) (p := [0, 1, 0, 1, 1, 1, 1]) (ls := [(5, .one (.int .i64)), (6, .one (.int .i64)), (7, .one (.sl)), (26, .one (.int .i64)), (27, .one (.int .i64))]) (ms := [(7, .one (.sl))]) (id := 2) (nt := 115) (ws := [7, 27, 28, 29, 30, 31, 32]) (N := 400) (G := (fun n x => rosettalaw34_BencodeLimits_L1 n (x.1) (x.2.1) (x.2.2.1) (x.2.2.2.1) (x.2.2.2.2))) (T := fun n => ⟨lookC (rosettalaw34_BencodeLimits_ct n), lookL (rosettalaw34_BencodeLimits_L1_lt n), lookJ (rosettalaw34_BencodeLimits_L1_jt0 n), rosettalaw34_BencodeLimits_dr⟩)
    (by kernel_rfl) (fun _ => by kernel_rfl) (fun n x => by kernel_rfl) n (fun m hm => (tabs_ok (P := Tryd.prog) (body := (bodyOf Tryd.f5)) (W := (115, some [7, 27, 28, 29, 30, 31, 32])) (cl := rosettalaw34_BencodeLimits_ct m) (ll := rosettalaw34_BencodeLimits_L1_lt m) (dr := rosettalaw34_BencodeLimits_dr) (fin := (finL1 [(5, .one (.int .i64)), (6, .one (.int .i64)), (7, .one (.sl)), (26, .one (.int .i64)), (27, .one (.int .i64))] [(7, .one (.sl))] 2 (fun x => rosettalaw34_BencodeLimits_L1 m (x.1) (x.2.1) (x.2.2.1) (x.2.2.2.1) (x.2.2.2.2)))) (N := 400) (js := rosettalaw34_BencodeLimits_L1_jt0 m) (AllOK.cons (rosettalaw34_awake_ok m) (AllOK.cons (bencode_Parse_ok m) AllOK.nil)) AllL.nil AllJ.nil)) hW
theorem rosettalaw34_BencodeLimits_L0_ok (n : Nat) {W : Wr} (hW : subW W 115 [7, 20, 21, 22, 23, 24, 25] = true) : LEntOK Tryd.prog (bodyOf Tryd.f5) W ⟨[0, 1, 0, 1, 1, 1], [(5, .one (.int .i64)), (6, .one (.int .i64)), (7, .one (.sl)), (19, .one (.int .i64)), (20, .one (.int .i64))], actL1 [(5, .one (.int .i64)), (6, .one (.int .i64)), (7, .one (.sl)), (19, .one (.int .i64)), (20, .one (.int .i64))] [(7, .one (.sl))] [7, 20, 21, 22, 23, 24, 25] 0 (fun x => rosettalaw34_BencodeLimits_L0 n (x.1) (x.2.1) (x.2.2.1) (x.2.2.2.1) (x.2.2.2.2))⟩ :=
  loop1_ok (P := Tryd.prog) (body := (bodyOf Tryd.f5)) (c := child (codeAt (bodyOf Tryd.f5) [0, 1, 0, 1, 1, 1]) 0) (p := [0, 1, 0, 1, 1, 1]) (ls := [(5, .one (.int .i64)), (6, .one (.int .i64)), (7, .one (.sl)), (19, .one (.int .i64)), (20, .one (.int .i64))]) (ms := [(7, .one (.sl))]) (id := 0) (nt := 115) (ws := [7, 20, 21, 22, 23, 24, 25]) (N := 400) (G := (fun n x => rosettalaw34_BencodeLimits_L0 n (x.1) (x.2.1) (x.2.2.1) (x.2.2.2.1) (x.2.2.2.2))) (T := fun n => ⟨lookC (rosettalaw34_BencodeLimits_ct n), lookL (rosettalaw34_BencodeLimits_L0_lt n), lookJ (rosettalaw34_BencodeLimits_L0_jt0 n), rosettalaw34_BencodeLimits_dr⟩)
    (by kernel_rfl) (fun _ => by kernel_rfl) (fun n x => by kernel_rfl) n (fun m hm => (tabs_ok (P := Tryd.prog) (body := (bodyOf Tryd.f5)) (W := (115, some [7, 20, 21, 22, 23, 24, 25])) (cl := rosettalaw34_BencodeLimits_ct m) (ll := rosettalaw34_BencodeLimits_L0_lt m) (dr := rosettalaw34_BencodeLimits_dr) (fin := (finL1 [(5, .one (.int .i64)), (6, .one (.int .i64)), (7, .one (.sl)), (19, .one (.int .i64)), (20, .one (.int .i64))] [(7, .one (.sl))] 0 (fun x => rosettalaw34_BencodeLimits_L0 m (x.1) (x.2.1) (x.2.2.1) (x.2.2.2.1) (x.2.2.2.2)))) (N := 400) (js := rosettalaw34_BencodeLimits_L0_jt0 m) (AllOK.cons (rosettalaw34_awake_ok m) (AllOK.cons (bencode_Parse_ok m) AllOK.nil)) AllL.nil AllJ.nil)) hW
theorem rosettalaw34_BencodeLimits_ok (n : Nat) : FnOK Tryd.prog ⟨5, [.one (.int .u8), .one (.int .u16)], [.one (.bool)], fun x => rosettalaw34_BencodeLimits n (x.1) (x.2)⟩ :=
  fn_ok (P := Tryd.prog) (e := ⟨5, [.one (.int .u8), .one (.int .u16)], [.one (.bool)], fun x => rosettalaw34_BencodeLimits n (x.1) (x.2)⟩) (fn := Tryd.f5) (c := (bodyOf Tryd.f5)) (T := ⟨lookC (rosettalaw34_BencodeLimits_ct n), lookL (rosettalaw34_BencodeLimits_lt n), lookJ (rosettalaw34_BencodeLimits_jt0 n), rosettalaw34_BencodeLimits_dr⟩) (N := 400) (ps := [(0, .one (.int .u8)), (1, .one (.int .u16))])
    (by kernel_rfl) (by kernel_rfl) (by kernel_rfl) (by kernel_rfl) (by kernel_rfl) (tabs_ok (P := Tryd.prog) (body := (bodyOf Tryd.f5)) (W := (115, none)) (cl := rosettalaw34_BencodeLimits_ct n) (ll := rosettalaw34_BencodeLimits_lt n) (dr := rosettalaw34_BencodeLimits_dr) (fin := (finF Tryd.prog Tryd.f5 [.one (.bool)])) (N := 400) (js := rosettalaw34_BencodeLimits_jt0 n) (AllOK.cons (rosettalaw34_awake_ok n) (AllOK.cons (bencode_Parse_ok n) AllOK.nil)) (AllL.cons (rosettalaw34_BencodeLimits_L0_ok n (by kernel_rfl)) (AllL.cons (rosettalaw34_BencodeLimits_L1_ok n (by kernel_rfl)) (AllL.cons (rosettalaw34_BencodeLimits_L2_ok n (by kernel_rfl)) AllL.nil))) (AllJ.cons (fun x => by kernel_rfl) (AllJ.cons (fun x => by kernel_rfl) AllJ.nil))) (fun x => by kernel_rfl)
end Go.Sh
