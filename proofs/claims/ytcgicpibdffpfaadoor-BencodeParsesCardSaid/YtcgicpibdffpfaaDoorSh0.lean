/-
The shallow functions of this seat, part 0, and that each is sound; written by program. No theorem about what they compute stands here.
-/
import Derived.Test.YtcgicpibdffpfaaDoorShLib
set_option maxRecDepth 100000
set_option maxHeartbeats 0
set_option linter.all false
namespace Go.Sh
open Go Go.Ago Go.Proofs
def bencode_parser_fail (n : Nat) (a0 : Option Addr) (a1 : Int) (a2 : Int) : M (Bool) :=
  M.bind (nn a0) fun x0 =>
  M.bind (ldL (li) (x0.plus 8)) fun (x1 : Int) =>
  if decide (x1 = 0) then
    M.bind (nn a0) fun x2 =>
    M.bind (stN (x2.plus 9) [vi a1]) fun x3 =>
    M.bind (nn a0) fun x4 =>
    M.bind (stN (x4.plus 8) [vi a2]) fun x5 =>
    M.pure false
  else
    M.pure false
def bencode_parser_fail_ct (n : Nat) : List Ent := []
def bencode_parser_fail_dr (i : Nat) : Option (List (Nat × List Nat)) := none
def bencode_parser_fail_lt (n : Nat) : List LEnt := []
def bencode_parser_fail_jt0 (n : Nat) : List (JEnt (Bool)) := []
theorem bencode_parser_fail_ok (n : Nat) : FnOK Tryd.prog ⟨11, [.one (.ptr), .one (.int .i64), .one (.int .i64)], [.one (.bool)], fun x => bencode_parser_fail n (x.1) (x.2.1) (x.2.2)⟩ :=
  fn_ok (P := Tryd.prog) (e := ⟨11, [.one (.ptr), .one (.int .i64), .one (.int .i64)], [.one (.bool)], fun x => bencode_parser_fail n (x.1) (x.2.1) (x.2.2)⟩) (fn := Tryd.f11) (c := (bodyOf Tryd.f11)) (T := ⟨lookC (bencode_parser_fail_ct n), lookL (bencode_parser_fail_lt n), lookJ (bencode_parser_fail_jt0 n), bencode_parser_fail_dr⟩) (N := 400) (ps := [(0, .one (.ptr)), (1, .one (.int .i64)), (2, .one (.int .i64))])
    (by kernel_rfl) (by kernel_rfl) (by kernel_rfl) (by kernel_rfl) (by kernel_rfl) (tabs_ok (P := Tryd.prog) (body := (bodyOf Tryd.f11)) (W := (20, none)) (cl := bencode_parser_fail_ct n) (ll := bencode_parser_fail_lt n) (dr := bencode_parser_fail_dr) (fin := (finF Tryd.prog Tryd.f11 [.one (.bool)])) (N := 400) (js := bencode_parser_fail_jt0 n) AllOK.nil AllL.nil AllJ.nil) (fun x => by kernel_rfl)
def bencode_parser_more (n : Nat) (a0 : Option Addr) : M (Bool) :=
  M.bind (nn a0) fun x0 =>
  M.bind (nn a0) fun x1 =>
  M.bind (ldL (li) (x0.plus 1)) fun (x2 : Int) =>
  M.bind (ldL .str (x1.plus 0)) fun (x3 : ByteArray) =>
  if decide ((↑(ByteArray.size x3) : Int) ≤ x2) then
    M.bind (nn a0) fun x4 =>
    M.bind (ldL .str (x4.plus 0)) fun (x5 : ByteArray) =>
    M.bind (bencode_parser_fail n a0 (↑(ByteArray.size x5) : Int) 4) fun x6 =>
    M.pure x6
  else
    M.bind (nn a0) fun x4 =>
    M.bind (ldL (li) (x4.plus 8)) fun (x5 : Int) =>
    M.pure (decide (x5 = 0))
def bencode_parser_more_ct (n : Nat) : List Ent := [⟨11, [.one (.ptr), .one (.int .i64), .one (.int .i64)], [.one (.bool)], fun x => bencode_parser_fail n (x.1) (x.2.1) (x.2.2)⟩]
def bencode_parser_more_dr (i : Nat) : Option (List (Nat × List Nat)) := cond (Nat.beq i 1) (some [(0, []), (1, []), (2, []), (4, []), (5, []), (6, []), (3, []), (7, []), (8, []), (9, [])]) (none)
def bencode_parser_more_lt (n : Nat) : List LEnt := []
def bencode_parser_more_jt0 (n : Nat) : List (JEnt (Bool)) := []
theorem bencode_parser_more_ok (n : Nat) : FnOK Tryd.prog ⟨15, [.one (.ptr)], [.one (.bool)], fun x => bencode_parser_more n (x)⟩ :=
  fn_ok (P := Tryd.prog) (e := ⟨15, [.one (.ptr)], [.one (.bool)], fun x => bencode_parser_more n (x)⟩) (fn := Tryd.f15) (c := (bodyOf Tryd.f15)) (T := ⟨lookC (bencode_parser_more_ct n), lookL (bencode_parser_more_lt n), lookJ (bencode_parser_more_jt0 n), bencode_parser_more_dr⟩) (N := 400) (ps := [(0, .one (.ptr))])
    (by kernel_rfl) (by kernel_rfl) (by kernel_rfl) (by kernel_rfl) (by kernel_rfl) (tabs_ok (P := Tryd.prog) (body := (bodyOf Tryd.f15)) (W := (25, none)) (cl := bencode_parser_more_ct n) (ll := bencode_parser_more_lt n) (dr := bencode_parser_more_dr) (fin := (finF Tryd.prog Tryd.f15 [.one (.bool)])) (N := 400) (js := bencode_parser_more_jt0 n) (AllOK.cons (bencode_parser_fail_ok n) AllOK.nil) AllL.nil AllJ.nil) (fun x => by kernel_rfl)
def integer_trim_L0_B (G : Sl → M (Sl)) (n : Nat) (a0 : Sl) : M (Sl) :=
  if decide (0 < (↑a0.len : Int)) then
    M.bind (idxA a0 (IntKind.i64.wrap ((↑a0.len : Int) - 1)) 1) fun x0 =>
    M.bind (ldL (.int IntKind.u8) x0) fun (x1 : Int) =>
    if decide (x1 = 0) then
      M.bind (sliceL a0 0 (IntKind.i64.wrap ((↑a0.len : Int) - 1)) T_u8 1) fun x2 =>
      G x2
    else
      M.pure a0
  else
    M.pure a0
def integer_trim_L0 : Nat → Sl → M (Sl)
  | 0 => fun _ => M.fail
  | n + 1 => integer_trim_L0_B (integer_trim_L0 n) n
theorem integer_trim_L0_succ (n : Nat) : integer_trim_L0 (n + 1) = integer_trim_L0_B (integer_trim_L0 n) n := rfl
def integer_trim (n : Nat) (a0 : Sl) : M (Sl) :=
  M.bind (integer_trim_L0 n a0) fun x0 =>
  M.pure x0
def integer_trim_ct (n : Nat) : List Ent := []
def integer_trim_dr (i : Nat) : Option (List (Nat × List Nat)) := none
def integer_trim_L0_lt (n : Nat) : List LEnt := []
def integer_trim_L0_jt0 (n : Nat) : List (JEnt (Sl)) := []
def integer_trim_lt (n : Nat) : List LEnt := [⟨[0, 0, 1], [(0, .one (.sl))], actL1 [(0, .one (.sl))] [(0, .one (.sl))] [0, 3, 4, 5, 6, 7, 8, 9, 10, 11, 12, 13, 14, 15, 16, 17, 18, 19] 0 (fun x => integer_trim_L0 n (x))⟩]
def integer_trim_jt0 (n : Nat) : List (JEnt (Sl)) := []
theorem integer_trim_L0_ok (n : Nat) {W : Wr} (hW : subW W 21 [0, 3, 4, 5, 6, 7, 8, 9, 10, 11, 12, 13, 14, 15, 16, 17, 18, 19] = true) : LEntOK Tryd.prog (bodyOf Tryd.f41) W ⟨[0, 0, 1], [(0, .one (.sl))], actL1 [(0, .one (.sl))] [(0, .one (.sl))] [0, 3, 4, 5, 6, 7, 8, 9, 10, 11, 12, 13, 14, 15, 16, 17, 18, 19] 0 (fun x => integer_trim_L0 n (x))⟩ :=
  loop1_ok (P := Tryd.prog) (body := (bodyOf Tryd.f41)) (c := child (codeAt (bodyOf Tryd.f41) [0, 0, 1]) 0) (p := [0, 0, 1]) (ls := [(0, .one (.sl))]) (ms := [(0, .one (.sl))]) (id := 0) (nt := 21) (ws := [0, 3, 4, 5, 6, 7, 8, 9, 10, 11, 12, 13, 14, 15, 16, 17, 18, 19]) (N := 400) (G := (fun n x => integer_trim_L0 n x)) (T := fun n => ⟨lookC (integer_trim_ct n), lookL (integer_trim_L0_lt n), lookJ (integer_trim_L0_jt0 n), integer_trim_dr⟩)
    (by kernel_rfl) (fun _ => by kernel_rfl) (fun n x => by kernel_rfl) n (fun m hm => (tabs_ok (P := Tryd.prog) (body := (bodyOf Tryd.f41)) (W := (21, some [0, 3, 4, 5, 6, 7, 8, 9, 10, 11, 12, 13, 14, 15, 16, 17, 18, 19])) (cl := integer_trim_ct m) (ll := integer_trim_L0_lt m) (dr := integer_trim_dr) (fin := (finL1 [(0, .one (.sl))] [(0, .one (.sl))] 0 (fun x => integer_trim_L0 m (x)))) (N := 400) (js := integer_trim_L0_jt0 m) AllOK.nil AllL.nil AllJ.nil)) hW
theorem integer_trim_ok (n : Nat) : FnOK Tryd.prog ⟨41, [.one (.sl)], [.one (.sl)], fun x => integer_trim n (x)⟩ :=
  fn_ok (P := Tryd.prog) (e := ⟨41, [.one (.sl)], [.one (.sl)], fun x => integer_trim n (x)⟩) (fn := Tryd.f41) (c := (bodyOf Tryd.f41)) (T := ⟨lookC (integer_trim_ct n), lookL (integer_trim_lt n), lookJ (integer_trim_jt0 n), integer_trim_dr⟩) (N := 400) (ps := [(0, .one (.sl))])
    (by kernel_rfl) (by kernel_rfl) (by kernel_rfl) (by kernel_rfl) (by kernel_rfl) (tabs_ok (P := Tryd.prog) (body := (bodyOf Tryd.f41)) (W := (21, none)) (cl := integer_trim_ct n) (ll := integer_trim_lt n) (dr := integer_trim_dr) (fin := (finF Tryd.prog Tryd.f41 [.one (.sl)])) (N := 400) (js := integer_trim_jt0 n) AllOK.nil (AllL.cons (integer_trim_L0_ok n (by kernel_rfl)) AllL.nil) AllJ.nil) (fun x => by kernel_rfl)
def integer_read_L0_J0_B (G : Addr → Addr → ByteArray → Int → Int → M ((Unit) ⊕ (Bool))) (n : Nat) (a0 : Addr) (a1 : Addr) (a2 : ByteArray) (a3 : Int) (a4 : Int) (a5 : Int) : M ((Unit) ⊕ (Bool)) :=
  M.bind (idxS a2 a3) fun x0 =>
  M.bind (ldL .sl (a1.plus 1)) fun (x1 : Sl) =>
  M.bind (idxA x1 (IntKind.i64.wrap (IntKind.i64.wrap ((↑a2.size : Int) - 1) - a3)) 1) fun x2 =>
  M.bind (stN x2 [Value.int IntKind.u8 (IntKind.u8.wrap ((↑x0.toNat : Int) - 48))]) fun x3 =>
  G a0 a1 a2 a4 (IntKind.i64.wrap (a5 + 1))
def integer_read_L0_B (G : Addr → Addr → ByteArray → Int → Int → M ((Unit) ⊕ (Bool))) (n : Nat) (a0 : Addr) (a1 : Addr) (a2 : ByteArray) (a3 : Int) (a4 : Int) : M ((Unit) ⊕ (Bool)) :=
  if decide (a4 < a3) then
    M.bind (idxS a2 a4) fun x0 =>
    if decide ((↑x0.toNat : Int) < 48) then
      M.bind (stN a0 [Value.bool false, vsl0]) fun x1 =>
      M.pure (Sum.inr false)
    else
      M.bind (idxS a2 a4) fun x1 =>
      if decide (57 < (↑x1.toNat : Int)) then
        M.bind (stN a0 [Value.bool false, vsl0]) fun x2 =>
        M.pure (Sum.inr false)
      else
        integer_read_L0_J0_B G n a0 a1 a2 a4 a3 a4
  else
    M.pure (Sum.inl ())
def integer_read_L0 : Nat → Addr → Addr → ByteArray → Int → Int → M ((Unit) ⊕ (Bool))
  | 0 => fun _ _ _ _ _ => M.fail
  | n + 1 => integer_read_L0_B (integer_read_L0 n) n
theorem integer_read_L0_succ (n : Nat) : integer_read_L0 (n + 1) = integer_read_L0_B (integer_read_L0 n) n := rfl
def integer_read_L0_J0 (n : Nat) (a0 : Addr) (a1 : Addr) (a2 : ByteArray) (a3 : Int) (a4 : Int) (a5 : Int) : M ((Unit) ⊕ (Bool)) := integer_read_L0_J0_B (integer_read_L0 n) n a0 a1 a2 a3 a4 a5
def integer_read_J1 (n : Nat) (a0 : Addr) (a1 : Addr) (a2 : ByteArray) : M ((Bool × Sl) × Bool) :=
  M.bind (mkS T_u8 [Value.int IntKind.u8 0] (↑a2.size : Int) (↑a2.size : Int)) fun x0 =>
  M.bind (stN (a1.plus 1) [vsl x0]) fun x1 =>
  M.bind (integer_read_L0 n a0 a1 a2 (↑a2.size : Int) 0) (sumElim (fun x2 =>
    M.bind (ldL .sl (a1.plus 1)) fun (x3 : Sl) =>
    M.bind (integer_trim n x3) fun x4 =>
    M.bind (stN (a1.plus 1) [vsl x4]) fun x5 =>
    M.bind (ldLs [.bool, .sl] a1) fun (x6 : Bool × Sl) =>
    M.bind (stN a0 [Value.bool x6.1, vsl x6.2]) fun x7 =>
    M.bind (ldLs [.bool, .sl] a0) fun (x8 : Bool × Sl) =>
    M.pure ((x8.1, x8.2), true))
  (fun x2 =>
    M.bind (ldLs [.bool, .sl] a0) fun (x3 : Bool × Sl) =>
    M.pure ((x3.1, x3.2), x2)))
def integer_read_J0 (n : Nat) (a0 : ByteArray) (a1 : Addr) (a2 : Addr) (a3 : ByteArray) : M ((Bool × Sl) × Bool) :=
  if decide ((↑a3.size : Int) = 0) then
    M.bind (stN a1 [Value.bool false, vsl0]) fun x0 =>
    M.bind (ldLs [.bool, .sl] a1) fun (x1 : Bool × Sl) =>
    M.pure ((x1.1, x1.2), false)
  else
    if decide (400 < (↑a3.size : Int)) then
      M.bind (stN a1 [Value.bool false, vsl0]) fun x0 =>
      M.bind (ldLs [.bool, .sl] a1) fun (x1 : Bool × Sl) =>
      M.pure ((x1.1, x1.2), false)
    else
      M.bind (idxS a3 0) fun x0 =>
      if decide ((↑x0.toNat : Int) = 48) then
        if decide (1 < (↑a0.size : Int)) then
          M.bind (stN a1 [Value.bool false, vsl0]) fun x1 =>
          M.bind (ldLs [.bool, .sl] a1) fun (x2 : Bool × Sl) =>
          M.pure ((x2.1, x2.2), false)
        else
          integer_read_J1 n a1 a2 a3
      else
        integer_read_J1 n a1 a2 a3
def integer_read (n : Nat) (a0 : ByteArray) : M ((Bool × Sl) × Bool) :=
  M.bind (newB none T_integer_number [Value.bool false, vsl0]) fun x0 =>
  M.bind (newB none T_integer_number [Value.bool false, vsl0]) fun x1 =>
  M.bind (stN (adr x1) [Value.bool false, vsl0]) fun x2 =>
  if decide (1 < (↑a0.size : Int)) then
    M.bind (idxS a0 0) fun x3 =>
    if decide ((↑x3.toNat : Int) = 45) then
      M.bind (stN ((adr x1).plus 0) [Value.bool true]) fun x4 =>
      M.bind (sliceS a0 1 (↑a0.size : Int)) fun x5 =>
      integer_read_J0 n a0 (adr x0) (adr x1) x5
    else
      integer_read_J0 n a0 (adr x0) (adr x1) a0
  else
    integer_read_J0 n a0 (adr x0) (adr x1) a0
def integer_read_ct (n : Nat) : List Ent := [⟨41, [.one (.sl)], [.one (.sl)], fun x => integer_trim n (x)⟩]
def integer_read_dr (i : Nat) : Option (List (Nat × List Nat)) := cond (Nat.beq i 14) (some [(0, []), (2, []), (3, []), (4, []), (5, []), (6, []), (7, []), (8, []), (9, []), (10, []), (1, []), (11, []), (12, [])]) (none)
def integer_read_L0_lt (n : Nat) : List LEnt := []
def integer_read_L0_jt1 (n : Nat) : List (JEnt ((Unit) ⊕ (Bool))) := []
def integer_read_L0_jt0 (n : Nat) : List (JEnt ((Unit) ⊕ (Bool))) := ⟨[1, 1, 0, 0, 1, 1, 0, 0, 1, 0, 1, 1, 1, 1, 1, 1], [.blk 1, .code [1, 1, 1, 0, 0, 1, 0, 1, 1, 1, 1, 1, 1]], [(2, .one (.adr)), (4, .one (.adr)), (5, .one (.str)), (6, .one (.int .i64)), (44, .one (.int .i64)), (45, .one (.int .i64))], fun x => integer_read_L0_J0 n (x.1) (x.2.1) (x.2.2.1) (x.2.2.2.1) (x.2.2.2.2.1) (x.2.2.2.2.2)⟩ :: integer_read_L0_jt1 n
def integer_read_lt (n : Nat) : List LEnt := [⟨[0, 1, 0, 1, 1, 1, 1, 1, 1], [(2, .one (.adr)), (4, .one (.adr)), (5, .one (.str)), (44, .one (.int .i64)), (45, .one (.int .i64))], actL2 [(2, .one (.adr)), (4, .one (.adr)), (5, .one (.str)), (44, .one (.int .i64)), (45, .one (.int .i64))] [] [(3, .one (.bool))] [3, 6, 45, 46, 47, 48, 49, 50, 51, 52, 53, 54, 55, 56, 57, 58, 59, 60, 61, 62, 63, 64, 65, 66, 67, 68, 69, 70, 71] 0 .ret (fun x => integer_read_L0 n (x.1) (x.2.1) (x.2.2.1) (x.2.2.2.1) (x.2.2.2.2))⟩]
def integer_read_jt2 (n : Nat) : List (JEnt ((Bool × Sl) × Bool)) := []
def integer_read_jt1 (n : Nat) : List (JEnt ((Bool × Sl) × Bool)) := ⟨[0, 1, 1, 1, 1, 1], [.code [1, 1, 1, 1, 1, 1]], [(2, .one (.adr)), (4, .one (.adr)), (5, .one (.str))], fun x => integer_read_J1 n (x.1) (x.2.1) (x.2.2)⟩ :: integer_read_jt2 n
def integer_read_jt0 (n : Nat) : List (JEnt ((Bool × Sl) × Bool)) := ⟨[0, 0, 1, 1, 1, 1], [.code [1, 0, 1, 1, 1, 1], .code [1, 1, 1, 1, 1]], [(0, .one (.str)), (2, .one (.adr)), (4, .one (.adr)), (5, .one (.str))], fun x => integer_read_J0 n (x.1) (x.2.1) (x.2.2.1) (x.2.2.2)⟩ :: integer_read_jt1 n
theorem integer_read_L0_ok (n : Nat) {W : Wr} (hW : subW W 77 [3, 6, 45, 46, 47, 48, 49, 50, 51, 52, 53, 54, 55, 56, 57, 58, 59, 60, 61, 62, 63, 64, 65, 66, 67, 68, 69, 70, 71] = true) : LEntOK Tryd.prog (bodyOf Tryd.f36) W ⟨[0, 1, 0, 1, 1, 1, 1, 1, 1], [(2, .one (.adr)), (4, .one (.adr)), (5, .one (.str)), (44, .one (.int .i64)), (45, .one (.int .i64))], actL2 [(2, .one (.adr)), (4, .one (.adr)), (5, .one (.str)), (44, .one (.int .i64)), (45, .one (.int .i64))] [] [(3, .one (.bool))] [3, 6, 45, 46, 47, 48, 49, 50, 51, 52, 53, 54, 55, 56, 57, 58, 59, 60, 61, 62, 63, 64, 65, 66, 67, 68, 69, 70, 71] 0 .ret (fun x => integer_read_L0 n (x.1) (x.2.1) (x.2.2.1) (x.2.2.2.1) (x.2.2.2.2))⟩ :=
  loop2_ok (P := Tryd.prog) (body := (bodyOf Tryd.f36)) (c := child (codeAt (bodyOf Tryd.f36) [0, 1, 0, 1, 1, 1, 1, 1, 1]) 0) (p := [0, 1, 0, 1, 1, 1, 1, 1, 1]) (ls := [(2, .one (.adr)), (4, .one (.adr)), (5, .one (.str)), (44, .one (.int .i64)), (45, .one (.int .i64))]) (ms := []) (rs := [(3, .one (.bool))]) (id := 0) (e2 := .ret) (nt := 77) (ws := [3, 6, 45, 46, 47, 48, 49, 50, 51, 52, 53, 54, 55, 56, 57, 58, 59, 60, 61, 62, 63, 64, 65, 66, 67, 68, 69, 70, 71]) (N := 400) (G := (fun n x => integer_read_L0 n (x.1) (x.2.1) (x.2.2.1) (x.2.2.2.1) (x.2.2.2.2))) (T := fun n => ⟨lookC (integer_read_ct n), lookL (integer_read_L0_lt n), lookJ (integer_read_L0_jt0 n), integer_read_dr⟩)
    (by kernel_rfl) (fun _ => by kernel_rfl) (fun n x => by kernel_rfl) n (fun m hm => (tabs_ok (P := Tryd.prog) (body := (bodyOf Tryd.f36)) (W := (77, some [3, 6, 45, 46, 47, 48, 49, 50, 51, 52, 53, 54, 55, 56, 57, 58, 59, 60, 61, 62, 63, 64, 65, 66, 67, 68, 69, 70, 71])) (cl := integer_read_ct m) (ll := integer_read_L0_lt m) (dr := integer_read_dr) (fin := (finL2 [(2, .one (.adr)), (4, .one (.adr)), (5, .one (.str)), (44, .one (.int .i64)), (45, .one (.int .i64))] [] [(3, .one (.bool))] 0 .ret (fun x => integer_read_L0 m (x.1) (x.2.1) (x.2.2.1) (x.2.2.2.1) (x.2.2.2.2)))) (N := 400) (js := integer_read_L0_jt0 m) (AllOK.cons (integer_trim_ok m) AllOK.nil) AllL.nil (AllJ.cons (fun x => by kernel_rfl) AllJ.nil))) hW
theorem integer_read_ok (n : Nat) : FnOK Tryd.prog ⟨36, [.one (.str)], [.agg [.bool, .sl], .one (.bool)], fun x => integer_read n (x)⟩ :=
  fn_ok (P := Tryd.prog) (e := ⟨36, [.one (.str)], [.agg [.bool, .sl], .one (.bool)], fun x => integer_read n (x)⟩) (fn := Tryd.f36) (c := (bodyOf Tryd.f36)) (T := ⟨lookC (integer_read_ct n), lookL (integer_read_lt n), lookJ (integer_read_jt0 n), integer_read_dr⟩) (N := 400) (ps := [(0, .one (.str))])
    (by kernel_rfl) (by kernel_rfl) (by kernel_rfl) (by kernel_rfl) (by kernel_rfl) (tabs_ok (P := Tryd.prog) (body := (bodyOf Tryd.f36)) (W := (77, none)) (cl := integer_read_ct n) (ll := integer_read_lt n) (dr := integer_read_dr) (fin := (finF Tryd.prog Tryd.f36 [.agg [.bool, .sl], .one (.bool)])) (N := 400) (js := integer_read_jt0 n) (AllOK.cons (integer_trim_ok n) AllOK.nil) (AllL.cons (integer_read_L0_ok n (by kernel_rfl)) AllL.nil) (AllJ.cons (fun x => by kernel_rfl) (AllJ.cons (fun x => by kernel_rfl) AllJ.nil))) (fun x => by kernel_rfl)
def integer_Valid (n : Nat) (a0 : ByteArray) : M (Bool) :=
  M.bind (integer_read n a0) fun x0 =>
  M.bind (newB none T_integer_number [Value.bool false, vsl0]) fun x1 =>
  M.bind (stN (adr x1) [Value.bool x0.1.1, vsl x0.1.2]) fun x2 =>
  M.pure x0.2
def integer_Valid_ct (n : Nat) : List Ent := [⟨36, [.one (.str)], [.agg [.bool, .sl], .one (.bool)], fun x => integer_read n (x)⟩]
def integer_Valid_dr (i : Nat) : Option (List (Nat × List Nat)) := none
def integer_Valid_lt (n : Nat) : List LEnt := []
def integer_Valid_jt0 (n : Nat) : List (JEnt (Bool)) := []
theorem integer_Valid_ok (n : Nat) : FnOK Tryd.prog ⟨28, [.one (.str)], [.one (.bool)], fun x => integer_Valid n (x)⟩ :=
  fn_ok (P := Tryd.prog) (e := ⟨28, [.one (.str)], [.one (.bool)], fun x => integer_Valid n (x)⟩) (fn := Tryd.f28) (c := (bodyOf Tryd.f28)) (T := ⟨lookC (integer_Valid_ct n), lookL (integer_Valid_lt n), lookJ (integer_Valid_jt0 n), integer_Valid_dr⟩) (N := 400) (ps := [(0, .one (.str))])
    (by kernel_rfl) (by kernel_rfl) (by kernel_rfl) (by kernel_rfl) (by kernel_rfl) (tabs_ok (P := Tryd.prog) (body := (bodyOf Tryd.f28)) (W := (11, none)) (cl := integer_Valid_ct n) (ll := integer_Valid_lt n) (dr := integer_Valid_dr) (fin := (finF Tryd.prog Tryd.f28 [.one (.bool)])) (N := 400) (js := integer_Valid_jt0 n) (AllOK.cons (integer_read_ok n) AllOK.nil) AllL.nil AllJ.nil) (fun x => by kernel_rfl)
def bencode_parser_node (n : Nat) (a0 : Option Addr) (a1 : Int × ByteArray × Bool × Sl × Sl) (a2 : Int) (a3 : Int) : M (Int × Bool) :=
  M.bind (newB none T_api_Node [vi a1.1, Value.string a1.2.1, Value.bool a1.2.2.1, vsl a1.2.2.2.1, vsl a1.2.2.2.2]) fun x0 =>
  if decide (32 < a3) then
    M.bind (bencode_parser_fail n a0 a2 5) fun x1 =>
    M.pure (0, x1)
  else
    M.bind (nn a0) fun x1 =>
    M.bind (ldL .sl (((x1.plus 2).plus 2).plus 0)) fun (x2 : Sl) =>
    if decide (4096 ≤ (↑x2.len : Int)) then
      M.bind (bencode_parser_fail n a0 a2 7) fun x3 =>
      M.pure (0, x3)
    else
      M.bind (nn a0) fun x3 =>
      M.bind (ldL .sl (((x3.plus 2).plus 2).plus 0)) fun (x4 : Sl) =>
      M.bind (ldLs [li, .str, .bool, .sl, .sl] (adr x0)) fun (x5 : Int × ByteArray × Bool × Sl × Sl) =>
      M.bind (app true x4 5 T_api_Node 1 [vi x5.1, Value.string x5.2.1, Value.bool x5.2.2.1, vsl x5.2.2.2.1, vsl x5.2.2.2.2]) fun x6 =>
      M.bind (nn a0) fun x7 =>
      M.bind (stN (((x7.plus 2).plus 2).plus 0) [vsl x6]) fun x8 =>
      M.bind (nn a0) fun x9 =>
      M.bind (ldL .sl (((x9.plus 2).plus 2).plus 0)) fun (x10 : Sl) =>
      M.pure (IntKind.i64.wrap ((↑x10.len : Int) - 1), true)
def bencode_parser_node_ct (n : Nat) : List Ent := [⟨11, [.one (.ptr), .one (.int .i64), .one (.int .i64)], [.one (.bool)], fun x => bencode_parser_fail n (x.1) (x.2.1) (x.2.2)⟩]
def bencode_parser_node_dr (i : Nat) : Option (List (Nat × List Nat)) := cond (Nat.beq i 5) (some [(0, []), (1, []), (2, []), (3, []), (4, []), (5, []), (6, []), (7, []), (8, []), (9, []), (10, []), (11, []), (12, []), (13, []), (14, [])]) (none)
def bencode_parser_node_lt (n : Nat) : List LEnt := []
def bencode_parser_node_jt0 (n : Nat) : List (JEnt (Int × Bool)) := []
theorem bencode_parser_node_ok (n : Nat) : FnOK Tryd.prog ⟨29, [.one (.ptr), .agg [.int .i64, .str, .bool, .sl, .sl], .one (.int .i64), .one (.int .i64)], [.one (.int .i64), .one (.bool)], fun x => bencode_parser_node n (x.1) (x.2.1) (x.2.2.1) (x.2.2.2)⟩ :=
  fn_ok (P := Tryd.prog) (e := ⟨29, [.one (.ptr), .agg [.int .i64, .str, .bool, .sl, .sl], .one (.int .i64), .one (.int .i64)], [.one (.int .i64), .one (.bool)], fun x => bencode_parser_node n (x.1) (x.2.1) (x.2.2.1) (x.2.2.2)⟩) (fn := Tryd.f29) (c := (bodyOf Tryd.f29)) (T := ⟨lookC (bencode_parser_node_ct n), lookL (bencode_parser_node_lt n), lookJ (bencode_parser_node_jt0 n), bencode_parser_node_dr⟩) (N := 400) (ps := [(0, .one (.ptr)), (1, .agg [.int .i64, .str, .bool, .sl, .sl]), (2, .one (.int .i64)), (3, .one (.int .i64))])
    (by kernel_rfl) (by kernel_rfl) (by kernel_rfl) (by kernel_rfl) (by kernel_rfl) (tabs_ok (P := Tryd.prog) (body := (bodyOf Tryd.f29)) (W := (48, none)) (cl := bencode_parser_node_ct n) (ll := bencode_parser_node_lt n) (dr := bencode_parser_node_dr) (fin := (finF Tryd.prog Tryd.f29 [.one (.int .i64), .one (.bool)])) (N := 400) (js := bencode_parser_node_jt0 n) (AllOK.cons (bencode_parser_fail_ok n) AllOK.nil) AllL.nil AllJ.nil) (fun x => by kernel_rfl)
def bencode_parser_integer (n : Nat) (a0 : Option Addr) (a1 : Int) (a2 : Int) : M (Int × Bool) :=
  M.bind (nn a0) fun x0 =>
  M.bind (ldL (li) (x0.plus 1)) fun (x1 : Int) =>
  M.bind (nn a0) fun x2 =>
  M.bind (ldL .str (x2.plus 0)) fun (x3 : ByteArray) =>
  M.bind (sliceS x3 x1 (↑(ByteArray.size x3) : Int)) fun x4 =>
  M.bind (strings_IndexByte n x4 101) fun x5 =>
  if decide (x5 < 0) then
    M.bind (nn a0) fun x6 =>
    M.bind (ldL .str (x6.plus 0)) fun (x7 : ByteArray) =>
    M.bind (bencode_parser_fail n a0 (↑(ByteArray.size x7) : Int) 4) fun x8 =>
    M.pure (0, x8)
  else
    M.bind (nn a0) fun x6 =>
    M.bind (ldL .str (x6.plus 0)) fun (x7 : ByteArray) =>
    M.bind (sliceS x7 (IntKind.i64.wrap (x1 + 1)) (IntKind.i64.wrap (x1 + x5))) fun x8 =>
    M.bind (nn a0) fun x9 =>
    M.bind (stN (x9.plus 1) [vi (IntKind.i64.wrap (IntKind.i64.wrap (x1 + x5) + 1))]) fun x10 =>
    M.bind (integer_Valid n x8) fun x11 =>
    if !x11 then
      M.bind (bencode_parser_fail n a0 x1 12) fun x12 =>
      M.pure (0, x12)
    else
      M.bind (bencode_parser_node n a0 (2, x8, false, sl0, sl0) x1 a1) fun x12 =>
      M.pure (x12.1, x12.2)
def bencode_parser_integer_ct (n : Nat) : List Ent := [⟨11, [.one (.ptr), .one (.int .i64), .one (.int .i64)], [.one (.bool)], fun x => bencode_parser_fail n (x.1) (x.2.1) (x.2.2)⟩,
  ⟨27, [.one (.str), .one (.int .u8)], [.one (.int .i64)], fun x => strings_IndexByte n (x.1) (x.2)⟩,
  ⟨28, [.one (.str)], [.one (.bool)], fun x => integer_Valid n (x)⟩,
  ⟨29, [.one (.ptr), .agg [.int .i64, .str, .bool, .sl, .sl], .one (.int .i64), .one (.int .i64)], [.one (.int .i64), .one (.bool)], fun x => bencode_parser_node n (x.1) (x.2.1) (x.2.2.1) (x.2.2.2)⟩]
def bencode_parser_integer_dr (i : Nat) : Option (List (Nat × List Nat)) := none
def bencode_parser_integer_lt (n : Nat) : List LEnt := []
def bencode_parser_integer_jt0 (n : Nat) : List (JEnt (Int × Bool)) := []
theorem bencode_parser_integer_ok (n : Nat) : FnOK Tryd.prog ⟨16, [.one (.ptr), .one (.int .i64), .one (.int .i64)], [.one (.int .i64), .one (.bool)], fun x => bencode_parser_integer n (x.1) (x.2.1) (x.2.2)⟩ :=
  fn_ok (P := Tryd.prog) (e := ⟨16, [.one (.ptr), .one (.int .i64), .one (.int .i64)], [.one (.int .i64), .one (.bool)], fun x => bencode_parser_integer n (x.1) (x.2.1) (x.2.2)⟩) (fn := Tryd.f16) (c := (bodyOf Tryd.f16)) (T := ⟨lookC (bencode_parser_integer_ct n), lookL (bencode_parser_integer_lt n), lookJ (bencode_parser_integer_jt0 n), bencode_parser_integer_dr⟩) (N := 400) (ps := [(0, .one (.ptr)), (1, .one (.int .i64)), (2, .one (.int .i64))])
    (by kernel_rfl) (by kernel_rfl) (by kernel_rfl) (by kernel_rfl) (by kernel_rfl) (tabs_ok (P := Tryd.prog) (body := (bodyOf Tryd.f16)) (W := (62, none)) (cl := bencode_parser_integer_ct n) (ll := bencode_parser_integer_lt n) (dr := bencode_parser_integer_dr) (fin := (finF Tryd.prog Tryd.f16 [.one (.int .i64), .one (.bool)])) (N := 400) (js := bencode_parser_integer_jt0 n) (AllOK.cons (bencode_parser_fail_ok n) (AllOK.cons (strings_IndexByte_ok n) (AllOK.cons (integer_Valid_ok n) (AllOK.cons (bencode_parser_node_ok n) AllOK.nil)))) AllL.nil AllJ.nil) (fun x => by kernel_rfl)
def bencode_parser_text_L0_B (G : Option Addr → Int → M (Unit)) (n : Nat) (a0 : Option Addr) (a1 : Int) : M (Unit) :=
  M.bind (nn a0) fun x0 =>
  M.bind (nn a0) fun x1 =>
  M.bind (ldL (li) (x0.plus 1)) fun (x2 : Int) =>
  M.bind (ldL .str (x1.plus 0)) fun (x3 : ByteArray) =>
  if decide (x2 < (↑(ByteArray.size x3) : Int)) then
    M.bind (nn a0) fun x4 =>
    M.bind (nn a0) fun x5 =>
    M.bind (ldL .str (x4.plus 0)) fun (x6 : ByteArray) =>
    M.bind (ldL (li) (x5.plus 1)) fun (x7 : Int) =>
    M.bind (idxS x6 x7) fun x8 =>
    if decide (48 ≤ (↑x8.toNat : Int)) then
      M.bind (nn a0) fun x9 =>
      M.bind (nn a0) fun x10 =>
      M.bind (ldL .str (x9.plus 0)) fun (x11 : ByteArray) =>
      M.bind (ldL (li) (x10.plus 1)) fun (x12 : Int) =>
      M.bind (idxS x11 x12) fun x13 =>
      if decide ((↑x13.toNat : Int) ≤ 57) then
        M.bind (nn a0) fun x14 =>
        M.bind (ldL (li) (x14.plus 1)) fun (x15 : Int) =>
        M.bind (nn a0) fun x16 =>
        M.bind (stN (x16.plus 1) [vi (IntKind.i64.wrap (x15 + 1))]) fun x17 =>
        G a0 a1
      else
        M.pure ()
    else
      M.pure ()
  else
    M.pure ()
def bencode_parser_text_L0 : Nat → Option Addr → Int → M (Unit)
  | 0 => fun _ _ => M.fail
  | n + 1 => bencode_parser_text_L0_B (bencode_parser_text_L0 n) n
theorem bencode_parser_text_L0_succ (n : Nat) : bencode_parser_text_L0 (n + 1) = bencode_parser_text_L0_B (bencode_parser_text_L0 n) n := rfl
def bencode_parser_text_J1 (n : Nat) (a0 : Option Addr) (a1 : Int) : M (ByteArray × Bool) :=
  M.bind (nn a0) fun x0 =>
  M.bind (ldL (li) (x0.plus 1)) fun (x1 : Int) =>
  M.bind (nn a0) fun x2 =>
  M.bind (stN (x2.plus 1) [vi (IntKind.i64.wrap (x1 + a1))]) fun x3 =>
  M.bind (nn a0) fun x4 =>
  M.bind (nn a0) fun x5 =>
  M.bind (nn a0) fun x6 =>
  M.bind (ldL .str (x4.plus 0)) fun (x7 : ByteArray) =>
  M.bind (ldL (li) (x5.plus 1)) fun (x8 : Int) =>
  M.bind (ldL (li) (x6.plus 1)) fun (x9 : Int) =>
  M.bind (sliceS x7 (IntKind.i64.wrap (x8 - a1)) x9) fun x10 =>
  M.pure (x10, true)
def bencode_parser_text_J0 (n : Nat) (a0 : Option Addr) (a1 : ByteArray) : M (ByteArray × Bool) :=
  M.bind (bencode_parser_more n a0) fun x0 =>
  if !x0 then
    M.pure ((ofBytes []), false)
  else
    M.bind (nn a0) fun x1 =>
    M.bind (nn a0) fun x2 =>
    M.bind (ldL .str (x1.plus 0)) fun (x3 : ByteArray) =>
    M.bind (ldL (li) (x2.plus 1)) fun (x4 : Int) =>
    M.bind (idxS x3 x4) fun x5 =>
    if !decide ((↑x5.toNat : Int) = 58) then
      M.bind (nn a0) fun x6 =>
      M.bind (ldL (li) (x6.plus 1)) fun (x7 : Int) =>
      M.bind (bencode_parser_fail n a0 x7 4) fun x8 =>
      M.pure ((ofBytes []), x8)
    else
      M.bind (nn a0) fun x6 =>
      M.bind (ldL (li) (x6.plus 1)) fun (x7 : Int) =>
      M.bind (nn a0) fun x8 =>
      M.bind (stN (x8.plus 1) [vi (IntKind.i64.wrap (x7 + 1))]) fun x9 =>
      M.bind (strconv_Atoi n a1) fun x10 =>
      M.bind (isNilI x10.2) fun x11 =>
      if !x11 then
        M.bind (nn a0) fun x12 =>
        M.bind (ldL .str (x12.plus 0)) fun (x13 : ByteArray) =>
        M.bind (bencode_parser_fail n a0 (↑(ByteArray.size x13) : Int) 4) fun x14 =>
        M.pure ((ofBytes []), x14)
      else
        M.bind (nn a0) fun x12 =>
        M.bind (nn a0) fun x13 =>
        M.bind (ldL .str (x12.plus 0)) fun (x14 : ByteArray) =>
        M.bind (ldL (li) (x13.plus 1)) fun (x15 : Int) =>
        if decide (IntKind.i64.wrap ((↑(ByteArray.size x14) : Int) - x15) < x10.1) then
          M.bind (nn a0) fun x16 =>
          M.bind (ldL .str (x16.plus 0)) fun (x17 : ByteArray) =>
          M.bind (bencode_parser_fail n a0 (↑(ByteArray.size x17) : Int) 4) fun x18 =>
          M.pure ((ofBytes []), x18)
        else
          bencode_parser_text_J1 n a0 x10.1
def bencode_parser_text (n : Nat) (a0 : Option Addr) : M (ByteArray × Bool) :=
  M.bind (nn a0) fun x0 =>
  M.bind (ldL (li) (x0.plus 1)) fun (x1 : Int) =>
  M.bind (bencode_parser_text_L0 n a0 x1) fun x2 =>
  M.bind (nn a0) fun x3 =>
  M.bind (nn a0) fun x4 =>
  M.bind (ldL .str (x3.plus 0)) fun (x5 : ByteArray) =>
  M.bind (ldL (li) (x4.plus 1)) fun (x6 : Int) =>
  M.bind (sliceS x5 x1 x6) fun x7 =>
  if eqS x7 (ofBytes []) then
    M.bind (bencode_parser_more n a0) fun x8 =>
    if x8 then
      M.bind (bencode_parser_fail n a0 x1 4) fun x9 =>
      M.pure ((ofBytes []), x9)
    else
      M.pure ((ofBytes []), false)
  else
    if decide (1 < (↑x7.size : Int)) then
      M.bind (idxS x7 0) fun x8 =>
      if decide ((↑x8.toNat : Int) = 48) then
        M.bind (bencode_parser_fail n a0 x1 12) fun x9 =>
        M.pure ((ofBytes []), x9)
      else
        bencode_parser_text_J0 n a0 x7
    else
      bencode_parser_text_J0 n a0 x7
def bencode_parser_text_ct (n : Nat) : List Ent := [⟨11, [.one (.ptr), .one (.int .i64), .one (.int .i64)], [.one (.bool)], fun x => bencode_parser_fail n (x.1) (x.2.1) (x.2.2)⟩,
  ⟨15, [.one (.ptr)], [.one (.bool)], fun x => bencode_parser_more n (x)⟩,
  ⟨37, [.one (.str)], [.one (.int .i64), .one (.raw)], fun x => strconv_Atoi n (x)⟩]
def bencode_parser_text_dr (i : Nat) : Option (List (Nat × List Nat)) := cond (Nat.beq i 2) (some [(0, []), (1, []), (2, []), (4, []), (5, []), (6, []), (3, []), (7, []), (8, []), (9, []), (10, []), (11, []), (12, []), (13, []), (15, []), (16, []), (17, []), (14, []), (18, []), (19, []), (20, []), (21, []), (22, []), (23, []), (24, []), (25, []), (27, []), (28, []), (29, []), (26, []), (30, []), (31, []), (32, []), (33, [])]) (cond (Nat.beq i 4) (some [(0, []), (1, []), (2, []), (4, []), (5, []), (6, []), (7, []), (3, []), (8, []), (9, []), (10, [])]) (cond (Nat.beq i 11) (some [(0, []), (1, []), (2, []), (4, []), (5, []), (6, []), (3, []), (7, []), (8, []), (9, []), (10, [])]) (cond (Nat.beq i 15) (some [(0, []), (1, []), (2, []), (3, []), (4, []), (5, []), (6, []), (9, []), (10, []), (11, []), (7, []), (8, []), (12, []), (13, []), (14, []), (15, [])]) (cond (Nat.beq i 18) (some [(0, []), (1, []), (2, []), (4, []), (5, []), (6, []), (8, []), (10, []), (11, []), (12, []), (3, []), (7, []), (9, []), (13, []), (14, []), (15, []), (16, [])]) (none)))))
def bencode_parser_text_L0_lt (n : Nat) : List LEnt := []
def bencode_parser_text_L0_jt0 (n : Nat) : List (JEnt (Unit)) := []
def bencode_parser_text_lt (n : Nat) : List LEnt := [⟨[0, 0, 1, 1], [(0, .one (.ptr)), (4, .one (.int .i64))], actL1 [(0, .one (.ptr)), (4, .one (.int .i64))] [] [12, 13, 14, 15, 16, 17, 18, 19, 20, 21, 22, 23, 24, 25, 26, 27, 28, 29, 30, 31, 32, 33, 34, 35, 36, 37, 38, 39, 40, 41, 42, 43, 44, 45, 46, 47, 48, 49, 50, 51, 52] 0 (fun x => bencode_parser_text_L0 n (x.1) (x.2))⟩]
def bencode_parser_text_jt2 (n : Nat) : List (JEnt (ByteArray × Bool)) := []
def bencode_parser_text_jt1 (n : Nat) : List (JEnt (ByteArray × Bool)) := ⟨[0, 1, 1, 1, 1, 1, 1, 1, 1], [.code [1, 1, 1, 1, 1, 1, 1, 1, 1]], [(0, .one (.ptr)), (6, .one (.int .i64))], fun x => bencode_parser_text_J1 n (x.1) (x.2)⟩ :: bencode_parser_text_jt2 n
def bencode_parser_text_jt0 (n : Nat) : List (JEnt (ByteArray × Bool)) := ⟨[0, 1, 1, 1, 1, 0, 0, 1, 1, 1, 1], [.code [1, 1, 1, 1, 1, 0, 0, 1, 1, 1, 1], .blk 2, .code [1, 1, 1, 1, 1]], [(0, .one (.ptr)), (5, .one (.str))], fun x => bencode_parser_text_J0 n (x.1) (x.2)⟩ :: bencode_parser_text_jt1 n
theorem bencode_parser_text_L0_ok (n : Nat) {W : Wr} (hW : subW W 164 [12, 13, 14, 15, 16, 17, 18, 19, 20, 21, 22, 23, 24, 25, 26, 27, 28, 29, 30, 31, 32, 33, 34, 35, 36, 37, 38, 39, 40, 41, 42, 43, 44, 45, 46, 47, 48, 49, 50, 51, 52] = true) : LEntOK Tryd.prog (bodyOf Tryd.f30) W ⟨[0, 0, 1, 1], [(0, .one (.ptr)), (4, .one (.int .i64))], actL1 [(0, .one (.ptr)), (4, .one (.int .i64))] [] [12, 13, 14, 15, 16, 17, 18, 19, 20, 21, 22, 23, 24, 25, 26, 27, 28, 29, 30, 31, 32, 33, 34, 35, 36, 37, 38, 39, 40, 41, 42, 43, 44, 45, 46, 47, 48, 49, 50, 51, 52] 0 (fun x => bencode_parser_text_L0 n (x.1) (x.2))⟩ :=
  loop1_ok (P := Tryd.prog) (body := (bodyOf Tryd.f30)) (c := child (codeAt (bodyOf Tryd.f30) [0, 0, 1, 1]) 0) (p := [0, 0, 1, 1]) (ls := [(0, .one (.ptr)), (4, .one (.int .i64))]) (ms := []) (id := 0) (nt := 164) (ws := [12, 13, 14, 15, 16, 17, 18, 19, 20, 21, 22, 23, 24, 25, 26, 27, 28, 29, 30, 31, 32, 33, 34, 35, 36, 37, 38, 39, 40, 41, 42, 43, 44, 45, 46, 47, 48, 49, 50, 51, 52]) (N := 400) (G := (fun n x => bencode_parser_text_L0 n (x.1) (x.2))) (T := fun n => ⟨lookC (bencode_parser_text_ct n), lookL (bencode_parser_text_L0_lt n), lookJ (bencode_parser_text_L0_jt0 n), bencode_parser_text_dr⟩)
    (by kernel_rfl) (fun _ => by kernel_rfl) (fun n x => by kernel_rfl) n (fun m hm => (tabs_ok (P := Tryd.prog) (body := (bodyOf Tryd.f30)) (W := (164, some [12, 13, 14, 15, 16, 17, 18, 19, 20, 21, 22, 23, 24, 25, 26, 27, 28, 29, 30, 31, 32, 33, 34, 35, 36, 37, 38, 39, 40, 41, 42, 43, 44, 45, 46, 47, 48, 49, 50, 51, 52])) (cl := bencode_parser_text_ct m) (ll := bencode_parser_text_L0_lt m) (dr := bencode_parser_text_dr) (fin := (finL1 [(0, .one (.ptr)), (4, .one (.int .i64))] [] 0 (fun x => bencode_parser_text_L0 m (x.1) (x.2)))) (N := 400) (js := bencode_parser_text_L0_jt0 m) (AllOK.cons (bencode_parser_fail_ok m) (AllOK.cons (bencode_parser_more_ok m) (AllOK.cons (strconv_Atoi_ok m) AllOK.nil))) AllL.nil AllJ.nil)) hW
theorem bencode_parser_text_ok (n : Nat) : FnOK Tryd.prog ⟨30, [.one (.ptr)], [.one (.str), .one (.bool)], fun x => bencode_parser_text n (x)⟩ :=
  fn_ok (P := Tryd.prog) (e := ⟨30, [.one (.ptr)], [.one (.str), .one (.bool)], fun x => bencode_parser_text n (x)⟩) (fn := Tryd.f30) (c := (bodyOf Tryd.f30)) (T := ⟨lookC (bencode_parser_text_ct n), lookL (bencode_parser_text_lt n), lookJ (bencode_parser_text_jt0 n), bencode_parser_text_dr⟩) (N := 400) (ps := [(0, .one (.ptr))])
    (by kernel_rfl) (by kernel_rfl) (by kernel_rfl) (by kernel_rfl) (by kernel_rfl) (tabs_ok (P := Tryd.prog) (body := (bodyOf Tryd.f30)) (W := (164, none)) (cl := bencode_parser_text_ct n) (ll := bencode_parser_text_lt n) (dr := bencode_parser_text_dr) (fin := (finF Tryd.prog Tryd.f30 [.one (.str), .one (.bool)])) (N := 400) (js := bencode_parser_text_jt0 n) (AllOK.cons (bencode_parser_fail_ok n) (AllOK.cons (bencode_parser_more_ok n) (AllOK.cons (strconv_Atoi_ok n) AllOK.nil))) (AllL.cons (bencode_parser_text_L0_ok n (by kernel_rfl)) AllL.nil) (AllJ.cons (fun x => by kernel_rfl) (AllJ.cons (fun x => by kernel_rfl) AllJ.nil))) (fun x => by kernel_rfl)
def bencode_parser_str (n : Nat) (a0 : Option Addr) (a1 : Int) (a2 : Int) : M (Int × Bool) :=
  M.bind (nn a0) fun x0 =>
  M.bind (ldL (li) (x0.plus 1)) fun (x1 : Int) =>
  M.bind (bencode_parser_text n a0) fun x2 =>
  if !x2.2 then
    M.pure (0, false)
  else
    M.bind (codepoint_Check n x2.1) fun x3 =>
    if !decide (x3.2 = 0) then
      M.bind (bencode_parser_node n a0 (6, x2.1, false, sl0, sl0) x1 a1) fun x4 =>
      M.pure (x4.1, x4.2)
    else
      M.bind (bencode_parser_node n a0 (5, x2.1, false, sl0, sl0) x1 a1) fun x4 =>
      M.pure (x4.1, x4.2)
def bencode_parser_str_ct (n : Nat) : List Ent := [⟨29, [.one (.ptr), .agg [.int .i64, .str, .bool, .sl, .sl], .one (.int .i64), .one (.int .i64)], [.one (.int .i64), .one (.bool)], fun x => bencode_parser_node n (x.1) (x.2.1) (x.2.2.1) (x.2.2.2)⟩,
  ⟨30, [.one (.ptr)], [.one (.str), .one (.bool)], fun x => bencode_parser_text n (x)⟩,
  ⟨31, [.one (.str)], [.one (.int .i64), .one (.int .i64)], fun x => codepoint_Check n (x)⟩]
def bencode_parser_str_dr (i : Nat) : Option (List (Nat × List Nat)) := none
def bencode_parser_str_lt (n : Nat) : List LEnt := []
def bencode_parser_str_jt0 (n : Nat) : List (JEnt (Int × Bool)) := []
theorem bencode_parser_str_ok (n : Nat) : FnOK Tryd.prog ⟨19, [.one (.ptr), .one (.int .i64), .one (.int .i64)], [.one (.int .i64), .one (.bool)], fun x => bencode_parser_str n (x.1) (x.2.1) (x.2.2)⟩ :=
  fn_ok (P := Tryd.prog) (e := ⟨19, [.one (.ptr), .one (.int .i64), .one (.int .i64)], [.one (.int .i64), .one (.bool)], fun x => bencode_parser_str n (x.1) (x.2.1) (x.2.2)⟩) (fn := Tryd.f19) (c := (bodyOf Tryd.f19)) (T := ⟨lookC (bencode_parser_str_ct n), lookL (bencode_parser_str_lt n), lookJ (bencode_parser_str_jt0 n), bencode_parser_str_dr⟩) (N := 400) (ps := [(0, .one (.ptr)), (1, .one (.int .i64)), (2, .one (.int .i64))])
    (by kernel_rfl) (by kernel_rfl) (by kernel_rfl) (by kernel_rfl) (by kernel_rfl) (tabs_ok (P := Tryd.prog) (body := (bodyOf Tryd.f19)) (W := (41, none)) (cl := bencode_parser_str_ct n) (ll := bencode_parser_str_lt n) (dr := bencode_parser_str_dr) (fin := (finF Tryd.prog Tryd.f19 [.one (.int .i64), .one (.bool)])) (N := 400) (js := bencode_parser_str_jt0 n) (AllOK.cons (bencode_parser_node_ok n) (AllOK.cons (bencode_parser_text_ok n) (AllOK.cons (codepoint_Check_ok n) AllOK.nil))) AllL.nil AllJ.nil) (fun x => by kernel_rfl)
structure Cl_bencode_parser_value where
  bencode_parser_value : Option Addr → (Int × Int × Int × Int × Int × Int × Int × Bool × Bool) → Int → M (Int × Bool)
  bencode_parser_list_L0 : Option Addr → Int → Int → Int → Bool → Int → M (Bool)
  bencode_parser_list : Option Addr → Int → Int → M (Int × Bool)
  bencode_parser_dictionary_L0 : Option Addr → Int → Int → Int → Bool → ByteArray → Int → M ((Bool) ⊕ (Int × Bool))
  bencode_parser_dictionary : Option Addr → Int → Int → M (Int × Bool)
def bencode_parser_value_J0_B (G : Cl_bencode_parser_value) (n : Nat) (a0 : Option Addr) (a1 : Int) (a2 : Int) : M (Int × Bool) :=
  M.bind (nn a0) fun x0 =>
  M.bind (nn a0) fun x1 =>
  M.bind (nn a0) fun x2 =>
  M.bind (ldL .sl ((x0.plus 2).plus 4)) fun (x3 : Sl) =>
  M.bind (ldL .sl ((x1.plus 2).plus 4)) fun (x4 : Sl) =>
  M.bind (ldL (li) (x2.plus 1)) fun (x5 : Int) =>
  M.bind (idxA x3 a1 9) fun x6 =>
  M.bind (stN (x6.plus 0) [vi a2]) fun x7 =>
  M.bind (idxA x4 a1 9) fun x8 =>
  M.bind (stN (x8.plus 4) [vi x5]) fun x9 =>
  M.pure (a2, true)
def bencode_parser_value_B (G : Cl_bencode_parser_value) (n : Nat) (a0 : Option Addr) (a1 : Int × Int × Int × Int × Int × Int × Int × Bool × Bool) (a2 : Int) : M (Int × Bool) :=
  M.bind (newB none T_api_Span [vi a1.1, vi a1.2.1, vi a1.2.2.1, vi a1.2.2.2.1, vi a1.2.2.2.2.1, vi a1.2.2.2.2.2.1, vi a1.2.2.2.2.2.2.1, Value.bool a1.2.2.2.2.2.2.2.1, Value.bool a1.2.2.2.2.2.2.2.2]) fun x0 =>
  M.bind (bencode_parser_more n a0) fun x1 =>
  if !x1 then
    M.pure (0, false)
  else
    M.bind (nn a0) fun x2 =>
    M.bind (ldL (li) (x2.plus 1)) fun (x3 : Int) =>
    M.bind (stN ((adr x0).plus 3) [vi x3]) fun x4 =>
    M.bind (stN ((adr x0).plus 8) [Value.bool true]) fun x5 =>
    M.bind (nn a0) fun x6 =>
    M.bind (ldL .sl ((x6.plus 2).plus 4)) fun (x7 : Sl) =>
    M.bind (nn a0) fun x8 =>
    M.bind (ldL .sl ((x8.plus 2).plus 4)) fun (x9 : Sl) =>
    M.bind (ldLs [li, li, li, li, li, li, li, .bool, .bool] (adr x0)) fun (x10 : Int × Int × Int × Int × Int × Int × Int × Bool × Bool) =>
    M.bind (app true x9 9 T_api_Span 1 [vi x10.1, vi x10.2.1, vi x10.2.2.1, vi x10.2.2.2.1, vi x10.2.2.2.2.1, vi x10.2.2.2.2.2.1, vi x10.2.2.2.2.2.2.1, Value.bool x10.2.2.2.2.2.2.2.1, Value.bool x10.2.2.2.2.2.2.2.2]) fun x11 =>
    M.bind (nn a0) fun x12 =>
    M.bind (stN ((x12.plus 2).plus 4) [vsl x11]) fun x13 =>
    M.bind (nn a0) fun x14 =>
    M.bind (nn a0) fun x15 =>
    M.bind (ldL .str (x14.plus 0)) fun (x16 : ByteArray) =>
    M.bind (ldL (li) (x15.plus 1)) fun (x17 : Int) =>
    M.bind (idxS x16 x17) fun x18 =>
    if decide ((↑x18.toNat : Int) = 105) then
      M.bind (bencode_parser_integer n a0 a2 (↑x7.len : Int)) fun x19 =>
      if !x19.2 then
        M.pure (0, false)
      else
        M.bind (nn a0) fun x20 =>
        M.bind (ldL (li) (x20.plus 8)) fun (x21 : Int) =>
        if !decide (x21 = 0) then
          M.pure (0, false)
        else
          bencode_parser_value_J0_B G n a0 (↑x7.len : Int) x19.1
    else
      if decide ((↑x18.toNat : Int) = 108) then
        M.bind (G.bencode_parser_list a0 a2 (↑x7.len : Int)) fun x19 =>
        if !x19.2 then
          M.pure (0, false)
        else
          M.bind (nn a0) fun x20 =>
          M.bind (ldL (li) (x20.plus 8)) fun (x21 : Int) =>
          if !decide (x21 = 0) then
            M.pure (0, false)
          else
            bencode_parser_value_J0_B G n a0 (↑x7.len : Int) x19.1
      else
        if decide ((↑x18.toNat : Int) = 100) then
          M.bind (G.bencode_parser_dictionary a0 a2 (↑x7.len : Int)) fun x19 =>
          if !x19.2 then
            M.pure (0, false)
          else
            M.bind (nn a0) fun x20 =>
            M.bind (ldL (li) (x20.plus 8)) fun (x21 : Int) =>
            if !decide (x21 = 0) then
              M.pure (0, false)
            else
              bencode_parser_value_J0_B G n a0 (↑x7.len : Int) x19.1
        else
          M.bind (bencode_parser_str n a0 a2 (↑x7.len : Int)) fun x19 =>
          if !x19.2 then
            M.pure (0, false)
          else
            M.bind (nn a0) fun x20 =>
            M.bind (ldL (li) (x20.plus 8)) fun (x21 : Int) =>
            if !decide (x21 = 0) then
              M.pure (0, false)
            else
              bencode_parser_value_J0_B G n a0 (↑x7.len : Int) x19.1
def bencode_parser_list_L0_J0_B (G : Cl_bencode_parser_value) (n : Nat) (a0 : Option Addr) (a1 : Int) (a2 : Int) (a3 : Int) (a4 : Bool) (a5 : Int) : M (Bool) :=
  M.bind (G.bencode_parser_value a0 (0, a2, a5, 0, 0, 0, 0, false, false) (IntKind.i64.wrap (a1 + 1))) fun x0 =>
  if x0.2 then
    M.bind (nn a0) fun x1 =>
    M.bind (nn a0) fun x2 =>
    M.bind (ldL .sl (((x1.plus 2).plus 2).plus 0)) fun (x3 : Sl) =>
    M.bind (ldL .sl (((x2.plus 2).plus 2).plus 0)) fun (x4 : Sl) =>
    M.bind (idxA x4 a3 5) fun x5 =>
    M.bind (ldL .sl (x5.plus 4)) fun (x6 : Sl) =>
    M.bind (app true x6 1 T_i64 1 [vi x0.1]) fun x7 =>
    M.bind (idxA x3 a3 5) fun x8 =>
    M.bind (stN (x8.plus 4) [vsl x7]) fun x9 =>
    G.bencode_parser_list_L0 a0 a1 a2 a3 x0.2 (IntKind.i64.wrap (a5 + 1))
  else
    G.bencode_parser_list_L0 a0 a1 a2 a3 x0.2 (IntKind.i64.wrap (a5 + 1))
def bencode_parser_list_L0_B (G : Cl_bencode_parser_value) (n : Nat) (a0 : Option Addr) (a1 : Int) (a2 : Int) (a3 : Int) (a4 : Bool) (a5 : Int) : M (Bool) :=
  if a4 then
    M.bind (bencode_parser_more n a0) fun x0 =>
    if x0 then
      M.bind (nn a0) fun x1 =>
      M.bind (nn a0) fun x2 =>
      M.bind (ldL .str (x1.plus 0)) fun (x3 : ByteArray) =>
      M.bind (ldL (li) (x2.plus 1)) fun (x4 : Int) =>
      M.bind (idxS x3 x4) fun x5 =>
      if !decide ((↑x5.toNat : Int) = 101) then
        bencode_parser_list_L0_J0_B G n a0 a1 a2 a3 a4 a5
      else
        M.pure a4
    else
      M.pure a4
  else
    M.pure a4
def bencode_parser_list_B (G : Cl_bencode_parser_value) (n : Nat) (a0 : Option Addr) (a1 : Int) (a2 : Int) : M (Int × Bool) :=
  M.bind (nn a0) fun x0 =>
  M.bind (ldL (li) (x0.plus 1)) fun (x1 : Int) =>
  M.bind (bencode_parser_node n a0 (9, (ofBytes []), false, sl0, sl0) x1 a1) fun x2 =>
  M.bind (nn a0) fun x3 =>
  M.bind (ldL (li) (x3.plus 1)) fun (x4 : Int) =>
  M.bind (nn a0) fun x5 =>
  M.bind (stN (x5.plus 1) [vi (IntKind.i64.wrap (x4 + 1))]) fun x6 =>
  M.bind (G.bencode_parser_list_L0 a0 a1 a2 x2.1 x2.2 0) fun x7 =>
  M.bind (nn a0) fun x8 =>
  M.bind (ldL (li) (x8.plus 1)) fun (x9 : Int) =>
  M.bind (nn a0) fun x10 =>
  M.bind (stN (x10.plus 1) [vi (IntKind.i64.wrap (x9 + 1))]) fun x11 =>
  M.pure (x2.1, x7)
def bencode_parser_dictionary_L0_J1_B (G : Cl_bencode_parser_value) (n : Nat) (a0 : Option Addr) (a1 : Int) (a2 : Int) (a3 : Int) (a4 : Bool) (a5 : ByteArray) (a6 : Int) (a7 : Int) (a8 : ByteArray) (a9 : Int) : M ((Bool) ⊕ (Int × Bool)) :=
  M.bind (nn a0) fun x0 =>
  M.bind (ldL (li) (x0.plus 1)) fun (x1 : Int) =>
  M.bind (G.bencode_parser_value a0 (0, a2, a6, 0, 0, a7, x1, false, false) (IntKind.i64.wrap (a1 + 1))) fun x2 =>
  if x2.2 then
    M.bind (nn a0) fun x3 =>
    M.bind (ldL .sl (((x3.plus 2).plus 2).plus 0)) fun (x4 : Sl) =>
    M.bind (idxA x4 a3 5) fun x5 =>
    M.bind (nn (some x5)) fun x6 =>
    M.bind (nn (some x5)) fun x7 =>
    M.bind (ldL .sl (x6.plus 3)) fun (x8 : Sl) =>
    M.bind (ldL .sl (x7.plus 4)) fun (x9 : Sl) =>
    M.bind (app true x8 1 T_i64 1 [vi a9]) fun x10 =>
    M.bind (app true x9 1 T_i64 1 [vi x2.1]) fun x11 =>
    M.bind (nn (some x5)) fun x12 =>
    M.bind (stN (x12.plus 3) [vsl x10]) fun x13 =>
    M.bind (nn (some x5)) fun x14 =>
    M.bind (stN (x14.plus 4) [vsl x11]) fun x15 =>
    G.bencode_parser_dictionary_L0 a0 a1 a2 a3 x2.2 a8 (IntKind.i64.wrap (a6 + 1))
  else
    G.bencode_parser_dictionary_L0 a0 a1 a2 a3 x2.2 a8 (IntKind.i64.wrap (a6 + 1))
def bencode_parser_dictionary_L0_J0_B (G : Cl_bencode_parser_value) (n : Nat) (a0 : Option Addr) (a1 : Int) (a2 : Int) (a3 : Int) (a4 : Bool) (a5 : ByteArray) (a6 : Int) : M ((Bool) ⊕ (Int × Bool)) :=
  M.bind (nn a0) fun x0 =>
  M.bind (ldL (li) (x0.plus 1)) fun (x1 : Int) =>
  M.bind (bencode_parser_text n a0) fun x2 =>
  if !x2.2 then
    M.pure (Sum.inr (0, false))
  else
    M.bind (bencode_parser_node n a0 (5, x2.1, false, sl0, sl0) x1 (IntKind.i64.wrap (a1 + 1))) fun x3 =>
    if !x3.2 then
      M.pure (Sum.inr (0, false))
    else
      M.bind (codepoint_Check n x2.1) fun x4 =>
      if !decide (x4.2 = 0) then
        M.bind (bencode_parser_fail n a0 x1 11) fun x5 =>
        M.pure (Sum.inr (0, x5))
      else
        if decide (0 < a6) then
          if ltS x2.1 a5 || eqS x2.1 a5 then
            M.bind (bencode_parser_fail n a0 x1 16) fun x5 =>
            M.pure (Sum.inr (0, x5))
          else
            bencode_parser_dictionary_L0_J1_B G n a0 a1 a2 a3 a4 a5 a6 x1 x2.1 x3.1
        else
          bencode_parser_dictionary_L0_J1_B G n a0 a1 a2 a3 a4 a5 a6 x1 x2.1 x3.1
def bencode_parser_dictionary_L0_B (G : Cl_bencode_parser_value) (n : Nat) (a0 : Option Addr) (a1 : Int) (a2 : Int) (a3 : Int) (a4 : Bool) (a5 : ByteArray) (a6 : Int) : M ((Bool) ⊕ (Int × Bool)) :=
  if a4 then
    M.bind (bencode_parser_more n a0) fun x0 =>
    if x0 then
      M.bind (nn a0) fun x1 =>
      M.bind (nn a0) fun x2 =>
      M.bind (ldL .str (x1.plus 0)) fun (x3 : ByteArray) =>
      M.bind (ldL (li) (x2.plus 1)) fun (x4 : Int) =>
      M.bind (idxS x3 x4) fun x5 =>
      if !decide ((↑x5.toNat : Int) = 101) then
        bencode_parser_dictionary_L0_J0_B G n a0 a1 a2 a3 a4 a5 a6
      else
        M.pure (Sum.inl a4)
    else
      M.pure (Sum.inl a4)
  else
    M.pure (Sum.inl a4)
def bencode_parser_dictionary_B (G : Cl_bencode_parser_value) (n : Nat) (a0 : Option Addr) (a1 : Int) (a2 : Int) : M (Int × Bool) :=
  M.bind (nn a0) fun x0 =>
  M.bind (ldL (li) (x0.plus 1)) fun (x1 : Int) =>
  M.bind (bencode_parser_node n a0 (10, (ofBytes []), false, sl0, sl0) x1 a1) fun x2 =>
  M.bind (nn a0) fun x3 =>
  M.bind (ldL (li) (x3.plus 1)) fun (x4 : Int) =>
  M.bind (nn a0) fun x5 =>
  M.bind (stN (x5.plus 1) [vi (IntKind.i64.wrap (x4 + 1))]) fun x6 =>
  M.bind (G.bencode_parser_dictionary_L0 a0 a1 a2 x2.1 x2.2 (ofBytes []) 0) (sumElim (fun x7 =>
    M.bind (nn a0) fun x8 =>
    M.bind (ldL (li) (x8.plus 1)) fun (x9 : Int) =>
    M.bind (nn a0) fun x10 =>
    M.bind (stN (x10.plus 1) [vi (IntKind.i64.wrap (x9 + 1))]) fun x11 =>
    M.pure (x2.1, x7))
  (fun x7 =>
    M.pure (x7.1, x7.2)))
def Cl_bencode_parser_value.at : Nat → Cl_bencode_parser_value
  | 0 => ⟨fun _ _ _ => M.fail, fun _ _ _ _ _ _ => M.fail, fun _ _ _ => M.fail, fun _ _ _ _ _ _ _ => M.fail, fun _ _ _ => M.fail⟩
  | n + 1 => ⟨bencode_parser_value_B (Cl_bencode_parser_value.at n) n, bencode_parser_list_L0_B (Cl_bencode_parser_value.at n) n, bencode_parser_list_B (Cl_bencode_parser_value.at n) n, bencode_parser_dictionary_L0_B (Cl_bencode_parser_value.at n) n, bencode_parser_dictionary_B (Cl_bencode_parser_value.at n) n⟩
def bencode_parser_value (n : Nat) (a0 : Option Addr) (a1 : Int × Int × Int × Int × Int × Int × Int × Bool × Bool) (a2 : Int) : M (Int × Bool) := (Cl_bencode_parser_value.at n).bencode_parser_value a0 a1 a2
theorem bencode_parser_value_succ (n : Nat) (a0 : Option Addr) (a1 : Int × Int × Int × Int × Int × Int × Int × Bool × Bool) (a2 : Int) : bencode_parser_value (n + 1) a0 a1 a2 = bencode_parser_value_B (Cl_bencode_parser_value.at n) n a0 a1 a2 := rfl
def bencode_parser_list_L0 (n : Nat) (a0 : Option Addr) (a1 : Int) (a2 : Int) (a3 : Int) (a4 : Bool) (a5 : Int) : M (Bool) := (Cl_bencode_parser_value.at n).bencode_parser_list_L0 a0 a1 a2 a3 a4 a5
theorem bencode_parser_list_L0_succ (n : Nat) (a0 : Option Addr) (a1 : Int) (a2 : Int) (a3 : Int) (a4 : Bool) (a5 : Int) : bencode_parser_list_L0 (n + 1) a0 a1 a2 a3 a4 a5 = bencode_parser_list_L0_B (Cl_bencode_parser_value.at n) n a0 a1 a2 a3 a4 a5 := rfl
def bencode_parser_list (n : Nat) (a0 : Option Addr) (a1 : Int) (a2 : Int) : M (Int × Bool) := (Cl_bencode_parser_value.at n).bencode_parser_list a0 a1 a2
theorem bencode_parser_list_succ (n : Nat) (a0 : Option Addr) (a1 : Int) (a2 : Int) : bencode_parser_list (n + 1) a0 a1 a2 = bencode_parser_list_B (Cl_bencode_parser_value.at n) n a0 a1 a2 := rfl
def bencode_parser_dictionary_L0 (n : Nat) (a0 : Option Addr) (a1 : Int) (a2 : Int) (a3 : Int) (a4 : Bool) (a5 : ByteArray) (a6 : Int) : M ((Bool) ⊕ (Int × Bool)) := (Cl_bencode_parser_value.at n).bencode_parser_dictionary_L0 a0 a1 a2 a3 a4 a5 a6
theorem bencode_parser_dictionary_L0_succ (n : Nat) (a0 : Option Addr) (a1 : Int) (a2 : Int) (a3 : Int) (a4 : Bool) (a5 : ByteArray) (a6 : Int) : bencode_parser_dictionary_L0 (n + 1) a0 a1 a2 a3 a4 a5 a6 = bencode_parser_dictionary_L0_B (Cl_bencode_parser_value.at n) n a0 a1 a2 a3 a4 a5 a6 := rfl
def bencode_parser_dictionary (n : Nat) (a0 : Option Addr) (a1 : Int) (a2 : Int) : M (Int × Bool) := (Cl_bencode_parser_value.at n).bencode_parser_dictionary a0 a1 a2
theorem bencode_parser_dictionary_succ (n : Nat) (a0 : Option Addr) (a1 : Int) (a2 : Int) : bencode_parser_dictionary (n + 1) a0 a1 a2 = bencode_parser_dictionary_B (Cl_bencode_parser_value.at n) n a0 a1 a2 := rfl
def bencode_parser_value_J0 (n : Nat) (a0 : Option Addr) (a1 : Int) (a2 : Int) : M (Int × Bool) := bencode_parser_value_J0_B (Cl_bencode_parser_value.at n) n a0 a1 a2
def bencode_parser_list_L0_J0 (n : Nat) (a0 : Option Addr) (a1 : Int) (a2 : Int) (a3 : Int) (a4 : Bool) (a5 : Int) : M (Bool) := bencode_parser_list_L0_J0_B (Cl_bencode_parser_value.at n) n a0 a1 a2 a3 a4 a5
def bencode_parser_dictionary_L0_J0 (n : Nat) (a0 : Option Addr) (a1 : Int) (a2 : Int) (a3 : Int) (a4 : Bool) (a5 : ByteArray) (a6 : Int) : M ((Bool) ⊕ (Int × Bool)) := bencode_parser_dictionary_L0_J0_B (Cl_bencode_parser_value.at n) n a0 a1 a2 a3 a4 a5 a6
def bencode_parser_dictionary_L0_J1 (n : Nat) (a0 : Option Addr) (a1 : Int) (a2 : Int) (a3 : Int) (a4 : Bool) (a5 : ByteArray) (a6 : Int) (a7 : Int) (a8 : ByteArray) (a9 : Int) : M ((Bool) ⊕ (Int × Bool)) := bencode_parser_dictionary_L0_J1_B (Cl_bencode_parser_value.at n) n a0 a1 a2 a3 a4 a5 a6 a7 a8 a9
def bencode_parser_value_ct (n : Nat) : List Ent := [⟨15, [.one (.ptr)], [.one (.bool)], fun x => bencode_parser_more n (x)⟩,
  ⟨16, [.one (.ptr), .one (.int .i64), .one (.int .i64)], [.one (.int .i64), .one (.bool)], fun x => bencode_parser_integer n (x.1) (x.2.1) (x.2.2)⟩,
  ⟨17, [.one (.ptr), .one (.int .i64), .one (.int .i64)], [.one (.int .i64), .one (.bool)], fun x => bencode_parser_list n (x.1) (x.2.1) (x.2.2)⟩,
  ⟨18, [.one (.ptr), .one (.int .i64), .one (.int .i64)], [.one (.int .i64), .one (.bool)], fun x => bencode_parser_dictionary n (x.1) (x.2.1) (x.2.2)⟩,
  ⟨19, [.one (.ptr), .one (.int .i64), .one (.int .i64)], [.one (.int .i64), .one (.bool)], fun x => bencode_parser_str n (x.1) (x.2.1) (x.2.2)⟩]
def bencode_parser_value_dr (i : Nat) : Option (List (Nat × List Nat)) := cond (Nat.beq i 5) (some [(0, []), (1, []), (2, []), (3, []), (4, []), (5, []), (6, []), (7, []), (8, []), (9, []), (10, []), (11, []), (12, [])]) (cond (Nat.beq i 7) (some [(0, []), (1, []), (2, []), (4, []), (5, []), (6, []), (3, []), (7, []), (8, [])]) (cond (Nat.beq i 18) (some [(0, []), (1, []), (2, []), (3, []), (5, []), (6, []), (7, []), (8, []), (9, []), (11, []), (12, []), (13, []), (14, []), (15, []), (4, []), (10, []), (16, []), (17, []), (18, []), (19, []), (20, []), (21, []), (22, [])]) (none)))
def bencode_parser_value_lt (n : Nat) : List LEnt := []
def bencode_parser_value_jt1 (n : Nat) : List (JEnt (Int × Bool)) := []
def bencode_parser_value_jt0 (n : Nat) : List (JEnt (Int × Bool)) := ⟨[0, 1, 1, 1, 1, 1, 1, 1, 1, 1], [.code [1, 1, 1, 1, 1, 1, 1, 1, 1, 1]], [(0, .one (.ptr)), (8, .one (.int .i64)), (10, .one (.int .i64))], fun x => bencode_parser_value_J0 n (x.1) (x.2.1) (x.2.2)⟩ :: bencode_parser_value_jt1 n
def bencode_parser_list_ct (n : Nat) : List Ent := [⟨10, [.one (.ptr), .agg [.int .i64, .int .i64, .int .i64, .int .i64, .int .i64, .int .i64, .int .i64, .bool, .bool], .one (.int .i64)], [.one (.int .i64), .one (.bool)], fun x => bencode_parser_value n (x.1) (x.2.1) (x.2.2)⟩,
  ⟨15, [.one (.ptr)], [.one (.bool)], fun x => bencode_parser_more n (x)⟩,
  ⟨29, [.one (.ptr), .agg [.int .i64, .str, .bool, .sl, .sl], .one (.int .i64), .one (.int .i64)], [.one (.int .i64), .one (.bool)], fun x => bencode_parser_node n (x.1) (x.2.1) (x.2.2.1) (x.2.2.2)⟩]
def bencode_parser_list_dr (i : Nat) : Option (List (Nat × List Nat)) := cond (Nat.beq i 4) (some [(0, []), (1, []), (2, []), (3, []), (4, []), (5, []), (6, []), (7, []), (8, []), (10, []), (11, []), (12, []), (9, []), (13, []), (14, []), (15, []), (16, [])]) (cond (Nat.beq i 9) (some [(0, []), (1, []), (2, []), (3, []), (4, []), (6, []), (7, []), (8, []), (9, []), (10, []), (11, []), (13, []), (17, []), (18, []), (5, []), (12, []), (14, []), (15, []), (16, []), (19, []), (20, []), (21, []), (22, [])]) (none))
def bencode_parser_list_L0_lt (n : Nat) : List LEnt := []
def bencode_parser_list_L0_jt1 (n : Nat) : List (JEnt (Bool)) := []
def bencode_parser_list_L0_jt0 (n : Nat) : List (JEnt (Bool)) := ⟨[0, 0, 0, 1, 0, 0, 1, 0, 1, 1, 1], [.code [1, 0, 0, 1, 0, 0, 1, 0, 1, 1, 1], .blk 1, .code [1, 1, 0, 0, 1, 0, 1, 1, 1]], [(0, .one (.ptr)), (1, .one (.int .i64)), (2, .one (.int .i64)), (8, .one (.int .i64)), (9, .one (.bool)), (10, .one (.int .i64))], fun x => bencode_parser_list_L0_J0 n (x.1) (x.2.1) (x.2.2.1) (x.2.2.2.1) (x.2.2.2.2.1) (x.2.2.2.2.2)⟩ :: bencode_parser_list_L0_jt1 n
def bencode_parser_list_lt (n : Nat) : List LEnt := [⟨[0, 1, 0, 1, 1, 1], [(0, .one (.ptr)), (1, .one (.int .i64)), (2, .one (.int .i64)), (8, .one (.int .i64)), (9, .one (.bool)), (10, .one (.int .i64))], actL1 [(0, .one (.ptr)), (1, .one (.int .i64)), (2, .one (.int .i64)), (8, .one (.int .i64)), (9, .one (.bool)), (10, .one (.int .i64))] [(9, .one (.bool))] [9, 10, 11, 30, 31, 32, 33, 34, 35, 36, 37, 38, 39, 40, 41, 42, 43, 44, 45, 46, 47, 48, 49, 50, 51, 52, 53, 54, 55, 56, 57, 58, 59, 60, 61, 62, 63, 64, 65, 66, 67, 68, 69, 70, 71, 72, 73, 74, 75, 76, 77, 78, 79, 80, 81] 0 (fun x => bencode_parser_list_L0 n (x.1) (x.2.1) (x.2.2.1) (x.2.2.2.1) (x.2.2.2.2.1) (x.2.2.2.2.2))⟩]
def bencode_parser_list_jt0 (n : Nat) : List (JEnt (Int × Bool)) := []
def bencode_parser_dictionary_ct (n : Nat) : List Ent := [⟨10, [.one (.ptr), .agg [.int .i64, .int .i64, .int .i64, .int .i64, .int .i64, .int .i64, .int .i64, .bool, .bool], .one (.int .i64)], [.one (.int .i64), .one (.bool)], fun x => bencode_parser_value n (x.1) (x.2.1) (x.2.2)⟩,
  ⟨11, [.one (.ptr), .one (.int .i64), .one (.int .i64)], [.one (.bool)], fun x => bencode_parser_fail n (x.1) (x.2.1) (x.2.2)⟩,
  ⟨15, [.one (.ptr)], [.one (.bool)], fun x => bencode_parser_more n (x)⟩,
  ⟨29, [.one (.ptr), .agg [.int .i64, .str, .bool, .sl, .sl], .one (.int .i64), .one (.int .i64)], [.one (.int .i64), .one (.bool)], fun x => bencode_parser_node n (x.1) (x.2.1) (x.2.2.1) (x.2.2.2)⟩,
  ⟨30, [.one (.ptr)], [.one (.str), .one (.bool)], fun x => bencode_parser_text n (x)⟩,
  ⟨31, [.one (.str)], [.one (.int .i64), .one (.int .i64)], fun x => codepoint_Check n (x)⟩]
def bencode_parser_dictionary_dr (i : Nat) : Option (List (Nat × List Nat)) := cond (Nat.beq i 5) (some [(0, []), (1, []), (2, []), (3, []), (4, []), (5, []), (6, []), (7, []), (8, []), (10, []), (11, []), (12, []), (9, []), (13, []), (14, []), (15, []), (16, [])]) (cond (Nat.beq i 24) (some [(0, []), (1, []), (2, []), (3, []), (4, []), (6, []), (7, []), (9, []), (10, []), (11, []), (13, []), (14, []), (5, []), (12, []), (8, []), (15, []), (16, []), (17, []), (18, []), (19, []), (20, []), (21, [])]) (none))
def bencode_parser_dictionary_L0_lt (n : Nat) : List LEnt := []
def bencode_parser_dictionary_L0_jt2 (n : Nat) : List (JEnt ((Bool) ⊕ (Int × Bool))) := []
def bencode_parser_dictionary_L0_jt1 (n : Nat) : List (JEnt ((Bool) ⊕ (Int × Bool))) := ⟨[0, 1, 1, 1, 1, 1, 1, 1, 0, 0, 1, 0, 0, 1, 0, 1, 1, 1, 1], [.code [1, 1, 1, 1, 1, 1, 1, 1, 0, 0, 1, 0, 0, 1, 0, 1, 1, 1, 1], .blk 1, .code [1, 1, 0, 0, 1, 0, 1, 1, 1, 1]], [(0, .one (.ptr)), (1, .one (.int .i64)), (2, .one (.int .i64)), (8, .one (.int .i64)), (9, .one (.bool)), (10, .one (.str)), (11, .one (.int .i64)), (12, .one (.int .i64)), (13, .one (.str)), (15, .one (.int .i64))], fun x => bencode_parser_dictionary_L0_J1 n (x.1) (x.2.1) (x.2.2.1) (x.2.2.2.1) (x.2.2.2.2.1) (x.2.2.2.2.2.1) (x.2.2.2.2.2.2.1) (x.2.2.2.2.2.2.2.1) (x.2.2.2.2.2.2.2.2.1) (x.2.2.2.2.2.2.2.2.2)⟩ :: bencode_parser_dictionary_L0_jt2 n
def bencode_parser_dictionary_L0_jt0 (n : Nat) : List (JEnt ((Bool) ⊕ (Int × Bool))) := ⟨[0, 0, 0, 1, 0, 0, 1, 0, 1, 1, 1, 1], [.code [1, 0, 0, 1, 0, 0, 1, 0, 1, 1, 1, 1], .blk 1, .code [1, 1, 0, 0, 1, 0, 1, 1, 1, 1]], [(0, .one (.ptr)), (1, .one (.int .i64)), (2, .one (.int .i64)), (8, .one (.int .i64)), (9, .one (.bool)), (10, .one (.str)), (11, .one (.int .i64))], fun x => bencode_parser_dictionary_L0_J0 n (x.1) (x.2.1) (x.2.2.1) (x.2.2.2.1) (x.2.2.2.2.1) (x.2.2.2.2.2.1) (x.2.2.2.2.2.2)⟩ :: bencode_parser_dictionary_L0_jt1 n
def bencode_parser_dictionary_lt (n : Nat) : List LEnt := [⟨[0, 1, 0, 1, 1, 1, 1], [(0, .one (.ptr)), (1, .one (.int .i64)), (2, .one (.int .i64)), (8, .one (.int .i64)), (9, .one (.bool)), (10, .one (.str)), (11, .one (.int .i64))], actL2 [(0, .one (.ptr)), (1, .one (.int .i64)), (2, .one (.int .i64)), (8, .one (.int .i64)), (9, .one (.bool)), (10, .one (.str)), (11, .one (.int .i64))] [(9, .one (.bool))] [(6, .one (.int .i64)), (7, .one (.bool))] [6, 7, 9, 10, 11, 12, 13, 14, 15, 16, 17, 18, 19, 20, 39, 40, 41, 42, 43, 44, 45, 46, 47, 48, 49, 50, 51, 52, 53, 54, 55, 56, 57, 58, 59, 60, 61, 62, 63, 64, 65, 66, 67, 68, 69, 70, 71, 72, 73, 74, 75, 76, 77, 78, 79, 80, 81, 82, 83, 84, 85, 86, 87, 88, 89, 90, 91, 92, 93, 94, 95, 96, 97, 98, 99, 100, 101, 102, 103, 104, 105, 106, 107, 108, 109, 110, 111, 112, 113, 114, 115, 116, 117, 118, 119, 120, 121, 122, 123, 124, 125, 126, 127, 128, 129, 130, 131, 132, 133, 134, 135, 136, 137, 138, 139, 140, 141, 142, 143, 144, 145] 0 .ret (fun x => bencode_parser_dictionary_L0 n (x.1) (x.2.1) (x.2.2.1) (x.2.2.2.1) (x.2.2.2.2.1) (x.2.2.2.2.2.1) (x.2.2.2.2.2.2))⟩]
def bencode_parser_dictionary_jt0 (n : Nat) : List (JEnt (Int × Bool)) := []
def P_bencode_parser_value (n : Nat) : Prop := FnOK Tryd.prog ⟨10, [.one (.ptr), .agg [.int .i64, .int .i64, .int .i64, .int .i64, .int .i64, .int .i64, .int .i64, .bool, .bool], .one (.int .i64)], [.one (.int .i64), .one (.bool)], fun x => bencode_parser_value n (x.1) (x.2.1) (x.2.2)⟩ ∧ FnOK Tryd.prog ⟨17, [.one (.ptr), .one (.int .i64), .one (.int .i64)], [.one (.int .i64), .one (.bool)], fun x => bencode_parser_list n (x.1) (x.2.1) (x.2.2)⟩ ∧ FnOK Tryd.prog ⟨18, [.one (.ptr), .one (.int .i64), .one (.int .i64)], [.one (.int .i64), .one (.bool)], fun x => bencode_parser_dictionary n (x.1) (x.2.1) (x.2.2)⟩
theorem bencode_parser_value_ok_step (n : Nat) (H : ∀ m, m < n + 1 → P_bencode_parser_value m) : FnOK Tryd.prog ⟨10, [.one (.ptr), .agg [.int .i64, .int .i64, .int .i64, .int .i64, .int .i64, .int .i64, .int .i64, .bool, .bool], .one (.int .i64)], [.one (.int .i64), .one (.bool)], fun x => bencode_parser_value (n + 1) (x.1) (x.2.1) (x.2.2)⟩ :=
  fn_ok (P := Tryd.prog) (e := ⟨10, [.one (.ptr), .agg [.int .i64, .int .i64, .int .i64, .int .i64, .int .i64, .int .i64, .int .i64, .bool, .bool], .one (.int .i64)], [.one (.int .i64), .one (.bool)], fun x => bencode_parser_value (n + 1) (x.1) (x.2.1) (x.2.2)⟩) (fn := Tryd.f10) (c := (bodyOf Tryd.f10)) (T := ⟨lookC (bencode_parser_value_ct n), lookL (bencode_parser_value_lt n), lookJ (bencode_parser_value_jt0 n), bencode_parser_value_dr⟩) (N := 400) (ps := [(0, .one (.ptr)), (1, .agg [.int .i64, .int .i64, .int .i64, .int .i64, .int .i64, .int .i64, .int .i64, .bool, .bool]), (2, .one (.int .i64))])
    (by kernel_rfl) (by kernel_rfl) (by kernel_rfl) (by kernel_rfl) (by kernel_rfl) (tabs_ok (P := Tryd.prog) (body := (bodyOf Tryd.f10)) (W := (100, none)) (cl := bencode_parser_value_ct n) (ll := bencode_parser_value_lt n) (dr := bencode_parser_value_dr) (fin := (finF Tryd.prog Tryd.f10 [.one (.int .i64), .one (.bool)])) (N := 400) (js := bencode_parser_value_jt0 n) (AllOK.cons (bencode_parser_more_ok n) (AllOK.cons (bencode_parser_integer_ok n) (AllOK.cons (H n (Nat.lt_succ_self n)).2.1 (AllOK.cons (H n (Nat.lt_succ_self n)).2.2 (AllOK.cons (bencode_parser_str_ok n) AllOK.nil))))) AllL.nil (AllJ.cons (fun x => by kernel_rfl) AllJ.nil)) (fun x => by kernel_rfl)
theorem bencode_parser_list_L0_ok (n : Nat) (H : ∀ m, m < n → P_bencode_parser_value m) {W : Wr} (hW : subW W 91 [9, 10, 11, 30, 31, 32, 33, 34, 35, 36, 37, 38, 39, 40, 41, 42, 43, 44, 45, 46, 47, 48, 49, 50, 51, 52, 53, 54, 55, 56, 57, 58, 59, 60, 61, 62, 63, 64, 65, 66, 67, 68, 69, 70, 71, 72, 73, 74, 75, 76, 77, 78, 79, 80, 81] = true) : LEntOK Tryd.prog (bodyOf Tryd.f17) W ⟨[0, 1, 0, 1, 1, 1], [(0, .one (.ptr)), (1, .one (.int .i64)), (2, .one (.int .i64)), (8, .one (.int .i64)), (9, .one (.bool)), (10, .one (.int .i64))], actL1 [(0, .one (.ptr)), (1, .one (.int .i64)), (2, .one (.int .i64)), (8, .one (.int .i64)), (9, .one (.bool)), (10, .one (.int .i64))] [(9, .one (.bool))] [9, 10, 11, 30, 31, 32, 33, 34, 35, 36, 37, 38, 39, 40, 41, 42, 43, 44, 45, 46, 47, 48, 49, 50, 51, 52, 53, 54, 55, 56, 57, 58, 59, 60, 61, 62, 63, 64, 65, 66, 67, 68, 69, 70, 71, 72, 73, 74, 75, 76, 77, 78, 79, 80, 81] 0 (fun x => bencode_parser_list_L0 n (x.1) (x.2.1) (x.2.2.1) (x.2.2.2.1) (x.2.2.2.2.1) (x.2.2.2.2.2))⟩ :=
  loop1_ok (P := Tryd.prog) (body := (bodyOf Tryd.f17)) (c := child (codeAt (bodyOf Tryd.f17) [0, 1, 0, 1, 1, 1]) 0) (p := [0, 1, 0, 1, 1, 1]) (ls := [(0, .one (.ptr)), (1, .one (.int .i64)), (2, .one (.int .i64)), (8, .one (.int .i64)), (9, .one (.bool)), (10, .one (.int .i64))]) (ms := [(9, .one (.bool))]) (id := 0) (nt := 91) (ws := [9, 10, 11, 30, 31, 32, 33, 34, 35, 36, 37, 38, 39, 40, 41, 42, 43, 44, 45, 46, 47, 48, 49, 50, 51, 52, 53, 54, 55, 56, 57, 58, 59, 60, 61, 62, 63, 64, 65, 66, 67, 68, 69, 70, 71, 72, 73, 74, 75, 76, 77, 78, 79, 80, 81]) (N := 400) (G := (fun n x => bencode_parser_list_L0 n (x.1) (x.2.1) (x.2.2.1) (x.2.2.2.1) (x.2.2.2.2.1) (x.2.2.2.2.2))) (T := fun n => ⟨lookC (bencode_parser_list_ct n), lookL (bencode_parser_list_L0_lt n), lookJ (bencode_parser_list_L0_jt0 n), bencode_parser_list_dr⟩)
    (by kernel_rfl) (fun _ => by kernel_rfl) (fun n x => by kernel_rfl) n (fun m hm => (tabs_ok (P := Tryd.prog) (body := (bodyOf Tryd.f17)) (W := (91, some [9, 10, 11, 30, 31, 32, 33, 34, 35, 36, 37, 38, 39, 40, 41, 42, 43, 44, 45, 46, 47, 48, 49, 50, 51, 52, 53, 54, 55, 56, 57, 58, 59, 60, 61, 62, 63, 64, 65, 66, 67, 68, 69, 70, 71, 72, 73, 74, 75, 76, 77, 78, 79, 80, 81])) (cl := bencode_parser_list_ct m) (ll := bencode_parser_list_L0_lt m) (dr := bencode_parser_list_dr) (fin := (finL1 [(0, .one (.ptr)), (1, .one (.int .i64)), (2, .one (.int .i64)), (8, .one (.int .i64)), (9, .one (.bool)), (10, .one (.int .i64))] [(9, .one (.bool))] 0 (fun x => bencode_parser_list_L0 m (x.1) (x.2.1) (x.2.2.1) (x.2.2.2.1) (x.2.2.2.2.1) (x.2.2.2.2.2)))) (N := 400) (js := bencode_parser_list_L0_jt0 m) (AllOK.cons (H m hm).1 (AllOK.cons (bencode_parser_more_ok m) (AllOK.cons (bencode_parser_node_ok m) AllOK.nil))) AllL.nil (AllJ.cons (fun x => by kernel_rfl) AllJ.nil))) hW
theorem bencode_parser_list_ok_step (n : Nat) (H : ∀ m, m < n + 1 → P_bencode_parser_value m) : FnOK Tryd.prog ⟨17, [.one (.ptr), .one (.int .i64), .one (.int .i64)], [.one (.int .i64), .one (.bool)], fun x => bencode_parser_list (n + 1) (x.1) (x.2.1) (x.2.2)⟩ :=
  fn_ok (P := Tryd.prog) (e := ⟨17, [.one (.ptr), .one (.int .i64), .one (.int .i64)], [.one (.int .i64), .one (.bool)], fun x => bencode_parser_list (n + 1) (x.1) (x.2.1) (x.2.2)⟩) (fn := Tryd.f17) (c := (bodyOf Tryd.f17)) (T := ⟨lookC (bencode_parser_list_ct n), lookL (bencode_parser_list_lt n), lookJ (bencode_parser_list_jt0 n), bencode_parser_list_dr⟩) (N := 400) (ps := [(0, .one (.ptr)), (1, .one (.int .i64)), (2, .one (.int .i64))])
    (by kernel_rfl) (by kernel_rfl) (by kernel_rfl) (by kernel_rfl) (by kernel_rfl) (tabs_ok (P := Tryd.prog) (body := (bodyOf Tryd.f17)) (W := (91, none)) (cl := bencode_parser_list_ct n) (ll := bencode_parser_list_lt n) (dr := bencode_parser_list_dr) (fin := (finF Tryd.prog Tryd.f17 [.one (.int .i64), .one (.bool)])) (N := 400) (js := bencode_parser_list_jt0 n) (AllOK.cons (H n (Nat.lt_succ_self n)).1 (AllOK.cons (bencode_parser_more_ok n) (AllOK.cons (bencode_parser_node_ok n) AllOK.nil))) (AllL.cons (bencode_parser_list_L0_ok n (fun k hk => H k (Nat.lt_succ_of_lt hk)) (by kernel_rfl)) AllL.nil) AllJ.nil) (fun x => by kernel_rfl)
theorem bencode_parser_dictionary_L0_ok (n : Nat) (H : ∀ m, m < n → P_bencode_parser_value m) {W : Wr} (hW : subW W 155 [6, 7, 9, 10, 11, 12, 13, 14, 15, 16, 17, 18, 19, 20, 39, 40, 41, 42, 43, 44, 45, 46, 47, 48, 49, 50, 51, 52, 53, 54, 55, 56, 57, 58, 59, 60, 61, 62, 63, 64, 65, 66, 67, 68, 69, 70, 71, 72, 73, 74, 75, 76, 77, 78, 79, 80, 81, 82, 83, 84, 85, 86, 87, 88, 89, 90, 91, 92, 93, 94, 95, 96, 97, 98, 99, 100, 101, 102, 103, 104, 105, 106, 107, 108, 109, 110, 111, 112, 113, 114, 115, 116, 117, 118, 119, 120, 121, 122, 123, 124, 125, 126, 127, 128, 129, 130, 131, 132, 133, 134, 135, 136, 137, 138, 139, 140, 141, 142, 143, 144, 145] = true) : LEntOK Tryd.prog (bodyOf Tryd.f18) W ⟨[0, 1, 0, 1, 1, 1, 1], [(0, .one (.ptr)), (1, .one (.int .i64)), (2, .one (.int .i64)), (8, .one (.int .i64)), (9, .one (.bool)), (10, .one (.str)), (11, .one (.int .i64))], actL2 [(0, .one (.ptr)), (1, .one (.int .i64)), (2, .one (.int .i64)), (8, .one (.int .i64)), (9, .one (.bool)), (10, .one (.str)), (11, .one (.int .i64))] [(9, .one (.bool))] [(6, .one (.int .i64)), (7, .one (.bool))] [6, 7, 9, 10, 11, 12, 13, 14, 15, 16, 17, 18, 19, 20, 39, 40, 41, 42, 43, 44, 45, 46, 47, 48, 49, 50, 51, 52, 53, 54, 55, 56, 57, 58, 59, 60, 61, 62, 63, 64, 65, 66, 67, 68, 69, 70, 71, 72, 73, 74, 75, 76, 77, 78, 79, 80, 81, 82, 83, 84, 85, 86, 87, 88, 89, 90, 91, 92, 93, 94, 95, 96, 97, 98, 99, 100, 101, 102, 103, 104, 105, 106, 107, 108, 109, 110, 111, 112, 113, 114, 115, 116, 117, 118, 119, 120, 121, 122, 123, 124, 125, 126, 127, 128, 129, 130, 131, 132, 133, 134, 135, 136, 137, 138, 139, 140, 141, 142, 143, 144, 145] 0 .ret (fun x => bencode_parser_dictionary_L0 n (x.1) (x.2.1) (x.2.2.1) (x.2.2.2.1) (x.2.2.2.2.1) (x.2.2.2.2.2.1) (x.2.2.2.2.2.2))⟩ :=
  loop2_ok (P := Tryd.prog) (body := (bodyOf Tryd.f18)) (c := child (codeAt (bodyOf Tryd.f18) [0, 1, 0, 1, 1, 1, 1]) 0) (p := [0, 1, 0, 1, 1, 1, 1]) (ls := [(0, .one (.ptr)), (1, .one (.int .i64)), (2, .one (.int .i64)), (8, .one (.int .i64)), (9, .one (.bool)), (10, .one (.str)), (11, .one (.int .i64))]) (ms := [(9, .one (.bool))]) (rs := [(6, .one (.int .i64)), (7, .one (.bool))]) (id := 0) (e2 := .ret) (nt := 155) (ws := [6, 7, 9, 10, 11, 12, 13, 14, 15, 16, 17, 18, 19, 20, 39, 40, 41, 42, 43, 44, 45, 46, 47, 48, 49, 50, 51, 52, 53, 54, 55, 56, 57, 58, 59, 60, 61, 62, 63, 64, 65, 66, 67, 68, 69, 70, 71, 72, 73, 74, 75, 76, 77, 78, 79, 80, 81, 82, 83, 84, 85, 86, 87, 88, 89, 90, 91, 92, 93, 94, 95, 96, 97, 98, 99, 100, 101, 102, 103, 104, 105, 106, 107, 108, 109, 110, 111, 112, 113, 114, 115, 116, 117, 118, 119, 120, 121, 122, 123, 124, 125, 126, 127, 128, 129, 130, 131, 132, 133, 134, 135, 136, 137, 138, 139, 140, 141, 142, 143, 144, 145]) (N := 400) (G := (fun n x => bencode_parser_dictionary_L0 n (x.1) (x.2.1) (x.2.2.1) (x.2.2.2.1) (x.2.2.2.2.1) (x.2.2.2.2.2.1) (x.2.2.2.2.2.2))) (T := fun n => ⟨lookC (bencode_parser_dictionary_ct n), lookL (bencode_parser_dictionary_L0_lt n), lookJ (bencode_parser_dictionary_L0_jt0 n), bencode_parser_dictionary_dr⟩)
    (by kernel_rfl) (fun _ => by kernel_rfl) (fun n x => by kernel_rfl) n (fun m hm => (tabs_ok (P := Tryd.prog) (body := (bodyOf Tryd.f18)) (W := (155, some [6, 7, 9, 10, 11, 12, 13, 14, 15, 16, 17, 18, 19, 20, 39, 40, 41, 42, 43, 44, 45, 46, 47, 48, 49, 50, 51, 52, 53, 54, 55, 56, 57, 58, 59, 60, 61, 62, 63, 64, 65, 66, 67, 68, 69, 70, 71, 72, 73, 74, 75, 76, 77, 78, 79, 80, 81, 82, 83, 84, 85, 86, 87, 88, 89, 90, 91, 92, 93, 94, 95, 96, 97, 98, 99, 100, 101, 102, 103, 104, 105, 106, 107, 108, 109, 110, 111, 112, 113, 114, 115, 116, 117, 118, 119, 120, 121, 122, 123, 124, 125, 126, 127, 128, 129, 130, 131, 132, 133, 134, 135, 136, 137, 138, 139, 140, 141, 142, 143, 144, 145])) (cl := bencode_parser_dictionary_ct m) (ll := bencode_parser_dictionary_L0_lt m) (dr := bencode_parser_dictionary_dr) (fin := (finL2 [(0, .one (.ptr)), (1, .one (.int .i64)), (2, .one (.int .i64)), (8, .one (.int .i64)), (9, .one (.bool)), (10, .one (.str)), (11, .one (.int .i64))] [(9, .one (.bool))] [(6, .one (.int .i64)), (7, .one (.bool))] 0 .ret (fun x => bencode_parser_dictionary_L0 m (x.1) (x.2.1) (x.2.2.1) (x.2.2.2.1) (x.2.2.2.2.1) (x.2.2.2.2.2.1) (x.2.2.2.2.2.2)))) (N := 400) (js := bencode_parser_dictionary_L0_jt0 m) (AllOK.cons (H m hm).1 (AllOK.cons (bencode_parser_fail_ok m) (AllOK.cons (bencode_parser_more_ok m) (AllOK.cons (bencode_parser_node_ok m) (AllOK.cons (bencode_parser_text_ok m) (AllOK.cons (codepoint_Check_ok m) AllOK.nil)))))) AllL.nil (AllJ.cons (fun x => by kernel_rfl) (AllJ.cons (fun x => by kernel_rfl) AllJ.nil)))) hW
theorem bencode_parser_dictionary_ok_step (n : Nat) (H : ∀ m, m < n + 1 → P_bencode_parser_value m) : FnOK Tryd.prog ⟨18, [.one (.ptr), .one (.int .i64), .one (.int .i64)], [.one (.int .i64), .one (.bool)], fun x => bencode_parser_dictionary (n + 1) (x.1) (x.2.1) (x.2.2)⟩ :=
  fn_ok (P := Tryd.prog) (e := ⟨18, [.one (.ptr), .one (.int .i64), .one (.int .i64)], [.one (.int .i64), .one (.bool)], fun x => bencode_parser_dictionary (n + 1) (x.1) (x.2.1) (x.2.2)⟩) (fn := Tryd.f18) (c := (bodyOf Tryd.f18)) (T := ⟨lookC (bencode_parser_dictionary_ct n), lookL (bencode_parser_dictionary_lt n), lookJ (bencode_parser_dictionary_jt0 n), bencode_parser_dictionary_dr⟩) (N := 400) (ps := [(0, .one (.ptr)), (1, .one (.int .i64)), (2, .one (.int .i64))])
    (by kernel_rfl) (by kernel_rfl) (by kernel_rfl) (by kernel_rfl) (by kernel_rfl) (tabs_ok (P := Tryd.prog) (body := (bodyOf Tryd.f18)) (W := (155, none)) (cl := bencode_parser_dictionary_ct n) (ll := bencode_parser_dictionary_lt n) (dr := bencode_parser_dictionary_dr) (fin := (finF Tryd.prog Tryd.f18 [.one (.int .i64), .one (.bool)])) (N := 400) (js := bencode_parser_dictionary_jt0 n) (AllOK.cons (H n (Nat.lt_succ_self n)).1 (AllOK.cons (bencode_parser_fail_ok n) (AllOK.cons (bencode_parser_more_ok n) (AllOK.cons (bencode_parser_node_ok n) (AllOK.cons (bencode_parser_text_ok n) (AllOK.cons (codepoint_Check_ok n) AllOK.nil)))))) (AllL.cons (bencode_parser_dictionary_L0_ok n (fun k hk => H k (Nat.lt_succ_of_lt hk)) (by kernel_rfl)) AllL.nil) AllJ.nil) (fun x => by kernel_rfl)
theorem P_bencode_parser_value_all : ∀ n m, m < n → P_bencode_parser_value m := by
  intro n
  induction n with
  | zero => intro m hm; exact absurd hm (Nat.not_lt_zero m)
  | succ n ih =>
    intro m hm
    cases m with
    | zero => exact ⟨fn_zero (fn := Tryd.f10) (by kernel_rfl) (by kernel_rfl) (by kernel_rfl) (fun _ => rfl), fn_zero (fn := Tryd.f17) (by kernel_rfl) (by kernel_rfl) (by kernel_rfl) (fun _ => rfl), fn_zero (fn := Tryd.f18) (by kernel_rfl) (by kernel_rfl) (by kernel_rfl) (fun _ => rfl)⟩
    | succ k => exact ⟨bencode_parser_value_ok_step k fun m hm => ih m (by omega), bencode_parser_list_ok_step k fun m hm => ih m (by omega), bencode_parser_dictionary_ok_step k fun m hm => ih m (by omega)⟩
theorem bencode_parser_value_ok (n : Nat) : FnOK Tryd.prog ⟨10, [.one (.ptr), .agg [.int .i64, .int .i64, .int .i64, .int .i64, .int .i64, .int .i64, .int .i64, .bool, .bool], .one (.int .i64)], [.one (.int .i64), .one (.bool)], fun x => bencode_parser_value n (x.1) (x.2.1) (x.2.2)⟩ := (P_bencode_parser_value_all (n + 1) n (Nat.lt_succ_self n)).1
theorem bencode_parser_list_ok (n : Nat) : FnOK Tryd.prog ⟨17, [.one (.ptr), .one (.int .i64), .one (.int .i64)], [.one (.int .i64), .one (.bool)], fun x => bencode_parser_list n (x.1) (x.2.1) (x.2.2)⟩ := (P_bencode_parser_value_all (n + 1) n (Nat.lt_succ_self n)).2.1
theorem bencode_parser_dictionary_ok (n : Nat) : FnOK Tryd.prog ⟨18, [.one (.ptr), .one (.int .i64), .one (.int .i64)], [.one (.int .i64), .one (.bool)], fun x => bencode_parser_dictionary n (x.1) (x.2.1) (x.2.2)⟩ := (P_bencode_parser_value_all (n + 1) n (Nat.lt_succ_self n)).2.2
def bencode_Parse_J0 (n : Nat) (a0 : Addr) (a1 : Option Addr) : M ((Int × ByteArray × Sl × Int × Sl × Sl) × Int × Int) :=
  M.bind (nn a1) fun x0 =>
  M.bind (ldL (li) (x0.plus 8)) fun (x1 : Int) =>
  if !decide (x1 = 0) then
    M.bind (nn a1) fun x2 =>
    M.bind (nn a1) fun x3 =>
    M.bind (ldL (li) (x2.plus 9)) fun (x4 : Int) =>
    M.bind (ldL (li) (x3.plus 8)) fun (x5 : Int) =>
    M.bind (chk [some (x2.plus 9), some (x3.plus 8)] (stN a0 [vi 0, Value.string (ofBytes []), vsl0, vi 0, vsl0, vsl0])) fun x6 =>
    M.bind (ldLs [li, .str, .sl, li, .sl, .sl] a0) fun (x7 : Int × ByteArray × Sl × Int × Sl × Sl) =>
    M.pure ((x7.1, x7.2.1, x7.2.2.1, x7.2.2.2.1, x7.2.2.2.2.1, x7.2.2.2.2.2), x4, x5)
  else
    M.bind (nn a1) fun x2 =>
    M.bind (ldLs [li, .str, .sl, li, .sl, .sl] (x2.plus 2)) fun (x3 : Int × ByteArray × Sl × Int × Sl × Sl) =>
    M.bind (stN a0 [vi x3.1, Value.string x3.2.1, vsl x3.2.2.1, vi x3.2.2.2.1, vsl x3.2.2.2.2.1, vsl x3.2.2.2.2.2]) fun x4 =>
    M.bind (ldLs [li, .str, .sl, li, .sl, .sl] a0) fun (x5 : Int × ByteArray × Sl × Int × Sl × Sl) =>
    M.pure ((x5.1, x5.2.1, x5.2.2.1, x5.2.2.2.1, x5.2.2.2.2.1, x5.2.2.2.2.2), 0, 0)
def bencode_Parse (n : Nat) (a0 : ByteArray) : M ((Int × ByteArray × Sl × Int × Sl × Sl) × Int × Int) :=
  M.bind (newB none T_api_Doc [vi 0, Value.string (ofBytes []), vsl0, vi 0, vsl0, vsl0]) fun x0 =>
  if decide (65536 < (↑a0.size : Int)) then
    M.bind (stN (adr x0) [vi 0, Value.string (ofBytes []), vsl0, vi 0, vsl0, vsl0]) fun x1 =>
    M.bind (ldLs [li, .str, .sl, li, .sl, .sl] (adr x0)) fun (x2 : Int × ByteArray × Sl × Int × Sl × Sl) =>
    M.pure ((x2.1, x2.2.1, x2.2.2.1, x2.2.2.2.1, x2.2.2.2.2.1, x2.2.2.2.2.2), 0, 6)
  else
    M.bind (newB none T_bencode_parser [Value.string a0, vi 0, vi 5, Value.string a0, vsl0, vi 0, vsl0, vsl0, vi 0, vi 0]) fun x1 =>
    M.bind (bencode_parser_value n (some (adr x1)) (0, -1, 0, 0, 0, 0, 0, false, false) 0) fun x2 =>
    if x2.2 then
      M.bind (nn (some (adr x1))) fun x3 =>
      M.bind (ldL (li) (x3.plus 1)) fun (x4 : Int) =>
      if decide (x4 < (↑a0.size : Int)) then
        M.bind (nn (some (adr x1))) fun x5 =>
        M.bind (ldL (li) (x5.plus 1)) fun (x6 : Int) =>
        M.bind (bencode_parser_fail n (some (adr x1)) x6 4) fun x7 =>
        bencode_Parse_J0 n (adr x0) (some (adr x1))
      else
        bencode_Parse_J0 n (adr x0) (some (adr x1))
    else
      bencode_Parse_J0 n (adr x0) (some (adr x1))
def bencode_Parse_ct (n : Nat) : List Ent := [⟨10, [.one (.ptr), .agg [.int .i64, .int .i64, .int .i64, .int .i64, .int .i64, .int .i64, .int .i64, .bool, .bool], .one (.int .i64)], [.one (.int .i64), .one (.bool)], fun x => bencode_parser_value n (x.1) (x.2.1) (x.2.2)⟩,
  ⟨11, [.one (.ptr), .one (.int .i64), .one (.int .i64)], [.one (.bool)], fun x => bencode_parser_fail n (x.1) (x.2.1) (x.2.2)⟩]
def bencode_Parse_dr (i : Nat) : Option (List (Nat × List Nat)) := cond (Nat.beq i 8) (some [(0, []), (1, []), (2, []), (3, []), (5, []), (6, []), (7, []), (4, []), (8, []), (9, [4, 8]), (10, []), (11, [])]) (none)
def bencode_Parse_lt (n : Nat) : List LEnt := []
def bencode_Parse_jt1 (n : Nat) : List (JEnt ((Int × ByteArray × Sl × Int × Sl × Sl) × Int × Int)) := []
def bencode_Parse_jt0 (n : Nat) : List (JEnt ((Int × ByteArray × Sl × Int × Sl × Sl) × Int × Int)) := ⟨[0, 0, 1, 1, 1, 1], [.code [1, 0, 1, 1, 1, 1], .code [1, 1, 1, 1, 1]], [(2, .one (.adr)), (5, .one (.ptr))], fun x => bencode_Parse_J0 n (x.1) (x.2)⟩ :: bencode_Parse_jt1 n
theorem bencode_Parse_ok (n : Nat) : FnOK Tryd.prog ⟨7, [.one (.str)], [.agg [.int .i64, .str, .sl, .int .i64, .sl, .sl], .one (.int .i64), .one (.int .i64)], fun x => bencode_Parse n (x)⟩ :=
  fn_ok (P := Tryd.prog) (e := ⟨7, [.one (.str)], [.agg [.int .i64, .str, .sl, .int .i64, .sl, .sl], .one (.int .i64), .one (.int .i64)], fun x => bencode_Parse n (x)⟩) (fn := Tryd.f7) (c := (bodyOf Tryd.f7)) (T := ⟨lookC (bencode_Parse_ct n), lookL (bencode_Parse_lt n), lookJ (bencode_Parse_jt0 n), bencode_Parse_dr⟩) (N := 400) (ps := [(0, .one (.str))])
    (by kernel_rfl) (by kernel_rfl) (by kernel_rfl) (by kernel_rfl) (by kernel_rfl) (tabs_ok (P := Tryd.prog) (body := (bodyOf Tryd.f7)) (W := (57, none)) (cl := bencode_Parse_ct n) (ll := bencode_Parse_lt n) (dr := bencode_Parse_dr) (fin := (finF Tryd.prog Tryd.f7 [.agg [.int .i64, .str, .sl, .int .i64, .sl, .sl], .one (.int .i64), .one (.int .i64)])) (N := 400) (js := bencode_Parse_jt0 n) (AllOK.cons (bencode_parser_value_ok n) (AllOK.cons (bencode_parser_fail_ok n) AllOK.nil)) AllL.nil (AllJ.cons (fun x => by kernel_rfl) AllJ.nil)) (fun x => by kernel_rfl)
def rosettalaw34_awake (n : Nat) : M (Bool) :=
  M.bind (bencode_Parse n (ofBytes [100, 49, 58, 97, 48, 58, 49, 58, 98, 108, 105, 49, 101, 105, 45, 50, 101, 101, 101])) fun x0 =>
  M.bind (newB none T_api_Doc [vi 0, Value.string (ofBytes []), vsl0, vi 0, vsl0, vsl0]) fun x1 =>
  M.bind (stN (adr x1) [vi x0.1.1, Value.string x0.1.2.1, vsl x0.1.2.2.1, vi x0.1.2.2.2.1, vsl x0.1.2.2.2.2.1, vsl x0.1.2.2.2.2.2]) fun x2 =>
  M.bind (bencode_Parse n (ofBytes [105, 48, 49, 101])) fun x3 =>
  M.bind (newB none T_api_Doc [vi 0, Value.string (ofBytes []), vsl0, vi 0, vsl0, vsl0]) fun x4 =>
  M.bind (stN (adr x4) [vi x3.1.1, Value.string x3.1.2.1, vsl x3.1.2.2.1, vi x3.1.2.2.2.1, vsl x3.1.2.2.2.2.1, vsl x3.1.2.2.2.2.2]) fun x5 =>
  M.bind (bencode_Parse n (ofBytes [51, 58, 97, 98])) fun x6 =>
  M.bind (newB none T_api_Doc [vi 0, Value.string (ofBytes []), vsl0, vi 0, vsl0, vsl0]) fun x7 =>
  M.bind (stN (adr x7) [vi x6.1.1, Value.string x6.1.2.1, vsl x6.1.2.2.1, vi x6.1.2.2.2.1, vsl x6.1.2.2.2.2.1, vsl x6.1.2.2.2.2.2]) fun x8 =>
  if decide (x0.2.1 = 0) then
    if decide (x0.2.2 = 0) then
      M.bind (ldL .sl ((adr x1).plus 4)) fun (x9 : Sl) =>
      if decide ((↑x9.len : Int) = 5) then
        M.bind (ldL .sl ((adr x1).plus 4)) fun (x10 : Sl) =>
        M.bind (idxA x10 2 9) fun x11 =>
        M.bind (ldL (li) (x11.plus 3)) fun (x12 : Int) =>
        if decide (x12 = 9) then
          M.bind (ldL .sl ((adr x1).plus 4)) fun (x13 : Sl) =>
          M.bind (idxA x13 2 9) fun x14 =>
          M.bind (ldL (li) (x14.plus 4)) fun (x15 : Int) =>
          if decide (x15 = 18) then
            M.bind (ldL .sl ((adr x1).plus 4)) fun (x16 : Sl) =>
            M.bind (idxA x16 2 9) fun x17 =>
            M.bind (ldL (li) (x17.plus 5)) fun (x18 : Int) =>
            if decide (x18 = 6) then
              if decide (x3.2.1 = 0) then
                if decide (x3.2.2 = 12) then
                  if decide (x6.2.1 = 4) then
                    M.pure (decide (x6.2.2 = 4))
                  else
                    M.pure false
                else
                  M.pure false
              else
                M.pure false
            else
              M.pure false
          else
            M.pure false
        else
          M.pure false
      else
        M.pure false
    else
      M.pure false
  else
    M.pure false
def rosettalaw34_awake_ct (n : Nat) : List Ent := [⟨7, [.one (.str)], [.agg [.int .i64, .str, .sl, .int .i64, .sl, .sl], .one (.int .i64), .one (.int .i64)], fun x => bencode_Parse n (x)⟩]
def rosettalaw34_awake_dr (i : Nat) : Option (List (Nat × List Nat)) := none
def rosettalaw34_awake_lt (n : Nat) : List LEnt := []
def rosettalaw34_awake_jt0 (n : Nat) : List (JEnt (Bool)) := []
theorem rosettalaw34_awake_ok (n : Nat) : FnOK Tryd.prog ⟨6, [], [.one (.bool)], fun _ => rosettalaw34_awake n⟩ :=
  fn_ok (P := Tryd.prog) (e := ⟨6, [], [.one (.bool)], fun _ => rosettalaw34_awake n⟩) (fn := Tryd.f6) (c := (bodyOf Tryd.f6)) (T := ⟨lookC (rosettalaw34_awake_ct n), lookL (rosettalaw34_awake_lt n), lookJ (rosettalaw34_awake_jt0 n), rosettalaw34_awake_dr⟩) (N := 400) (ps := [])
    (by kernel_rfl) (by kernel_rfl) (by kernel_rfl) (by kernel_rfl) (by kernel_rfl) (tabs_ok (P := Tryd.prog) (body := (bodyOf Tryd.f6)) (W := (77, none)) (cl := rosettalaw34_awake_ct n) (ll := rosettalaw34_awake_lt n) (dr := rosettalaw34_awake_dr) (fin := (finF Tryd.prog Tryd.f6 [.one (.bool)])) (N := 400) (js := rosettalaw34_awake_jt0 n) (AllOK.cons (bencode_Parse_ok n) AllOK.nil) AllL.nil AllJ.nil) (fun x => by kernel_rfl)
def rosettaref34_State_fail (n : Nat) (a0 : Option Addr) (a1 : Int) (a2 : Int) : M (Unit) :=
  M.bind (nn a0) fun x0 =>
  M.bind (ldL (li) (x0.plus 8)) fun (x1 : Int) =>
  if decide (x1 = 0) then
    M.bind (nn a0) fun x2 =>
    M.bind (stN (x2.plus 8) [vi a1]) fun x3 =>
    M.bind (nn a0) fun x4 =>
    M.bind (stN (x4.plus 9) [vi a2]) fun x5 =>
    M.pure ()
  else
    M.pure ()
def rosettaref34_State_fail_ct (n : Nat) : List Ent := []
def rosettaref34_State_fail_dr (i : Nat) : Option (List (Nat × List Nat)) := none
def rosettaref34_State_fail_lt (n : Nat) : List LEnt := []
def rosettaref34_State_fail_jt0 (n : Nat) : List (JEnt (Unit)) := []
theorem rosettaref34_State_fail_ok (n : Nat) : FnOK Tryd.prog ⟨13, [.one (.ptr), .one (.int .i64), .one (.int .i64)], [], fun x => rosettaref34_State_fail n (x.1) (x.2.1) (x.2.2)⟩ :=
  fn_ok (P := Tryd.prog) (e := ⟨13, [.one (.ptr), .one (.int .i64), .one (.int .i64)], [], fun x => rosettaref34_State_fail n (x.1) (x.2.1) (x.2.2)⟩) (fn := Tryd.f13) (c := (bodyOf Tryd.f13)) (T := ⟨lookC (rosettaref34_State_fail_ct n), lookL (rosettaref34_State_fail_lt n), lookJ (rosettaref34_State_fail_jt0 n), rosettaref34_State_fail_dr⟩) (N := 400) (ps := [(0, .one (.ptr)), (1, .one (.int .i64)), (2, .one (.int .i64))])
    (by kernel_rfl) (by kernel_rfl) (by kernel_rfl) (by kernel_rfl) (by kernel_rfl) (tabs_ok (P := Tryd.prog) (body := (bodyOf Tryd.f13)) (W := (19, none)) (cl := rosettaref34_State_fail_ct n) (ll := rosettaref34_State_fail_lt n) (dr := rosettaref34_State_fail_dr) (fin := (finF Tryd.prog Tryd.f13 [])) (N := 400) (js := rosettaref34_State_fail_jt0 n) AllOK.nil AllL.nil AllJ.nil) (fun x => by kernel_rfl)
def rosettaref34_State_next (n : Nat) (a0 : Option Addr) : M (Int) :=
  M.bind (nn a0) fun x0 =>
  M.bind (nn a0) fun x1 =>
  M.bind (ldL (li) (x0.plus 1)) fun (x2 : Int) =>
  M.bind (ldL .str (x1.plus 0)) fun (x3 : ByteArray) =>
  if decide ((↑(ByteArray.size x3) : Int) ≤ x2) then
    M.bind (nn a0) fun x4 =>
    M.bind (ldL .str (x4.plus 0)) fun (x5 : ByteArray) =>
    M.bind (rosettaref34_State_fail n a0 4 (↑(ByteArray.size x5) : Int)) fun x6 =>
    M.pure 0
  else
    M.bind (nn a0) fun x4 =>
    M.bind (nn a0) fun x5 =>
    M.bind (ldL .str (x4.plus 0)) fun (x6 : ByteArray) =>
    M.bind (ldL (li) (x5.plus 1)) fun (x7 : Int) =>
    M.bind (idxS x6 x7) fun x8 =>
    M.pure (↑x8.toNat : Int)
def rosettaref34_State_next_ct (n : Nat) : List Ent := [⟨13, [.one (.ptr), .one (.int .i64), .one (.int .i64)], [], fun x => rosettaref34_State_fail n (x.1) (x.2.1) (x.2.2)⟩]
def rosettaref34_State_next_dr (i : Nat) : Option (List (Nat × List Nat)) := cond (Nat.beq i 1) (some [(0, []), (1, []), (2, []), (4, []), (5, []), (6, []), (3, []), (7, []), (8, []), (9, [])]) (cond (Nat.beq i 4) (some [(0, []), (1, []), (2, []), (4, []), (5, []), (6, []), (3, []), (7, []), (8, []), (9, [])]) (none))
def rosettaref34_State_next_lt (n : Nat) : List LEnt := []
def rosettaref34_State_next_jt0 (n : Nat) : List (JEnt (Int)) := []
theorem rosettaref34_State_next_ok (n : Nat) : FnOK Tryd.prog ⟨20, [.one (.ptr)], [.one (.int .u8)], fun x => rosettaref34_State_next n (x)⟩ :=
  fn_ok (P := Tryd.prog) (e := ⟨20, [.one (.ptr)], [.one (.int .u8)], fun x => rosettaref34_State_next n (x)⟩) (fn := Tryd.f20) (c := (bodyOf Tryd.f20)) (T := ⟨lookC (rosettaref34_State_next_ct n), lookL (rosettaref34_State_next_lt n), lookJ (rosettaref34_State_next_jt0 n), rosettaref34_State_next_dr⟩) (N := 400) (ps := [(0, .one (.ptr))])
    (by kernel_rfl) (by kernel_rfl) (by kernel_rfl) (by kernel_rfl) (by kernel_rfl) (tabs_ok (P := Tryd.prog) (body := (bodyOf Tryd.f20)) (W := (29, none)) (cl := rosettaref34_State_next_ct n) (ll := rosettaref34_State_next_lt n) (dr := rosettaref34_State_next_dr) (fin := (finF Tryd.prog Tryd.f20 [.one (.int .u8)])) (N := 400) (js := rosettaref34_State_next_jt0 n) (AllOK.cons (rosettaref34_State_fail_ok n) AllOK.nil) AllL.nil AllJ.nil) (fun x => by kernel_rfl)
def rosettaref34_State_node_J1 (n : Nat) (a0 : Option Addr) (a1 : Addr) : M (Int) :=
  M.bind (nn a0) fun x0 =>
  M.bind (ldL .sl (((x0.plus 2).plus 2).plus 0)) fun (x1 : Sl) =>
  M.bind (ldLs [li, .str, .bool, .sl, .sl] a1) fun (x2 : Int × ByteArray × Bool × Sl × Sl) =>
  M.bind (app true x1 5 T_api_Node 1 [vi x2.1, Value.string x2.2.1, Value.bool x2.2.2.1, vsl x2.2.2.2.1, vsl x2.2.2.2.2]) fun x3 =>
  M.bind (nn a0) fun x4 =>
  M.bind (stN (((x4.plus 2).plus 2).plus 0) [vsl x3]) fun x5 =>
  M.bind (nn a0) fun x6 =>
  M.bind (ldL .sl (((x6.plus 2).plus 2).plus 0)) fun (x7 : Sl) =>
  M.pure (IntKind.i64.wrap ((↑x7.len : Int) - 1))
def rosettaref34_State_node_J0 (n : Nat) (a0 : Option Addr) (a1 : Int) (a2 : Addr) : M (Int) :=
  M.bind (nn a0) fun x0 =>
  M.bind (ldL .sl (((x0.plus 2).plus 2).plus 0)) fun (x1 : Sl) =>
  if decide (4096 ≤ (↑x1.len : Int)) then
    M.bind (rosettaref34_State_fail n a0 7 a1) fun x2 =>
    rosettaref34_State_node_J1 n a0 a2
  else
    rosettaref34_State_node_J1 n a0 a2
def rosettaref34_State_node (n : Nat) (a0 : Option Addr) (a1 : Int × ByteArray × Bool × Sl × Sl) (a2 : Int) (a3 : Int) : M (Int) :=
  M.bind (newB none T_api_Node [vi a1.1, Value.string a1.2.1, Value.bool a1.2.2.1, vsl a1.2.2.2.1, vsl a1.2.2.2.2]) fun x0 =>
  if decide (32 < a3) then
    M.bind (rosettaref34_State_fail n a0 5 a2) fun x1 =>
    rosettaref34_State_node_J0 n a0 a2 (adr x0)
  else
    rosettaref34_State_node_J0 n a0 a2 (adr x0)
def rosettaref34_State_node_ct (n : Nat) : List Ent := [⟨13, [.one (.ptr), .one (.int .i64), .one (.int .i64)], [], fun x => rosettaref34_State_fail n (x.1) (x.2.1) (x.2.2)⟩]
def rosettaref34_State_node_dr (i : Nat) : Option (List (Nat × List Nat)) := cond (Nat.beq i 5) (some [(0, []), (1, []), (2, []), (3, []), (4, []), (5, []), (6, []), (7, []), (8, []), (9, []), (10, []), (11, []), (12, []), (13, []), (14, [])]) (none)
def rosettaref34_State_node_lt (n : Nat) : List LEnt := []
def rosettaref34_State_node_jt2 (n : Nat) : List (JEnt (Int)) := []
def rosettaref34_State_node_jt1 (n : Nat) : List (JEnt (Int)) := ⟨[0, 1, 1, 1], [.code [1, 1, 1, 1]], [(0, .one (.ptr)), (5, .one (.adr))], fun x => rosettaref34_State_node_J1 n (x.1) (x.2)⟩ :: rosettaref34_State_node_jt2 n
def rosettaref34_State_node_jt0 (n : Nat) : List (JEnt (Int)) := ⟨[0, 0, 1, 1], [.code [1, 0, 1, 1], .code [1, 1, 1]], [(0, .one (.ptr)), (2, .one (.int .i64)), (5, .one (.adr))], fun x => rosettaref34_State_node_J0 n (x.1) (x.2.1) (x.2.2)⟩ :: rosettaref34_State_node_jt1 n
theorem rosettaref34_State_node_ok (n : Nat) : FnOK Tryd.prog ⟨21, [.one (.ptr), .agg [.int .i64, .str, .bool, .sl, .sl], .one (.int .i64), .one (.int .i64)], [.one (.int .i64)], fun x => rosettaref34_State_node n (x.1) (x.2.1) (x.2.2.1) (x.2.2.2)⟩ :=
  fn_ok (P := Tryd.prog) (e := ⟨21, [.one (.ptr), .agg [.int .i64, .str, .bool, .sl, .sl], .one (.int .i64), .one (.int .i64)], [.one (.int .i64)], fun x => rosettaref34_State_node n (x.1) (x.2.1) (x.2.2.1) (x.2.2.2)⟩) (fn := Tryd.f21) (c := (bodyOf Tryd.f21)) (T := ⟨lookC (rosettaref34_State_node_ct n), lookL (rosettaref34_State_node_lt n), lookJ (rosettaref34_State_node_jt0 n), rosettaref34_State_node_dr⟩) (N := 400) (ps := [(0, .one (.ptr)), (1, .agg [.int .i64, .str, .bool, .sl, .sl]), (2, .one (.int .i64)), (3, .one (.int .i64))])
    (by kernel_rfl) (by kernel_rfl) (by kernel_rfl) (by kernel_rfl) (by kernel_rfl) (tabs_ok (P := Tryd.prog) (body := (bodyOf Tryd.f21)) (W := (47, none)) (cl := rosettaref34_State_node_ct n) (ll := rosettaref34_State_node_lt n) (dr := rosettaref34_State_node_dr) (fin := (finF Tryd.prog Tryd.f21 [.one (.int .i64)])) (N := 400) (js := rosettaref34_State_node_jt0 n) (AllOK.cons (rosettaref34_State_fail_ok n) AllOK.nil) AllL.nil (AllJ.cons (fun x => by kernel_rfl) (AllJ.cons (fun x => by kernel_rfl) AllJ.nil))) (fun x => by kernel_rfl)
def rosettaref34_State_text_L0_J0_B (G : Option Addr → Int → Int → M (Int)) (n : Nat) (a0 : Option Addr) (a1 : Int) (a2 : Int) : M (Int) :=
  M.bind (nn a0) fun x0 =>
  M.bind (nn a0) fun x1 =>
  M.bind (ldL .str (x0.plus 0)) fun (x2 : ByteArray) =>
  M.bind (ldL (li) (x1.plus 1)) fun (x3 : Int) =>
  M.bind (idxS x2 x3) fun x4 =>
  M.bind (nn a0) fun x5 =>
  M.bind (ldL (li) (x5.plus 1)) fun (x6 : Int) =>
  M.bind (nn a0) fun x7 =>
  M.bind (stN (x7.plus 1) [vi (IntKind.i64.wrap (x6 + 1))]) fun x8 =>
  G a0 a1 (if 1000000 < IntKind.i64.wrap (IntKind.i64.wrap (10 * a2) + IntKind.i64.wrap (IntKind.u8.wrap ((↑x4.toNat : Int) - 48))) then 1000000 else IntKind.i64.wrap (IntKind.i64.wrap (10 * a2) + IntKind.i64.wrap (IntKind.u8.wrap ((↑x4.toNat : Int) - 48))))
def rosettaref34_State_text_L0_B (G : Option Addr → Int → Int → M (Int)) (n : Nat) (a0 : Option Addr) (a1 : Int) (a2 : Int) : M (Int) :=
  M.bind (nn a0) fun x0 =>
  M.bind (nn a0) fun x1 =>
  M.bind (ldL (li) (x0.plus 1)) fun (x2 : Int) =>
  M.bind (ldL .str (x1.plus 0)) fun (x3 : ByteArray) =>
  if decide (x2 < (↑(ByteArray.size x3) : Int)) then
    M.bind (nn a0) fun x4 =>
    M.bind (nn a0) fun x5 =>
    M.bind (ldL .str (x4.plus 0)) fun (x6 : ByteArray) =>
    M.bind (ldL (li) (x5.plus 1)) fun (x7 : Int) =>
    M.bind (idxS x6 x7) fun x8 =>
    if decide (48 ≤ (↑x8.toNat : Int)) then
      M.bind (nn a0) fun x9 =>
      M.bind (nn a0) fun x10 =>
      M.bind (ldL .str (x9.plus 0)) fun (x11 : ByteArray) =>
      M.bind (ldL (li) (x10.plus 1)) fun (x12 : Int) =>
      M.bind (idxS x11 x12) fun x13 =>
      if decide ((↑x13.toNat : Int) ≤ 57) then
        rosettaref34_State_text_L0_J0_B G n a0 a1 a2
      else
        M.pure a2
    else
      M.pure a2
  else
    M.pure a2
def rosettaref34_State_text_L0 : Nat → Option Addr → Int → Int → M (Int)
  | 0 => fun _ _ _ => M.fail
  | n + 1 => rosettaref34_State_text_L0_B (rosettaref34_State_text_L0 n) n
theorem rosettaref34_State_text_L0_succ (n : Nat) : rosettaref34_State_text_L0 (n + 1) = rosettaref34_State_text_L0_B (rosettaref34_State_text_L0 n) n := rfl
def rosettaref34_State_text_L0_J0 (n : Nat) (a0 : Option Addr) (a1 : Int) (a2 : Int) : M (Int) := rosettaref34_State_text_L0_J0_B (rosettaref34_State_text_L0 n) n a0 a1 a2
def rosettaref34_State_text_J0 (n : Nat) (a0 : Option Addr) (a1 : Int) : M (ByteArray) :=
  M.bind (rosettaref34_State_next n a0) fun x0 =>
  if !decide (x0 = 58) then
    M.bind (nn a0) fun x1 =>
    M.bind (ldL (li) (x1.plus 1)) fun (x2 : Int) =>
    M.bind (rosettaref34_State_fail n a0 4 x2) fun x3 =>
    M.pure (ofBytes [])
  else
    M.bind (nn a0) fun x1 =>
    M.bind (ldL (li) (x1.plus 1)) fun (x2 : Int) =>
    M.bind (nn a0) fun x3 =>
    M.bind (stN (x3.plus 1) [vi (IntKind.i64.wrap (x2 + 1))]) fun x4 =>
    M.bind (nn a0) fun x5 =>
    M.bind (nn a0) fun x6 =>
    M.bind (ldL .str (x5.plus 0)) fun (x7 : ByteArray) =>
    M.bind (ldL (li) (x6.plus 1)) fun (x8 : Int) =>
    if decide (IntKind.i64.wrap ((↑(ByteArray.size x7) : Int) - x8) < a1) then
      M.bind (nn a0) fun x9 =>
      M.bind (ldL .str (x9.plus 0)) fun (x10 : ByteArray) =>
      M.bind (rosettaref34_State_fail n a0 4 (↑(ByteArray.size x10) : Int)) fun x11 =>
      M.pure (ofBytes [])
    else
      M.bind (nn a0) fun x9 =>
      M.bind (ldL (li) (x9.plus 1)) fun (x10 : Int) =>
      M.bind (nn a0) fun x11 =>
      M.bind (stN (x11.plus 1) [vi (IntKind.i64.wrap (x10 + a1))]) fun x12 =>
      M.bind (nn a0) fun x13 =>
      M.bind (nn a0) fun x14 =>
      M.bind (nn a0) fun x15 =>
      M.bind (ldL .str (x13.plus 0)) fun (x16 : ByteArray) =>
      M.bind (ldL (li) (x14.plus 1)) fun (x17 : Int) =>
      M.bind (ldL (li) (x15.plus 1)) fun (x18 : Int) =>
      M.bind (sliceS x16 (IntKind.i64.wrap (x17 - a1)) x18) fun x19 =>
      M.pure x19
def rosettaref34_State_text (n : Nat) (a0 : Option Addr) : M (ByteArray) :=
  M.bind (nn a0) fun x0 =>
  M.bind (ldL (li) (x0.plus 1)) fun (x1 : Int) =>
  M.bind (rosettaref34_State_text_L0 n a0 x1 0) fun x2 =>
  M.bind (nn a0) fun x3 =>
  M.bind (ldL (li) (x3.plus 1)) fun (x4 : Int) =>
  if decide (x4 = x1) then
    M.bind (rosettaref34_State_next n a0) fun x5 =>
    M.bind (rosettaref34_State_fail n a0 4 x1) fun x6 =>
    M.pure (ofBytes [])
  else
    M.bind (nn a0) fun x5 =>
    M.bind (ldL .str (x5.plus 0)) fun (x6 : ByteArray) =>
    M.bind (idxS x6 x1) fun x7 =>
    if decide ((↑x7.toNat : Int) = 48) then
      M.bind (nn a0) fun x8 =>
      M.bind (ldL (li) (x8.plus 1)) fun (x9 : Int) =>
      if decide (IntKind.i64.wrap (x1 + 1) < x9) then
        M.bind (rosettaref34_State_fail n a0 12 x1) fun x10 =>
        M.pure (ofBytes [])
      else
        rosettaref34_State_text_J0 n a0 x2
    else
      rosettaref34_State_text_J0 n a0 x2
def rosettaref34_State_text_ct (n : Nat) : List Ent := [⟨13, [.one (.ptr), .one (.int .i64), .one (.int .i64)], [], fun x => rosettaref34_State_fail n (x.1) (x.2.1) (x.2.2)⟩,
  ⟨20, [.one (.ptr)], [.one (.int .u8)], fun x => rosettaref34_State_next n (x)⟩]
def rosettaref34_State_text_dr (i : Nat) : Option (List (Nat × List Nat)) := cond (Nat.beq i 3) (some [(0, []), (1, []), (2, []), (4, []), (5, []), (6, []), (3, []), (7, []), (8, []), (9, []), (10, []), (11, []), (12, []), (13, []), (15, []), (16, []), (17, []), (14, []), (18, []), (19, []), (20, []), (21, []), (22, []), (23, []), (24, []), (25, []), (27, []), (28, []), (29, []), (26, []), (30, []), (31, []), (32, []), (33, [])]) (cond (Nat.beq i 4) (some [(0, []), (1, []), (2, []), (3, []), (4, []), (6, []), (7, []), (8, []), (5, []), (9, []), (10, []), (11, []), (12, []), (13, []), (14, []), (15, [])]) (cond (Nat.beq i 17) (some [(0, []), (1, []), (2, []), (3, []), (6, []), (7, []), (8, []), (4, []), (5, []), (9, []), (10, []), (11, [])]) (cond (Nat.beq i 21) (some [(0, []), (1, []), (2, []), (4, []), (5, []), (6, []), (8, []), (10, []), (11, []), (12, []), (3, []), (7, []), (9, []), (13, []), (14, []), (15, [])]) (none))))
def rosettaref34_State_text_L0_lt (n : Nat) : List LEnt := []
def rosettaref34_State_text_L0_jt1 (n : Nat) : List (JEnt (Int)) := []
def rosettaref34_State_text_L0_jt0 (n : Nat) : List (JEnt (Int)) := ⟨[0, 0, 1, 0, 0, 0, 1, 1, 1], [.code [1, 0, 1, 0, 0, 0, 1, 1, 1], .blk 1], [(0, .one (.ptr)), (3, .one (.int .i64)), (4, .one (.int .i64))], fun x => rosettaref34_State_text_L0_J0 n (x.1) (x.2.1) (x.2.2)⟩ :: rosettaref34_State_text_L0_jt1 n
def rosettaref34_State_text_lt (n : Nat) : List LEnt := [⟨[0, 0, 1, 1, 1], [(0, .one (.ptr)), (3, .one (.int .i64)), (4, .one (.int .i64))], actL1 [(0, .one (.ptr)), (3, .one (.int .i64)), (4, .one (.int .i64))] [(4, .one (.int .i64))] [4, 9, 10, 11, 12, 13, 14, 15, 16, 17, 18, 19, 20, 21, 22, 23, 24, 25, 26, 27, 28, 29, 30, 31, 32, 33, 34, 35, 36, 37, 38, 39, 40, 41, 42, 43, 44, 45, 46, 47, 48, 49, 50, 51, 52, 53, 54, 55, 56, 57, 58, 59, 60, 61, 62, 63, 64] 0 (fun x => rosettaref34_State_text_L0 n (x.1) (x.2.1) (x.2.2))⟩]
def rosettaref34_State_text_jt1 (n : Nat) : List (JEnt (ByteArray)) := []
def rosettaref34_State_text_jt0 (n : Nat) : List (JEnt (ByteArray)) := ⟨[0, 0, 1, 1, 1, 1, 1, 1], [.code [1, 0, 1, 1, 1, 1, 1, 1], .code [1, 1, 1, 1, 1, 1, 1]], [(0, .one (.ptr)), (4, .one (.int .i64))], fun x => rosettaref34_State_text_J0 n (x.1) (x.2)⟩ :: rosettaref34_State_text_jt1 n
theorem rosettaref34_State_text_L0_ok (n : Nat) {W : Wr} (hW : subW W 153 [4, 9, 10, 11, 12, 13, 14, 15, 16, 17, 18, 19, 20, 21, 22, 23, 24, 25, 26, 27, 28, 29, 30, 31, 32, 33, 34, 35, 36, 37, 38, 39, 40, 41, 42, 43, 44, 45, 46, 47, 48, 49, 50, 51, 52, 53, 54, 55, 56, 57, 58, 59, 60, 61, 62, 63, 64] = true) : LEntOK Tryd.prog (bodyOf Tryd.f24) W ⟨[0, 0, 1, 1, 1], [(0, .one (.ptr)), (3, .one (.int .i64)), (4, .one (.int .i64))], actL1 [(0, .one (.ptr)), (3, .one (.int .i64)), (4, .one (.int .i64))] [(4, .one (.int .i64))] [4, 9, 10, 11, 12, 13, 14, 15, 16, 17, 18, 19, 20, 21, 22, 23, 24, 25, 26, 27, 28, 29, 30, 31, 32, 33, 34, 35, 36, 37, 38, 39, 40, 41, 42, 43, 44, 45, 46, 47, 48, 49, 50, 51, 52, 53, 54, 55, 56, 57, 58, 59, 60, 61, 62, 63, 64] 0 (fun x => rosettaref34_State_text_L0 n (x.1) (x.2.1) (x.2.2))⟩ :=
  loop1_ok (P := Tryd.prog) (body := (bodyOf Tryd.f24)) (c := child (codeAt (bodyOf Tryd.f24) [0, 0, 1, 1, 1]) 0) (p := [0, 0, 1, 1, 1]) (ls := [(0, .one (.ptr)), (3, .one (.int .i64)), (4, .one (.int .i64))]) (ms := [(4, .one (.int .i64))]) (id := 0) (nt := 153) (ws := [4, 9, 10, 11, 12, 13, 14, 15, 16, 17, 18, 19, 20, 21, 22, 23, 24, 25, 26, 27, 28, 29, 30, 31, 32, 33, 34, 35, 36, 37, 38, 39, 40, 41, 42, 43, 44, 45, 46, 47, 48, 49, 50, 51, 52, 53, 54, 55, 56, 57, 58, 59, 60, 61, 62, 63, 64]) (N := 400) (G := (fun n x => rosettaref34_State_text_L0 n (x.1) (x.2.1) (x.2.2))) (T := fun n => ⟨lookC (rosettaref34_State_text_ct n), lookL (rosettaref34_State_text_L0_lt n), lookJ (rosettaref34_State_text_L0_jt0 n), rosettaref34_State_text_dr⟩)
    (by kernel_rfl) (fun _ => by kernel_rfl) (fun n x => by kernel_rfl) n (fun m hm => (tabs_ok (P := Tryd.prog) (body := (bodyOf Tryd.f24)) (W := (153, some [4, 9, 10, 11, 12, 13, 14, 15, 16, 17, 18, 19, 20, 21, 22, 23, 24, 25, 26, 27, 28, 29, 30, 31, 32, 33, 34, 35, 36, 37, 38, 39, 40, 41, 42, 43, 44, 45, 46, 47, 48, 49, 50, 51, 52, 53, 54, 55, 56, 57, 58, 59, 60, 61, 62, 63, 64])) (cl := rosettaref34_State_text_ct m) (ll := rosettaref34_State_text_L0_lt m) (dr := rosettaref34_State_text_dr) (fin := (finL1 [(0, .one (.ptr)), (3, .one (.int .i64)), (4, .one (.int .i64))] [(4, .one (.int .i64))] 0 (fun x => rosettaref34_State_text_L0 m (x.1) (x.2.1) (x.2.2)))) (N := 400) (js := rosettaref34_State_text_L0_jt0 m) (AllOK.cons (rosettaref34_State_fail_ok m) (AllOK.cons (rosettaref34_State_next_ok m) AllOK.nil)) AllL.nil (AllJ.cons (fun x => by kernel_rfl) AllJ.nil))) hW
theorem rosettaref34_State_text_ok (n : Nat) : FnOK Tryd.prog ⟨24, [.one (.ptr)], [.one (.str)], fun x => rosettaref34_State_text n (x)⟩ :=
  fn_ok (P := Tryd.prog) (e := ⟨24, [.one (.ptr)], [.one (.str)], fun x => rosettaref34_State_text n (x)⟩) (fn := Tryd.f24) (c := (bodyOf Tryd.f24)) (T := ⟨lookC (rosettaref34_State_text_ct n), lookL (rosettaref34_State_text_lt n), lookJ (rosettaref34_State_text_jt0 n), rosettaref34_State_text_dr⟩) (N := 400) (ps := [(0, .one (.ptr))])
    (by kernel_rfl) (by kernel_rfl) (by kernel_rfl) (by kernel_rfl) (by kernel_rfl) (tabs_ok (P := Tryd.prog) (body := (bodyOf Tryd.f24)) (W := (153, none)) (cl := rosettaref34_State_text_ct n) (ll := rosettaref34_State_text_lt n) (dr := rosettaref34_State_text_dr) (fin := (finF Tryd.prog Tryd.f24 [.one (.str)])) (N := 400) (js := rosettaref34_State_text_jt0 n) (AllOK.cons (rosettaref34_State_fail_ok n) (AllOK.cons (rosettaref34_State_next_ok n) AllOK.nil)) (AllL.cons (rosettaref34_State_text_L0_ok n (by kernel_rfl)) AllL.nil) (AllJ.cons (fun x => by kernel_rfl) AllJ.nil)) (fun x => by kernel_rfl)
def rosettaref01_begins_L1_B (G : Int → Int → Int → Int → Int → Int → M (Int × Int)) (n : Nat) (a0 : Int) (a1 : Int) (a2 : Int) (a3 : Int) (a4 : Int) (a5 : Int) : M (Int × Int) :=
  if decide (a5 < a0) then
    G a0 a1 a2 (IntKind.i64.wrap (64 * a3)) (IntKind.i64.wrap (IntKind.i64.wrap (64 * a4) + 63)) (IntKind.i64.wrap (a5 + 1))
  else
    M.pure (a3, a4)
def rosettaref01_begins_L1 : Nat → Int → Int → Int → Int → Int → Int → M (Int × Int)
  | 0 => fun _ _ _ _ _ _ => M.fail
  | n + 1 => rosettaref01_begins_L1_B (rosettaref01_begins_L1 n) n
theorem rosettaref01_begins_L1_succ (n : Nat) : rosettaref01_begins_L1 (n + 1) = rosettaref01_begins_L1_B (rosettaref01_begins_L1 n) n := rfl
def rosettaref01_begins_L0_J0_B (G : Sl → Int → Int → Int → Int → Int → M ((Int) ⊕ (Int × Int))) (n : Nat) (a0 : Sl) (a1 : Int) (a2 : Int) (a3 : Int) (a4 : Int) (a5 : Int) : M ((Int) ⊕ (Int × Int)) :=
  M.bind (idxA a0 a5 1) fun x0 =>
  M.bind (ldL (.int IntKind.u8) x0) fun (x1 : Int) =>
  G a0 a1 (IntKind.i64.wrap (IntKind.i64.wrap (IntKind.i64.wrap (64 * a2) + IntKind.i64.wrap x1) - 128)) a3 a4 (IntKind.i64.wrap (a5 + 1))
def rosettaref01_begins_L0_B (G : Sl → Int → Int → Int → Int → Int → M ((Int) ⊕ (Int × Int))) (n : Nat) (a0 : Sl) (a1 : Int) (a2 : Int) (a3 : Int) (a4 : Int) (a5 : Int) : M ((Int) ⊕ (Int × Int)) :=
  if decide (a5 < (↑a0.len : Int)) then
    M.bind (idxA a0 a5 1) fun x0 =>
    M.bind (ldL (.int IntKind.u8) x0) fun (x1 : Int) =>
    if decide (x1 < 128) then
      M.pure (Sum.inr (0, 0))
    else
      M.bind (idxA a0 a5 1) fun x2 =>
      M.bind (ldL (.int IntKind.u8) x2) fun (x3 : Int) =>
      if decide (191 < x3) then
        M.pure (Sum.inr (0, 0))
      else
        rosettaref01_begins_L0_J0_B G n a0 a1 a2 a3 a4 a5
  else
    M.pure (Sum.inl a2)
def rosettaref01_begins_L0 : Nat → Sl → Int → Int → Int → Int → Int → M ((Int) ⊕ (Int × Int))
  | 0 => fun _ _ _ _ _ _ => M.fail
  | n + 1 => rosettaref01_begins_L0_B (rosettaref01_begins_L0 n) n
theorem rosettaref01_begins_L0_succ (n : Nat) : rosettaref01_begins_L0 (n + 1) = rosettaref01_begins_L0_B (rosettaref01_begins_L0 n) n := rfl
def rosettaref01_begins_L0_J0 (n : Nat) (a0 : Sl) (a1 : Int) (a2 : Int) (a3 : Int) (a4 : Int) (a5 : Int) : M ((Int) ⊕ (Int × Int)) := rosettaref01_begins_L0_J0_B (rosettaref01_begins_L0 n) n a0 a1 a2 a3 a4 a5
def rosettaref01_begins_J3 (n : Nat) (a0 : Sl) (a1 : Int) (a2 : Int) (a3 : Int) (a4 : Int) : M (Int × Int) :=
  if decide (a1 < (↑a0.len : Int)) then
    M.pure (0, 0)
  else
    M.bind (rosettaref01_begins_L0 n a0 a1 a2 a3 a4 1) (sumElim (fun x0 =>
      M.bind (rosettaref01_begins_L1 n a1 a3 a4 x0 x0 (↑a0.len : Int)) fun x1 =>
      if decide (x1.2 < a3) then
        M.pure (0, 0)
      else
        if decide (a4 < x1.1) then
          M.pure (0, 0)
        else
          if decide (55296 ≤ x1.1) then
            if decide (x1.2 ≤ 57343) then
              M.pure (0, 0)
            else
              M.pure (x1.1, a1)
          else
            M.pure (x1.1, a1))
    (fun x0 =>
      M.pure (x0.1, x0.2)))
def rosettaref01_begins_J2 (n : Nat) (a0 : Sl) (a1 : Int) (a2 : Int) (a3 : Int) (a4 : Int) (a5 : Int) : M (Int × Int) :=
  if decide (240 ≤ a1) then
    if decide (a1 < 248) then
      rosettaref01_begins_J3 n a0 4 (IntKind.i64.wrap (a1 - 240)) 65536 1114111
    else
      rosettaref01_begins_J3 n a0 a2 a3 a4 a5
  else
    rosettaref01_begins_J3 n a0 a2 a3 a4 a5
def rosettaref01_begins_J1 (n : Nat) (a0 : Sl) (a1 : Int) (a2 : Int) (a3 : Int) (a4 : Int) (a5 : Int) : M (Int × Int) :=
  if decide (224 ≤ a1) then
    if decide (a1 < 240) then
      rosettaref01_begins_J2 n a0 a1 3 (IntKind.i64.wrap (a1 - 224)) 2048 65535
    else
      rosettaref01_begins_J2 n a0 a1 a2 a3 a4 a5
  else
    rosettaref01_begins_J2 n a0 a1 a2 a3 a4 a5
def rosettaref01_begins_J0 (n : Nat) (a0 : Sl) (a1 : Int) (a2 : Int) (a3 : Int) (a4 : Int) (a5 : Int) : M (Int × Int) :=
  if decide (192 ≤ a1) then
    if decide (a1 < 224) then
      rosettaref01_begins_J1 n a0 a1 2 (IntKind.i64.wrap (a1 - 192)) 128 2047
    else
      rosettaref01_begins_J1 n a0 a1 a2 a3 a4 a5
  else
    rosettaref01_begins_J1 n a0 a1 a2 a3 a4 a5
def rosettaref01_begins (n : Nat) (a0 : Sl) : M (Int × Int) :=
  M.bind (idxA a0 0 1) fun x0 =>
  M.bind (ldL (.int IntKind.u8) x0) fun (x1 : Int) =>
  if decide (IntKind.i64.wrap x1 < 128) then
    if decide ((↑a0.len : Int) = 1) then
      M.pure (IntKind.i64.wrap x1, 1)
    else
      rosettaref01_begins_J0 n a0 (IntKind.i64.wrap x1) 0 0 0 0
  else
    rosettaref01_begins_J0 n a0 (IntKind.i64.wrap x1) 0 0 0 0
def rosettaref01_begins_ct (n : Nat) : List Ent := []
def rosettaref01_begins_dr (i : Nat) : Option (List (Nat × List Nat)) := none
def rosettaref01_begins_L1_lt (n : Nat) : List LEnt := []
def rosettaref01_begins_L1_jt0 (n : Nat) : List (JEnt (Int × Int)) := []
def rosettaref01_begins_L0_lt (n : Nat) : List LEnt := []
def rosettaref01_begins_L0_jt1 (n : Nat) : List (JEnt ((Int) ⊕ (Int × Int))) := []
def rosettaref01_begins_L0_jt0 (n : Nat) : List (JEnt ((Int) ⊕ (Int × Int))) := ⟨[1, 0, 0, 1, 0, 0, 1, 0, 1, 1, 1, 1, 1, 1, 1, 1], [.blk 1, .code [1, 1, 0, 0, 1, 0, 1, 1, 1, 1, 1, 1, 1, 1]], [(0, .one (.sl)), (5, .one (.int .i64)), (6, .one (.int .i64)), (7, .one (.int .i64)), (8, .one (.int .i64)), (9, .one (.int .i64))], fun x => rosettaref01_begins_L0_J0 n (x.1) (x.2.1) (x.2.2.1) (x.2.2.2.1) (x.2.2.2.2.1) (x.2.2.2.2.2)⟩ :: rosettaref01_begins_L0_jt1 n
def rosettaref01_begins_lt (n : Nat) : List LEnt := [⟨[0, 1, 0, 1, 1, 1, 1, 1, 1, 1, 1], [(0, .one (.sl)), (5, .one (.int .i64)), (6, .one (.int .i64)), (7, .one (.int .i64)), (8, .one (.int .i64)), (9, .one (.int .i64))], actL2 [(0, .one (.sl)), (5, .one (.int .i64)), (6, .one (.int .i64)), (7, .one (.int .i64)), (8, .one (.int .i64)), (9, .one (.int .i64))] [(6, .one (.int .i64))] [(2, .one (.int .i64)), (3, .one (.int .i64))] [2, 3, 6, 9, 53, 54, 55, 56, 57, 58, 59, 60, 61, 62, 63, 64, 65, 66, 67, 68, 69, 70, 71, 72, 73, 74, 75, 76, 77, 78, 79] 0 .ret (fun x => rosettaref01_begins_L0 n (x.1) (x.2.1) (x.2.2.1) (x.2.2.2.1) (x.2.2.2.2.1) (x.2.2.2.2.2))⟩,
  ⟨[0, 1, 0, 1, 1, 1, 1, 1, 1, 1, 1, 1, 1], [(5, .one (.int .i64)), (7, .one (.int .i64)), (8, .one (.int .i64)), (10, .one (.int .i64)), (11, .one (.int .i64)), (12, .one (.int .i64))], actL1 [(5, .one (.int .i64)), (7, .one (.int .i64)), (8, .one (.int .i64)), (10, .one (.int .i64)), (11, .one (.int .i64)), (12, .one (.int .i64))] [(10, .one (.int .i64)), (11, .one (.int .i64))] [10, 11, 12, 84, 85, 86, 87, 88, 89, 90, 91, 92, 93] 2 (fun x => rosettaref01_begins_L1 n (x.1) (x.2.1) (x.2.2.1) (x.2.2.2.1) (x.2.2.2.2.1) (x.2.2.2.2.2))⟩]
def rosettaref01_begins_jt4 (n : Nat) : List (JEnt (Int × Int)) := []
def rosettaref01_begins_jt3 (n : Nat) : List (JEnt (Int × Int)) := ⟨[0, 0, 1, 1, 1, 1, 1, 1, 1], [.code [1, 0, 1, 1, 1, 1, 1, 1, 1], .code [1, 1, 1, 1, 1, 1, 1, 1]], [(0, .one (.sl)), (5, .one (.int .i64)), (6, .one (.int .i64)), (7, .one (.int .i64)), (8, .one (.int .i64))], fun x => rosettaref01_begins_J3 n (x.1) (x.2.1) (x.2.2.1) (x.2.2.2.1) (x.2.2.2.2)⟩ :: rosettaref01_begins_jt4 n
def rosettaref01_begins_jt2 (n : Nat) : List (JEnt (Int × Int)) := ⟨[0, 0, 1, 1, 1, 1, 1, 1], [.code [1, 0, 1, 1, 1, 1, 1, 1], .code [1, 1, 1, 1, 1, 1, 1]], [(0, .one (.sl)), (4, .one (.int .i64)), (5, .one (.int .i64)), (6, .one (.int .i64)), (7, .one (.int .i64)), (8, .one (.int .i64))], fun x => rosettaref01_begins_J2 n (x.1) (x.2.1) (x.2.2.1) (x.2.2.2.1) (x.2.2.2.2.1) (x.2.2.2.2.2)⟩ :: rosettaref01_begins_jt3 n
def rosettaref01_begins_jt1 (n : Nat) : List (JEnt (Int × Int)) := ⟨[0, 0, 1, 1, 1, 1, 1], [.code [1, 0, 1, 1, 1, 1, 1], .code [1, 1, 1, 1, 1, 1]], [(0, .one (.sl)), (4, .one (.int .i64)), (5, .one (.int .i64)), (6, .one (.int .i64)), (7, .one (.int .i64)), (8, .one (.int .i64))], fun x => rosettaref01_begins_J1 n (x.1) (x.2.1) (x.2.2.1) (x.2.2.2.1) (x.2.2.2.2.1) (x.2.2.2.2.2)⟩ :: rosettaref01_begins_jt2 n
def rosettaref01_begins_jt0 (n : Nat) : List (JEnt (Int × Int)) := ⟨[0, 0, 1, 1, 1, 1], [.code [1, 0, 1, 1, 1, 1], .code [1, 1, 1, 1, 1]], [(0, .one (.sl)), (4, .one (.int .i64)), (5, .one (.int .i64)), (6, .one (.int .i64)), (7, .one (.int .i64)), (8, .one (.int .i64))], fun x => rosettaref01_begins_J0 n (x.1) (x.2.1) (x.2.2.1) (x.2.2.2.1) (x.2.2.2.2.1) (x.2.2.2.2.2)⟩ :: rosettaref01_begins_jt1 n
theorem rosettaref01_begins_L1_ok (n : Nat) {W : Wr} (hW : subW W 112 [10, 11, 12, 84, 85, 86, 87, 88, 89, 90, 91, 92, 93] = true) : LEntOK Tryd.prog (bodyOf Tryd.f45) W ⟨[0, 1, 0, 1, 1, 1, 1, 1, 1, 1, 1, 1, 1], [(5, .one (.int .i64)), (7, .one (.int .i64)), (8, .one (.int .i64)), (10, .one (.int .i64)), (11, .one (.int .i64)), (12, .one (.int .i64))], actL1 [(5, .one (.int .i64)), (7, .one (.int .i64)), (8, .one (.int .i64)), (10, .one (.int .i64)), (11, .one (.int .i64)), (12, .one (.int .i64))] [(10, .one (.int .i64)), (11, .one (.int .i64))] [10, 11, 12, 84, 85, 86, 87, 88, 89, 90, 91, 92, 93] 2 (fun x => rosettaref01_begins_L1 n (x.1) (x.2.1) (x.2.2.1) (x.2.2.2.1) (x.2.2.2.2.1) (x.2.2.2.2.2))⟩ :=
  loop1_ok (P := Tryd.prog) (body := (bodyOf Tryd.f45)) (c := child (codeAt (bodyOf Tryd.f45) [0, 1, 0, 1, 1, 1, 1, 1, 1, 1, 1, 1, 1]) 0) (p := [0, 1, 0, 1, 1, 1, 1, 1, 1, 1, 1, 1, 1]) (ls := [(5, .one (.int .i64)), (7, .one (.int .i64)), (8, .one (.int .i64)), (10, .one (.int .i64)), (11, .one (.int .i64)), (12, .one (.int .i64))]) (ms := [(10, .one (.int .i64)), (11, .one (.int .i64))]) (id := 2) (nt := 112) (ws := [10, 11, 12, 84, 85, 86, 87, 88, 89, 90, 91, 92, 93]) (N := 400) (G := (fun n x => rosettaref01_begins_L1 n (x.1) (x.2.1) (x.2.2.1) (x.2.2.2.1) (x.2.2.2.2.1) (x.2.2.2.2.2))) (T := fun n => ⟨lookC (rosettaref01_begins_ct n), lookL (rosettaref01_begins_L1_lt n), lookJ (rosettaref01_begins_L1_jt0 n), rosettaref01_begins_dr⟩)
    (by kernel_rfl) (fun _ => by kernel_rfl) (fun n x => by kernel_rfl) n (fun m hm => (tabs_ok (P := Tryd.prog) (body := (bodyOf Tryd.f45)) (W := (112, some [10, 11, 12, 84, 85, 86, 87, 88, 89, 90, 91, 92, 93])) (cl := rosettaref01_begins_ct m) (ll := rosettaref01_begins_L1_lt m) (dr := rosettaref01_begins_dr) (fin := (finL1 [(5, .one (.int .i64)), (7, .one (.int .i64)), (8, .one (.int .i64)), (10, .one (.int .i64)), (11, .one (.int .i64)), (12, .one (.int .i64))] [(10, .one (.int .i64)), (11, .one (.int .i64))] 2 (fun x => rosettaref01_begins_L1 m (x.1) (x.2.1) (x.2.2.1) (x.2.2.2.1) (x.2.2.2.2.1) (x.2.2.2.2.2)))) (N := 400) (js := rosettaref01_begins_L1_jt0 m) AllOK.nil AllL.nil AllJ.nil)) hW
theorem rosettaref01_begins_L0_ok (n : Nat) {W : Wr} (hW : subW W 112 [2, 3, 6, 9, 53, 54, 55, 56, 57, 58, 59, 60, 61, 62, 63, 64, 65, 66, 67, 68, 69, 70, 71, 72, 73, 74, 75, 76, 77, 78, 79] = true) : LEntOK Tryd.prog (bodyOf Tryd.f45) W ⟨[0, 1, 0, 1, 1, 1, 1, 1, 1, 1, 1], [(0, .one (.sl)), (5, .one (.int .i64)), (6, .one (.int .i64)), (7, .one (.int .i64)), (8, .one (.int .i64)), (9, .one (.int .i64))], actL2 [(0, .one (.sl)), (5, .one (.int .i64)), (6, .one (.int .i64)), (7, .one (.int .i64)), (8, .one (.int .i64)), (9, .one (.int .i64))] [(6, .one (.int .i64))] [(2, .one (.int .i64)), (3, .one (.int .i64))] [2, 3, 6, 9, 53, 54, 55, 56, 57, 58, 59, 60, 61, 62, 63, 64, 65, 66, 67, 68, 69, 70, 71, 72, 73, 74, 75, 76, 77, 78, 79] 0 .ret (fun x => rosettaref01_begins_L0 n (x.1) (x.2.1) (x.2.2.1) (x.2.2.2.1) (x.2.2.2.2.1) (x.2.2.2.2.2))⟩ :=
  loop2_ok (P := Tryd.prog) (body := (bodyOf Tryd.f45)) (c := child (codeAt (bodyOf Tryd.f45) [0, 1, 0, 1, 1, 1, 1, 1, 1, 1, 1]) 0) (p := [0, 1, 0, 1, 1, 1, 1, 1, 1, 1, 1]) (ls := [(0, .one (.sl)), (5, .one (.int .i64)), (6, .one (.int .i64)), (7, .one (.int .i64)), (8, .one (.int .i64)), (9, .one (.int .i64))]) (ms := [(6, .one (.int .i64))]) (rs := [(2, .one (.int .i64)), (3, .one (.int .i64))]) (id := 0) (e2 := .ret) (nt := 112) (ws := [2, 3, 6, 9, 53, 54, 55, 56, 57, 58, 59, 60, 61, 62, 63, 64, 65, 66, 67, 68, 69, 70, 71, 72, 73, 74, 75, 76, 77, 78, 79]) (N := 400) (G := (fun n x => rosettaref01_begins_L0 n (x.1) (x.2.1) (x.2.2.1) (x.2.2.2.1) (x.2.2.2.2.1) (x.2.2.2.2.2))) (T := fun n => ⟨lookC (rosettaref01_begins_ct n), lookL (rosettaref01_begins_L0_lt n), lookJ (rosettaref01_begins_L0_jt0 n), rosettaref01_begins_dr⟩)
    (by kernel_rfl) (fun _ => by kernel_rfl) (fun n x => by kernel_rfl) n (fun m hm => (tabs_ok (P := Tryd.prog) (body := (bodyOf Tryd.f45)) (W := (112, some [2, 3, 6, 9, 53, 54, 55, 56, 57, 58, 59, 60, 61, 62, 63, 64, 65, 66, 67, 68, 69, 70, 71, 72, 73, 74, 75, 76, 77, 78, 79])) (cl := rosettaref01_begins_ct m) (ll := rosettaref01_begins_L0_lt m) (dr := rosettaref01_begins_dr) (fin := (finL2 [(0, .one (.sl)), (5, .one (.int .i64)), (6, .one (.int .i64)), (7, .one (.int .i64)), (8, .one (.int .i64)), (9, .one (.int .i64))] [(6, .one (.int .i64))] [(2, .one (.int .i64)), (3, .one (.int .i64))] 0 .ret (fun x => rosettaref01_begins_L0 m (x.1) (x.2.1) (x.2.2.1) (x.2.2.2.1) (x.2.2.2.2.1) (x.2.2.2.2.2)))) (N := 400) (js := rosettaref01_begins_L0_jt0 m) AllOK.nil AllL.nil (AllJ.cons (fun x => by kernel_rfl) AllJ.nil))) hW
theorem rosettaref01_begins_ok (n : Nat) : FnOK Tryd.prog ⟨45, [.one (.sl)], [.one (.int .i64), .one (.int .i64)], fun x => rosettaref01_begins n (x)⟩ :=
  fn_ok (P := Tryd.prog) (e := ⟨45, [.one (.sl)], [.one (.int .i64), .one (.int .i64)], fun x => rosettaref01_begins n (x)⟩) (fn := Tryd.f45) (c := (bodyOf Tryd.f45)) (T := ⟨lookC (rosettaref01_begins_ct n), lookL (rosettaref01_begins_lt n), lookJ (rosettaref01_begins_jt0 n), rosettaref01_begins_dr⟩) (N := 400) (ps := [(0, .one (.sl))])
    (by kernel_rfl) (by kernel_rfl) (by kernel_rfl) (by kernel_rfl) (by kernel_rfl) (tabs_ok (P := Tryd.prog) (body := (bodyOf Tryd.f45)) (W := (112, none)) (cl := rosettaref01_begins_ct n) (ll := rosettaref01_begins_lt n) (dr := rosettaref01_begins_dr) (fin := (finF Tryd.prog Tryd.f45 [.one (.int .i64), .one (.int .i64)])) (N := 400) (js := rosettaref01_begins_jt0 n) AllOK.nil (AllL.cons (rosettaref01_begins_L0_ok n (by kernel_rfl)) (AllL.cons (rosettaref01_begins_L1_ok n (by kernel_rfl)) AllL.nil)) (AllJ.cons (fun x => by kernel_rfl) (AllJ.cons (fun x => by kernel_rfl) (AllJ.cons (fun x => by kernel_rfl) (AllJ.cons (fun x => by kernel_rfl) AllJ.nil))))) (fun x => by kernel_rfl)
def rosettaref01_At_L0_J0_B (G : Int → Sl → Int → M ((Unit) ⊕ (Int × Int))) (n : Nat) (a0 : Int) (a1 : Sl) (a2 : Int) : M ((Unit) ⊕ (Int × Int)) :=
  M.bind (sliceL a1 a0 (IntKind.i64.wrap (a0 + a2)) T_u8 1) fun x0 =>
  M.bind (rosettaref01_begins n x0) fun x1 =>
  if decide (x1.2 = a2) then
    M.pure (Sum.inr (x1.1, x1.2))
  else
    G a0 a1 (IntKind.i64.wrap (a2 + 1))
def rosettaref01_At_L0_B (G : Int → Sl → Int → M ((Unit) ⊕ (Int × Int))) (n : Nat) (a0 : Int) (a1 : Sl) (a2 : Int) : M ((Unit) ⊕ (Int × Int)) :=
  if decide (a2 ≤ 4) then
    if decide (IntKind.i64.wrap (a0 + a2) ≤ (↑a1.len : Int)) then
      rosettaref01_At_L0_J0_B G n a0 a1 a2
    else
      M.pure (Sum.inl ())
  else
    M.pure (Sum.inl ())
def rosettaref01_At_L0 : Nat → Int → Sl → Int → M ((Unit) ⊕ (Int × Int))
  | 0 => fun _ _ _ => M.fail
  | n + 1 => rosettaref01_At_L0_B (rosettaref01_At_L0 n) n
theorem rosettaref01_At_L0_succ (n : Nat) : rosettaref01_At_L0 (n + 1) = rosettaref01_At_L0_B (rosettaref01_At_L0 n) n := rfl
def rosettaref01_At_L0_J0 (n : Nat) (a0 : Int) (a1 : Sl) (a2 : Int) : M ((Unit) ⊕ (Int × Int)) := rosettaref01_At_L0_J0_B (rosettaref01_At_L0 n) n a0 a1 a2
def rosettaref01_At (n : Nat) (a0 : ByteArray) (a1 : Int) : M (Int × Int) :=
  M.bind (bytesNew T_u8 a0) fun x0 =>
  M.bind (rosettaref01_At_L0 n a1 x0 1) (sumElim (fun x1 =>
    M.pure (0, 0))
  (fun x1 =>
    M.pure (x1.1, x1.2)))
def rosettaref01_At_ct (n : Nat) : List Ent := [⟨45, [.one (.sl)], [.one (.int .i64), .one (.int .i64)], fun x => rosettaref01_begins n (x)⟩]
def rosettaref01_At_dr (i : Nat) : Option (List (Nat × List Nat)) := none
def rosettaref01_At_L0_lt (n : Nat) : List LEnt := []
def rosettaref01_At_L0_jt1 (n : Nat) : List (JEnt ((Unit) ⊕ (Int × Int))) := []
def rosettaref01_At_L0_jt0 (n : Nat) : List (JEnt ((Unit) ⊕ (Int × Int))) := ⟨[0, 0, 0, 1, 0, 0, 1, 0, 1, 1], [.code [1, 0, 0, 1, 0, 0, 1, 0, 1, 1], .blk 1, .code [1, 1, 0, 0, 1, 0, 1, 1]], [(1, .one (.int .i64)), (6, .one (.sl)), (7, .one (.int .i64))], fun x => rosettaref01_At_L0_J0 n (x.1) (x.2.1) (x.2.2)⟩ :: rosettaref01_At_L0_jt1 n
def rosettaref01_At_lt (n : Nat) : List LEnt := [⟨[0, 1, 0, 1, 1], [(1, .one (.int .i64)), (6, .one (.sl)), (7, .one (.int .i64))], actL2 [(1, .one (.int .i64)), (6, .one (.sl)), (7, .one (.int .i64))] [] [(4, .one (.int .i64)), (5, .one (.int .i64))] [4, 5, 7, 8, 9, 12, 13, 14, 15, 16, 17, 18, 19, 20, 21, 22, 23, 24, 25, 26, 27, 28, 29, 30, 31, 32, 33, 34, 35, 36, 37, 38] 0 .ret (fun x => rosettaref01_At_L0 n (x.1) (x.2.1) (x.2.2))⟩]
def rosettaref01_At_jt0 (n : Nat) : List (JEnt (Int × Int)) := []
theorem rosettaref01_At_L0_ok (n : Nat) {W : Wr} (hW : subW W 39 [4, 5, 7, 8, 9, 12, 13, 14, 15, 16, 17, 18, 19, 20, 21, 22, 23, 24, 25, 26, 27, 28, 29, 30, 31, 32, 33, 34, 35, 36, 37, 38] = true) : LEntOK Tryd.prog (bodyOf Tryd.f39) W ⟨[0, 1, 0, 1, 1], [(1, .one (.int .i64)), (6, .one (.sl)), (7, .one (.int .i64))], actL2 [(1, .one (.int .i64)), (6, .one (.sl)), (7, .one (.int .i64))] [] [(4, .one (.int .i64)), (5, .one (.int .i64))] [4, 5, 7, 8, 9, 12, 13, 14, 15, 16, 17, 18, 19, 20, 21, 22, 23, 24, 25, 26, 27, 28, 29, 30, 31, 32, 33, 34, 35, 36, 37, 38] 0 .ret (fun x => rosettaref01_At_L0 n (x.1) (x.2.1) (x.2.2))⟩ :=
  loop2_ok (P := Tryd.prog) (body := (bodyOf Tryd.f39)) (c := child (codeAt (bodyOf Tryd.f39) [0, 1, 0, 1, 1]) 0) (p := [0, 1, 0, 1, 1]) (ls := [(1, .one (.int .i64)), (6, .one (.sl)), (7, .one (.int .i64))]) (ms := []) (rs := [(4, .one (.int .i64)), (5, .one (.int .i64))]) (id := 0) (e2 := .ret) (nt := 39) (ws := [4, 5, 7, 8, 9, 12, 13, 14, 15, 16, 17, 18, 19, 20, 21, 22, 23, 24, 25, 26, 27, 28, 29, 30, 31, 32, 33, 34, 35, 36, 37, 38]) (N := 400) (G := (fun n x => rosettaref01_At_L0 n (x.1) (x.2.1) (x.2.2))) (T := fun n => ⟨lookC (rosettaref01_At_ct n), lookL (rosettaref01_At_L0_lt n), lookJ (rosettaref01_At_L0_jt0 n), rosettaref01_At_dr⟩)
    (by kernel_rfl) (fun _ => by kernel_rfl) (fun n x => by kernel_rfl) n (fun m hm => (tabs_ok (P := Tryd.prog) (body := (bodyOf Tryd.f39)) (W := (39, some [4, 5, 7, 8, 9, 12, 13, 14, 15, 16, 17, 18, 19, 20, 21, 22, 23, 24, 25, 26, 27, 28, 29, 30, 31, 32, 33, 34, 35, 36, 37, 38])) (cl := rosettaref01_At_ct m) (ll := rosettaref01_At_L0_lt m) (dr := rosettaref01_At_dr) (fin := (finL2 [(1, .one (.int .i64)), (6, .one (.sl)), (7, .one (.int .i64))] [] [(4, .one (.int .i64)), (5, .one (.int .i64))] 0 .ret (fun x => rosettaref01_At_L0 m (x.1) (x.2.1) (x.2.2)))) (N := 400) (js := rosettaref01_At_L0_jt0 m) (AllOK.cons (rosettaref01_begins_ok m) AllOK.nil) AllL.nil (AllJ.cons (fun x => by kernel_rfl) AllJ.nil))) hW
theorem rosettaref01_At_ok (n : Nat) : FnOK Tryd.prog ⟨39, [.one (.str), .one (.int .i64)], [.one (.int .i64), .one (.int .i64)], fun x => rosettaref01_At n (x.1) (x.2)⟩ :=
  fn_ok (P := Tryd.prog) (e := ⟨39, [.one (.str), .one (.int .i64)], [.one (.int .i64), .one (.int .i64)], fun x => rosettaref01_At n (x.1) (x.2)⟩) (fn := Tryd.f39) (c := (bodyOf Tryd.f39)) (T := ⟨lookC (rosettaref01_At_ct n), lookL (rosettaref01_At_lt n), lookJ (rosettaref01_At_jt0 n), rosettaref01_At_dr⟩) (N := 400) (ps := [(0, .one (.str)), (1, .one (.int .i64))])
    (by kernel_rfl) (by kernel_rfl) (by kernel_rfl) (by kernel_rfl) (by kernel_rfl) (tabs_ok (P := Tryd.prog) (body := (bodyOf Tryd.f39)) (W := (39, none)) (cl := rosettaref01_At_ct n) (ll := rosettaref01_At_lt n) (dr := rosettaref01_At_dr) (fin := (finF Tryd.prog Tryd.f39 [.one (.int .i64), .one (.int .i64)])) (N := 400) (js := rosettaref01_At_jt0 n) (AllOK.cons (rosettaref01_begins_ok n) AllOK.nil) (AllL.cons (rosettaref01_At_L0_ok n (by kernel_rfl)) AllL.nil) AllJ.nil) (fun x => by kernel_rfl)
end Go.Sh
