/-
The shallow functions of this seat, part 0, and that each is sound; written by program. No theorem about what they compute stands here.
-/
import Derived.Test.YtlbigfjnapgioaaGreatDoorShLib
set_option maxRecDepth 100000
set_option maxHeartbeats 0
set_option linter.all false
namespace Go.Sh
open Go Go.Ago Go.Proofs
def bencode_parser_fail (n : Nat) (a0 : Option Addr) (a1 : Int) (a2 : Int) : M (Bool) :=
  M.bind (nn a0) fun x0 =>
  M.bind (ldL (li) (x0.plus 8)) fun (x1 : Int) =>
  if decide (x1 = 0) then
    M.bind (nn a0) fun x2 =>
    M.bind (stN (x2.plus 9) [vi a1]) fun x3 =>
    M.bind (nn a0) fun x4 =>
    M.bind (stN (x4.plus 8) [vi a2]) fun x5 =>
    M.pure false
  else
    M.pure false
def bencode_parser_fail_dt (n : Nat) : List DEnt := []
def bencode_parser_fail_ct (n : Nat) : List Ent := []
def bencode_parser_fail_dr (i : Nat) : Option (List (Nat × List Nat)) := none
def bencode_parser_fail_lt (n : Nat) : List LEnt := []
def bencode_parser_fail_jt0 (n : Nat) : List (JEnt (Bool)) := []
theorem bencode_parser_fail_ok (n : Nat) : FnOK Tryz.prog ⟨20, [.one (.ptr), .one (.int .i64), .one (.int .i64)], [.one (.bool)], fun x => bencode_parser_fail n (x.1) (x.2.1) (x.2.2)⟩ :=
  fn_ok (P := Tryz.prog) (e := ⟨20, [.one (.ptr), .one (.int .i64), .one (.int .i64)], [.one (.bool)], fun x => bencode_parser_fail n (x.1) (x.2.1) (x.2.2)⟩) (fn := Tryz.f20) (c := (bodyOf Tryz.f20)) (T := ⟨lookC (bencode_parser_fail_ct n) (bencode_parser_fail_dt n), lookL (bencode_parser_fail_lt n), lookJ (bencode_parser_fail_jt0 n), bencode_parser_fail_dr⟩) (N := 400) (ps := [(0, .one (.ptr)), (1, .one (.int .i64)), (2, .one (.int .i64))])
    (by kernel_rfl) (by kernel_rfl) (by kernel_rfl) (by kernel_rfl) (by kernel_rfl) (tabs_ok (P := Tryz.prog) (body := (bodyOf Tryz.f20)) (W := (20, none)) (cl := bencode_parser_fail_ct n) (dl := bencode_parser_fail_dt n) (ll := bencode_parser_fail_lt n) (dr := bencode_parser_fail_dr) (fin := (finF Tryz.prog Tryz.f20 [.one (.bool)])) (N := 400) (js := bencode_parser_fail_jt0 n) AllMo.nil AllOK.nil AllD.nil AllL.nil AllJ.nil) (fun x => by kernel_rfl)
def bencode_parser_more (n : Nat) (a0 : Option Addr) : M (Bool) :=
  M.bind (nn a0) fun x0 =>
  M.bind (nn a0) fun x1 =>
  M.bind (ldL (li) (x0.plus 1)) fun (x2 : Int) =>
  M.bind (ldL .str (x1.plus 0)) fun (x3 : ByteArray) =>
  if decide ((↑(ByteArray.size x3) : Int) ≤ x2) then
    M.bind (nn a0) fun x4 =>
    M.bind (ldL .str (x4.plus 0)) fun (x5 : ByteArray) =>
    M.bind (bencode_parser_fail n a0 (↑(ByteArray.size x5) : Int) 4) fun x6 =>
    M.pure x6
  else
    M.bind (nn a0) fun x4 =>
    M.bind (ldL (li) (x4.plus 8)) fun (x5 : Int) =>
    M.pure (decide (x5 = 0))
def bencode_parser_more_dt (n : Nat) : List DEnt := []
def bencode_parser_more_ct (n : Nat) : List Ent := [⟨20, [.one (.ptr), .one (.int .i64), .one (.int .i64)], [.one (.bool)], fun x => bencode_parser_fail n (x.1) (x.2.1) (x.2.2)⟩]
def bencode_parser_more_dr (i : Nat) : Option (List (Nat × List Nat)) := cond (Nat.beq i 1) (some [(0, []), (1, []), (2, []), (4, []), (5, []), (6, []), (3, []), (7, []), (8, []), (9, [])]) (none)
def bencode_parser_more_lt (n : Nat) : List LEnt := []
def bencode_parser_more_jt0 (n : Nat) : List (JEnt (Bool)) := []
theorem bencode_parser_more_ok (n : Nat) : FnOK Tryz.prog ⟨58, [.one (.ptr)], [.one (.bool)], fun x => bencode_parser_more n (x)⟩ :=
  fn_ok (P := Tryz.prog) (e := ⟨58, [.one (.ptr)], [.one (.bool)], fun x => bencode_parser_more n (x)⟩) (fn := Tryz.f58) (c := (bodyOf Tryz.f58)) (T := ⟨lookC (bencode_parser_more_ct n) (bencode_parser_more_dt n), lookL (bencode_parser_more_lt n), lookJ (bencode_parser_more_jt0 n), bencode_parser_more_dr⟩) (N := 400) (ps := [(0, .one (.ptr))])
    (by kernel_rfl) (by kernel_rfl) (by kernel_rfl) (by kernel_rfl) (by kernel_rfl) (tabs_ok (P := Tryz.prog) (body := (bodyOf Tryz.f58)) (W := (25, none)) (cl := bencode_parser_more_ct n) (dl := bencode_parser_more_dt n) (ll := bencode_parser_more_lt n) (dr := bencode_parser_more_dr) (fin := (finF Tryz.prog Tryz.f58 [.one (.bool)])) (N := 400) (js := bencode_parser_more_jt0 n) AllMo.nil (AllOK.cons (bencode_parser_fail_ok n) AllOK.nil) AllD.nil AllL.nil AllJ.nil) (fun x => by kernel_rfl)
def integer_trim_L0_B (G : Sl → M (Sl)) (n : Nat) (a0 : Sl) : M (Sl) :=
  if decide (0 < (↑a0.len : Int)) then
    M.bind (idxA a0 (IntKind.i64.wrap ((↑a0.len : Int) - 1)) 1) fun x0 =>
    M.bind (ldL (.int IntKind.u8) x0) fun (x1 : Int) =>
    if decide (x1 = 0) then
      M.bind (sliceL a0 0 (IntKind.i64.wrap ((↑a0.len : Int) - 1)) T_u8 1) fun x2 =>
      G x2
    else
      M.pure a0
  else
    M.pure a0
def integer_trim_L0 : Nat → Sl → M (Sl)
  | 0 => fun _ => M.fail
  | n + 1 => integer_trim_L0_B (integer_trim_L0 n) n
theorem integer_trim_L0_succ (n : Nat) : integer_trim_L0 (n + 1) = integer_trim_L0_B (integer_trim_L0 n) n := rfl
def integer_trim (n : Nat) (a0 : Sl) : M (Sl) :=
  M.bind (integer_trim_L0 n a0) fun x0 =>
  M.pure x0
def integer_trim_dt (n : Nat) : List DEnt := []
def integer_trim_ct (n : Nat) : List Ent := []
def integer_trim_dr (i : Nat) : Option (List (Nat × List Nat)) := none
def integer_trim_L0_lt (n : Nat) : List LEnt := []
def integer_trim_L0_jt0 (n : Nat) : List (JEnt (Sl)) := []
def integer_trim_lt (n : Nat) : List LEnt := [⟨[0, 0, 1], [(0, .one (.sl))], actL1 [(0, .one (.sl))] [(0, .one (.sl))] [0, 3, 4, 5, 6, 7, 8, 9, 10, 11, 12, 13, 14, 15, 16, 17, 18, 19] 0 (fun x => integer_trim_L0 n (x))⟩]
def integer_trim_jt0 (n : Nat) : List (JEnt (Sl)) := []
theorem integer_trim_L0_ok (n : Nat) {W : Wr} (hW : subW W 21 [0, 3, 4, 5, 6, 7, 8, 9, 10, 11, 12, 13, 14, 15, 16, 17, 18, 19] = true) : LEntOK Tryz.prog (bodyOf Tryz.f161) W ⟨[0, 0, 1], [(0, .one (.sl))], actL1 [(0, .one (.sl))] [(0, .one (.sl))] [0, 3, 4, 5, 6, 7, 8, 9, 10, 11, 12, 13, 14, 15, 16, 17, 18, 19] 0 (fun x => integer_trim_L0 n (x))⟩ :=
  loop1_ok (P := Tryz.prog) (body := (bodyOf Tryz.f161)) (c := child (codeAt (bodyOf Tryz.f161) [0, 0, 1]) 0) (p := [0, 0, 1]) (ls := [(0, .one (.sl))]) (ms := [(0, .one (.sl))]) (id := 0) (nt := 21) (ws := [0, 3, 4, 5, 6, 7, 8, 9, 10, 11, 12, 13, 14, 15, 16, 17, 18, 19]) (N := 400) (G := (fun n x => integer_trim_L0 n x)) (T := fun n => ⟨lookC (integer_trim_ct n) (integer_trim_dt n), lookL (integer_trim_L0_lt n), lookJ (integer_trim_L0_jt0 n), integer_trim_dr⟩)
    (by kernel_rfl) (fun _ => by kernel_rfl) (fun n x => by kernel_rfl) n (fun m hm => (tabs_ok (P := Tryz.prog) (body := (bodyOf Tryz.f161)) (W := (21, some [0, 3, 4, 5, 6, 7, 8, 9, 10, 11, 12, 13, 14, 15, 16, 17, 18, 19])) (cl := integer_trim_ct m) (dl := integer_trim_dt m) (ll := integer_trim_L0_lt m) (dr := integer_trim_dr) (fin := (finL1 [(0, .one (.sl))] [(0, .one (.sl))] 0 (fun x => integer_trim_L0 m (x)))) (N := 400) (js := integer_trim_L0_jt0 m) AllMo.nil AllOK.nil AllD.nil AllL.nil AllJ.nil)) hW
theorem integer_trim_ok (n : Nat) : FnOK Tryz.prog ⟨161, [.one (.sl)], [.one (.sl)], fun x => integer_trim n (x)⟩ :=
  fn_ok (P := Tryz.prog) (e := ⟨161, [.one (.sl)], [.one (.sl)], fun x => integer_trim n (x)⟩) (fn := Tryz.f161) (c := (bodyOf Tryz.f161)) (T := ⟨lookC (integer_trim_ct n) (integer_trim_dt n), lookL (integer_trim_lt n), lookJ (integer_trim_jt0 n), integer_trim_dr⟩) (N := 400) (ps := [(0, .one (.sl))])
    (by kernel_rfl) (by kernel_rfl) (by kernel_rfl) (by kernel_rfl) (by kernel_rfl) (tabs_ok (P := Tryz.prog) (body := (bodyOf Tryz.f161)) (W := (21, none)) (cl := integer_trim_ct n) (dl := integer_trim_dt n) (ll := integer_trim_lt n) (dr := integer_trim_dr) (fin := (finF Tryz.prog Tryz.f161 [.one (.sl)])) (N := 400) (js := integer_trim_jt0 n) AllMo.nil AllOK.nil AllD.nil (AllL.cons (integer_trim_L0_ok n (by kernel_rfl)) AllL.nil) AllJ.nil) (fun x => by kernel_rfl)
def integer_read_L0_J0_B (G : Addr → Addr → ByteArray → Int → Int → M ((Unit) ⊕ (Bool))) (n : Nat) (a0 : Addr) (a1 : Addr) (a2 : ByteArray) (a3 : Int) (a4 : Int) (a5 : Int) : M ((Unit) ⊕ (Bool)) :=
  M.bind (idxS a2 a3) fun x0 =>
  M.bind (ldL .sl (a1.plus 1)) fun (x1 : Sl) =>
  M.bind (idxA x1 (IntKind.i64.wrap (IntKind.i64.wrap ((↑a2.size : Int) - 1) - a3)) 1) fun x2 =>
  M.bind (stN x2 [Value.int IntKind.u8 (IntKind.u8.wrap ((↑x0.toNat : Int) - 48))]) fun x3 =>
  G a0 a1 a2 a4 (IntKind.i64.wrap (a5 + 1))
def integer_read_L0_B (G : Addr → Addr → ByteArray → Int → Int → M ((Unit) ⊕ (Bool))) (n : Nat) (a0 : Addr) (a1 : Addr) (a2 : ByteArray) (a3 : Int) (a4 : Int) : M ((Unit) ⊕ (Bool)) :=
  if decide (a4 < a3) then
    M.bind (idxS a2 a4) fun x0 =>
    if decide ((↑x0.toNat : Int) < 48) then
      M.bind (stN a0 [Value.bool false, vsl0]) fun x1 =>
      M.pure (Sum.inr false)
    else
      M.bind (idxS a2 a4) fun x1 =>
      if decide (57 < (↑x1.toNat : Int)) then
        M.bind (stN a0 [Value.bool false, vsl0]) fun x2 =>
        M.pure (Sum.inr false)
      else
        integer_read_L0_J0_B G n a0 a1 a2 a4 a3 a4
  else
    M.pure (Sum.inl ())
def integer_read_L0 : Nat → Addr → Addr → ByteArray → Int → Int → M ((Unit) ⊕ (Bool))
  | 0 => fun _ _ _ _ _ => M.fail
  | n + 1 => integer_read_L0_B (integer_read_L0 n) n
theorem integer_read_L0_succ (n : Nat) : integer_read_L0 (n + 1) = integer_read_L0_B (integer_read_L0 n) n := rfl
def integer_read_L0_J0 (n : Nat) (a0 : Addr) (a1 : Addr) (a2 : ByteArray) (a3 : Int) (a4 : Int) (a5 : Int) : M ((Unit) ⊕ (Bool)) := integer_read_L0_J0_B (integer_read_L0 n) n a0 a1 a2 a3 a4 a5
def integer_read_J1 (n : Nat) (a0 : Addr) (a1 : Addr) (a2 : ByteArray) : M ((Bool × Sl) × Bool) :=
  M.bind (mkS none T_u8 [Value.int IntKind.u8 0] (↑a2.size : Int) (↑a2.size : Int)) fun x0 =>
  M.bind (stN (a1.plus 1) [vsl x0]) fun x1 =>
  M.bind (integer_read_L0 n a0 a1 a2 (↑a2.size : Int) 0) (sumElim (fun x2 =>
    M.bind (ldL .sl (a1.plus 1)) fun (x3 : Sl) =>
    M.bind (integer_trim n x3) fun x4 =>
    M.bind (stN (a1.plus 1) [vsl x4]) fun x5 =>
    M.bind (ldLs [.bool, .sl] a1) fun (x6 : Bool × Sl) =>
    M.bind (stN a0 [Value.bool x6.1, vsl x6.2]) fun x7 =>
    M.bind (ldLs [.bool, .sl] a0) fun (x8 : Bool × Sl) =>
    M.pure ((x8.1, x8.2), true))
  (fun x2 =>
    M.bind (ldLs [.bool, .sl] a0) fun (x3 : Bool × Sl) =>
    M.pure ((x3.1, x3.2), x2)))
def integer_read_J0 (n : Nat) (a0 : ByteArray) (a1 : Addr) (a2 : Addr) (a3 : ByteArray) : M ((Bool × Sl) × Bool) :=
  if decide ((↑a3.size : Int) = 0) then
    M.bind (stN a1 [Value.bool false, vsl0]) fun x0 =>
    M.bind (ldLs [.bool, .sl] a1) fun (x1 : Bool × Sl) =>
    M.pure ((x1.1, x1.2), false)
  else
    if decide (400 < (↑a3.size : Int)) then
      M.bind (stN a1 [Value.bool false, vsl0]) fun x0 =>
      M.bind (ldLs [.bool, .sl] a1) fun (x1 : Bool × Sl) =>
      M.pure ((x1.1, x1.2), false)
    else
      M.bind (idxS a3 0) fun x0 =>
      if decide ((↑x0.toNat : Int) = 48) then
        if decide (1 < (↑a0.size : Int)) then
          M.bind (stN a1 [Value.bool false, vsl0]) fun x1 =>
          M.bind (ldLs [.bool, .sl] a1) fun (x2 : Bool × Sl) =>
          M.pure ((x2.1, x2.2), false)
        else
          integer_read_J1 n a1 a2 a3
      else
        integer_read_J1 n a1 a2 a3
def integer_read (n : Nat) (a0 : ByteArray) : M ((Bool × Sl) × Bool) :=
  M.bind (newB none T_integer_number [Value.bool false, vsl0]) fun x0 =>
  M.bind (newB none T_integer_number [Value.bool false, vsl0]) fun x1 =>
  M.bind (stN (adr x1) [Value.bool false, vsl0]) fun x2 =>
  if decide (1 < (↑a0.size : Int)) then
    M.bind (idxS a0 0) fun x3 =>
    if decide ((↑x3.toNat : Int) = 45) then
      M.bind (stN ((adr x1).plus 0) [Value.bool true]) fun x4 =>
      M.bind (sliceS a0 1 (↑a0.size : Int)) fun x5 =>
      integer_read_J0 n a0 (adr x0) (adr x1) x5
    else
      integer_read_J0 n a0 (adr x0) (adr x1) a0
  else
    integer_read_J0 n a0 (adr x0) (adr x1) a0
def integer_read_dt (n : Nat) : List DEnt := []
def integer_read_ct (n : Nat) : List Ent := [⟨161, [.one (.sl)], [.one (.sl)], fun x => integer_trim n (x)⟩]
def integer_read_dr (i : Nat) : Option (List (Nat × List Nat)) := cond (Nat.beq i 14) (some [(0, []), (2, []), (3, []), (4, []), (5, []), (6, []), (7, []), (8, []), (9, []), (10, []), (1, []), (11, []), (12, [])]) (none)
def integer_read_L0_lt (n : Nat) : List LEnt := []
def integer_read_L0_jt1 (n : Nat) : List (JEnt ((Unit) ⊕ (Bool))) := []
def integer_read_L0_jt0 (n : Nat) : List (JEnt ((Unit) ⊕ (Bool))) := ⟨[1, 1, 0, 0, 1, 1, 0, 0, 1, 0, 1, 1, 1, 1, 1, 1], [.blk 1, .code [1, 1, 1, 0, 0, 1, 0, 1, 1, 1, 1, 1, 1]], [(2, .one (.adr)), (4, .one (.adr)), (5, .one (.str)), (6, .one (.int .i64)), (44, .one (.int .i64)), (45, .one (.int .i64))], fun x => integer_read_L0_J0 n (x.1) (x.2.1) (x.2.2.1) (x.2.2.2.1) (x.2.2.2.2.1) (x.2.2.2.2.2)⟩ :: integer_read_L0_jt1 n
def integer_read_lt (n : Nat) : List LEnt := [⟨[0, 1, 0, 1, 1, 1, 1, 1, 1], [(2, .one (.adr)), (4, .one (.adr)), (5, .one (.str)), (44, .one (.int .i64)), (45, .one (.int .i64))], actL2 [(2, .one (.adr)), (4, .one (.adr)), (5, .one (.str)), (44, .one (.int .i64)), (45, .one (.int .i64))] [] [(3, .one (.bool))] [3, 6, 45, 46, 47, 48, 49, 50, 51, 52, 53, 54, 55, 56, 57, 58, 59, 60, 61, 62, 63, 64, 65, 66, 67, 68, 69, 70, 71] 0 .ret (fun x => integer_read_L0 n (x.1) (x.2.1) (x.2.2.1) (x.2.2.2.1) (x.2.2.2.2))⟩]
def integer_read_jt2 (n : Nat) : List (JEnt ((Bool × Sl) × Bool)) := []
def integer_read_jt1 (n : Nat) : List (JEnt ((Bool × Sl) × Bool)) := ⟨[0, 1, 1, 1, 1, 1], [.code [1, 1, 1, 1, 1, 1]], [(2, .one (.adr)), (4, .one (.adr)), (5, .one (.str))], fun x => integer_read_J1 n (x.1) (x.2.1) (x.2.2)⟩ :: integer_read_jt2 n
def integer_read_jt0 (n : Nat) : List (JEnt ((Bool × Sl) × Bool)) := ⟨[0, 0, 1, 1, 1, 1], [.code [1, 0, 1, 1, 1, 1], .code [1, 1, 1, 1, 1]], [(0, .one (.str)), (2, .one (.adr)), (4, .one (.adr)), (5, .one (.str))], fun x => integer_read_J0 n (x.1) (x.2.1) (x.2.2.1) (x.2.2.2)⟩ :: integer_read_jt1 n
theorem integer_read_L0_ok (n : Nat) {W : Wr} (hW : subW W 77 [3, 6, 45, 46, 47, 48, 49, 50, 51, 52, 53, 54, 55, 56, 57, 58, 59, 60, 61, 62, 63, 64, 65, 66, 67, 68, 69, 70, 71] = true) : LEntOK Tryz.prog (bodyOf Tryz.f129) W ⟨[0, 1, 0, 1, 1, 1, 1, 1, 1], [(2, .one (.adr)), (4, .one (.adr)), (5, .one (.str)), (44, .one (.int .i64)), (45, .one (.int .i64))], actL2 [(2, .one (.adr)), (4, .one (.adr)), (5, .one (.str)), (44, .one (.int .i64)), (45, .one (.int .i64))] [] [(3, .one (.bool))] [3, 6, 45, 46, 47, 48, 49, 50, 51, 52, 53, 54, 55, 56, 57, 58, 59, 60, 61, 62, 63, 64, 65, 66, 67, 68, 69, 70, 71] 0 .ret (fun x => integer_read_L0 n (x.1) (x.2.1) (x.2.2.1) (x.2.2.2.1) (x.2.2.2.2))⟩ :=
  loop2_ok (P := Tryz.prog) (body := (bodyOf Tryz.f129)) (c := child (codeAt (bodyOf Tryz.f129) [0, 1, 0, 1, 1, 1, 1, 1, 1]) 0) (p := [0, 1, 0, 1, 1, 1, 1, 1, 1]) (ls := [(2, .one (.adr)), (4, .one (.adr)), (5, .one (.str)), (44, .one (.int .i64)), (45, .one (.int .i64))]) (ms := []) (rs := [(3, .one (.bool))]) (id := 0) (e2 := .ret) (nt := 77) (ws := [3, 6, 45, 46, 47, 48, 49, 50, 51, 52, 53, 54, 55, 56, 57, 58, 59, 60, 61, 62, 63, 64, 65, 66, 67, 68, 69, 70, 71]) (N := 400) (G := (fun n x => integer_read_L0 n (x.1) (x.2.1) (x.2.2.1) (x.2.2.2.1) (x.2.2.2.2))) (T := fun n => ⟨lookC (integer_read_ct n) (integer_read_dt n), lookL (integer_read_L0_lt n), lookJ (integer_read_L0_jt0 n), integer_read_dr⟩)
    (by kernel_rfl) (fun _ => by kernel_rfl) (fun n x => by kernel_rfl) n (fun m hm => (tabs_ok (P := Tryz.prog) (body := (bodyOf Tryz.f129)) (W := (77, some [3, 6, 45, 46, 47, 48, 49, 50, 51, 52, 53, 54, 55, 56, 57, 58, 59, 60, 61, 62, 63, 64, 65, 66, 67, 68, 69, 70, 71])) (cl := integer_read_ct m) (dl := integer_read_dt m) (ll := integer_read_L0_lt m) (dr := integer_read_dr) (fin := (finL2 [(2, .one (.adr)), (4, .one (.adr)), (5, .one (.str)), (44, .one (.int .i64)), (45, .one (.int .i64))] [] [(3, .one (.bool))] 0 .ret (fun x => integer_read_L0 m (x.1) (x.2.1) (x.2.2.1) (x.2.2.2.1) (x.2.2.2.2)))) (N := 400) (js := integer_read_L0_jt0 m) AllMo.nil (AllOK.cons (integer_trim_ok m) AllOK.nil) AllD.nil AllL.nil (AllJ.cons (fun x => by kernel_rfl) AllJ.nil))) hW
theorem integer_read_ok (n : Nat) : FnOK Tryz.prog ⟨129, [.one (.str)], [.agg [.bool, .sl], .one (.bool)], fun x => integer_read n (x)⟩ :=
  fn_ok (P := Tryz.prog) (e := ⟨129, [.one (.str)], [.agg [.bool, .sl], .one (.bool)], fun x => integer_read n (x)⟩) (fn := Tryz.f129) (c := (bodyOf Tryz.f129)) (T := ⟨lookC (integer_read_ct n) (integer_read_dt n), lookL (integer_read_lt n), lookJ (integer_read_jt0 n), integer_read_dr⟩) (N := 400) (ps := [(0, .one (.str))])
    (by kernel_rfl) (by kernel_rfl) (by kernel_rfl) (by kernel_rfl) (by kernel_rfl) (tabs_ok (P := Tryz.prog) (body := (bodyOf Tryz.f129)) (W := (77, none)) (cl := integer_read_ct n) (dl := integer_read_dt n) (ll := integer_read_lt n) (dr := integer_read_dr) (fin := (finF Tryz.prog Tryz.f129 [.agg [.bool, .sl], .one (.bool)])) (N := 400) (js := integer_read_jt0 n) AllMo.nil (AllOK.cons (integer_trim_ok n) AllOK.nil) AllD.nil (AllL.cons (integer_read_L0_ok n (by kernel_rfl)) AllL.nil) (AllJ.cons (fun x => by kernel_rfl) (AllJ.cons (fun x => by kernel_rfl) AllJ.nil))) (fun x => by kernel_rfl)
def integer_Valid (n : Nat) (a0 : ByteArray) : M (Bool) :=
  M.bind (integer_read n a0) fun x0 =>
  M.bind (newB none T_integer_number [Value.bool false, vsl0]) fun x1 =>
  M.bind (stN (adr x1) [Value.bool x0.1.1, vsl x0.1.2]) fun x2 =>
  M.pure x0.2
def integer_Valid_dt (n : Nat) : List DEnt := []
def integer_Valid_ct (n : Nat) : List Ent := [⟨129, [.one (.str)], [.agg [.bool, .sl], .one (.bool)], fun x => integer_read n (x)⟩]
def integer_Valid_dr (i : Nat) : Option (List (Nat × List Nat)) := none
def integer_Valid_lt (n : Nat) : List LEnt := []
def integer_Valid_jt0 (n : Nat) : List (JEnt (Bool)) := []
theorem integer_Valid_ok (n : Nat) : FnOK Tryz.prog ⟨97, [.one (.str)], [.one (.bool)], fun x => integer_Valid n (x)⟩ :=
  fn_ok (P := Tryz.prog) (e := ⟨97, [.one (.str)], [.one (.bool)], fun x => integer_Valid n (x)⟩) (fn := Tryz.f97) (c := (bodyOf Tryz.f97)) (T := ⟨lookC (integer_Valid_ct n) (integer_Valid_dt n), lookL (integer_Valid_lt n), lookJ (integer_Valid_jt0 n), integer_Valid_dr⟩) (N := 400) (ps := [(0, .one (.str))])
    (by kernel_rfl) (by kernel_rfl) (by kernel_rfl) (by kernel_rfl) (by kernel_rfl) (tabs_ok (P := Tryz.prog) (body := (bodyOf Tryz.f97)) (W := (11, none)) (cl := integer_Valid_ct n) (dl := integer_Valid_dt n) (ll := integer_Valid_lt n) (dr := integer_Valid_dr) (fin := (finF Tryz.prog Tryz.f97 [.one (.bool)])) (N := 400) (js := integer_Valid_jt0 n) AllMo.nil (AllOK.cons (integer_read_ok n) AllOK.nil) AllD.nil AllL.nil AllJ.nil) (fun x => by kernel_rfl)
def bencode_parser_node (n : Nat) (a0 : Option Addr) (a1 : Int × ByteArray × Bool × Sl × Sl) (a2 : Int) (a3 : Int) : M (Int × Bool) :=
  M.bind (newB none T_api_Node [vi a1.1, Value.string a1.2.1, Value.bool a1.2.2.1, vsl a1.2.2.2.1, vsl a1.2.2.2.2]) fun x0 =>
  if decide (32 < a3) then
    M.bind (bencode_parser_fail n a0 a2 5) fun x1 =>
    M.pure (0, x1)
  else
    M.bind (nn a0) fun x1 =>
    M.bind (ldL .sl (((x1.plus 2).plus 2).plus 0)) fun (x2 : Sl) =>
    if decide (4096 ≤ (↑x2.len : Int)) then
      M.bind (bencode_parser_fail n a0 a2 7) fun x3 =>
      M.pure (0, x3)
    else
      M.bind (nn a0) fun x3 =>
      M.bind (ldL .sl (((x3.plus 2).plus 2).plus 0)) fun (x4 : Sl) =>
      M.bind (ldLs [li, .str, .bool, .sl, .sl] (adr x0)) fun (x5 : Int × ByteArray × Bool × Sl × Sl) =>
      M.bind (app true x4 5 T_api_Node 1 [vi x5.1, Value.string x5.2.1, Value.bool x5.2.2.1, vsl x5.2.2.2.1, vsl x5.2.2.2.2]) fun x6 =>
      M.bind (nn a0) fun x7 =>
      M.bind (stN (((x7.plus 2).plus 2).plus 0) [vsl x6]) fun x8 =>
      M.bind (nn a0) fun x9 =>
      M.bind (ldL .sl (((x9.plus 2).plus 2).plus 0)) fun (x10 : Sl) =>
      M.pure (IntKind.i64.wrap ((↑x10.len : Int) - 1), true)
def bencode_parser_node_dt (n : Nat) : List DEnt := []
def bencode_parser_node_ct (n : Nat) : List Ent := [⟨20, [.one (.ptr), .one (.int .i64), .one (.int .i64)], [.one (.bool)], fun x => bencode_parser_fail n (x.1) (x.2.1) (x.2.2)⟩]
def bencode_parser_node_dr (i : Nat) : Option (List (Nat × List Nat)) := cond (Nat.beq i 5) (some [(0, []), (1, []), (2, []), (3, []), (4, []), (5, []), (6, []), (7, []), (8, []), (9, []), (10, []), (11, []), (12, []), (13, []), (14, [])]) (none)
def bencode_parser_node_lt (n : Nat) : List LEnt := []
def bencode_parser_node_jt0 (n : Nat) : List (JEnt (Int × Bool)) := []
theorem bencode_parser_node_ok (n : Nat) : FnOK Tryz.prog ⟨98, [.one (.ptr), .agg [.int .i64, .str, .bool, .sl, .sl], .one (.int .i64), .one (.int .i64)], [.one (.int .i64), .one (.bool)], fun x => bencode_parser_node n (x.1) (x.2.1) (x.2.2.1) (x.2.2.2)⟩ :=
  fn_ok (P := Tryz.prog) (e := ⟨98, [.one (.ptr), .agg [.int .i64, .str, .bool, .sl, .sl], .one (.int .i64), .one (.int .i64)], [.one (.int .i64), .one (.bool)], fun x => bencode_parser_node n (x.1) (x.2.1) (x.2.2.1) (x.2.2.2)⟩) (fn := Tryz.f98) (c := (bodyOf Tryz.f98)) (T := ⟨lookC (bencode_parser_node_ct n) (bencode_parser_node_dt n), lookL (bencode_parser_node_lt n), lookJ (bencode_parser_node_jt0 n), bencode_parser_node_dr⟩) (N := 400) (ps := [(0, .one (.ptr)), (1, .agg [.int .i64, .str, .bool, .sl, .sl]), (2, .one (.int .i64)), (3, .one (.int .i64))])
    (by kernel_rfl) (by kernel_rfl) (by kernel_rfl) (by kernel_rfl) (by kernel_rfl) (tabs_ok (P := Tryz.prog) (body := (bodyOf Tryz.f98)) (W := (48, none)) (cl := bencode_parser_node_ct n) (dl := bencode_parser_node_dt n) (ll := bencode_parser_node_lt n) (dr := bencode_parser_node_dr) (fin := (finF Tryz.prog Tryz.f98 [.one (.int .i64), .one (.bool)])) (N := 400) (js := bencode_parser_node_jt0 n) AllMo.nil (AllOK.cons (bencode_parser_fail_ok n) AllOK.nil) AllD.nil AllL.nil AllJ.nil) (fun x => by kernel_rfl)
def bencode_parser_integer (n : Nat) (a0 : Option Addr) (a1 : Int) (a2 : Int) : M (Int × Bool) :=
  M.bind (nn a0) fun x0 =>
  M.bind (ldL (li) (x0.plus 1)) fun (x1 : Int) =>
  M.bind (nn a0) fun x2 =>
  M.bind (ldL .str (x2.plus 0)) fun (x3 : ByteArray) =>
  M.bind (sliceS x3 x1 (↑(ByteArray.size x3) : Int)) fun x4 =>
  M.bind (strings_IndexByte n x4 101) fun x5 =>
  if decide (x5 < 0) then
    M.bind (nn a0) fun x6 =>
    M.bind (ldL .str (x6.plus 0)) fun (x7 : ByteArray) =>
    M.bind (bencode_parser_fail n a0 (↑(ByteArray.size x7) : Int) 4) fun x8 =>
    M.pure (0, x8)
  else
    M.bind (nn a0) fun x6 =>
    M.bind (ldL .str (x6.plus 0)) fun (x7 : ByteArray) =>
    M.bind (sliceS x7 (IntKind.i64.wrap (x1 + 1)) (IntKind.i64.wrap (x1 + x5))) fun x8 =>
    M.bind (nn a0) fun x9 =>
    M.bind (stN (x9.plus 1) [vi (IntKind.i64.wrap (IntKind.i64.wrap (x1 + x5) + 1))]) fun x10 =>
    M.bind (integer_Valid n x8) fun x11 =>
    if !x11 then
      M.bind (bencode_parser_fail n a0 x1 12) fun x12 =>
      M.pure (0, x12)
    else
      M.bind (bencode_parser_node n a0 (2, x8, false, sl0, sl0) x1 a1) fun x12 =>
      M.pure (x12.1, x12.2)
def bencode_parser_integer_dt (n : Nat) : List DEnt := []
def bencode_parser_integer_ct (n : Nat) : List Ent := [⟨20, [.one (.ptr), .one (.int .i64), .one (.int .i64)], [.one (.bool)], fun x => bencode_parser_fail n (x.1) (x.2.1) (x.2.2)⟩,
  ⟨96, [.one (.str), .one (.int .u8)], [.one (.int .i64)], fun x => strings_IndexByte n (x.1) (x.2)⟩,
  ⟨97, [.one (.str)], [.one (.bool)], fun x => integer_Valid n (x)⟩,
  ⟨98, [.one (.ptr), .agg [.int .i64, .str, .bool, .sl, .sl], .one (.int .i64), .one (.int .i64)], [.one (.int .i64), .one (.bool)], fun x => bencode_parser_node n (x.1) (x.2.1) (x.2.2.1) (x.2.2.2)⟩]
def bencode_parser_integer_dr (i : Nat) : Option (List (Nat × List Nat)) := none
def bencode_parser_integer_lt (n : Nat) : List LEnt := []
def bencode_parser_integer_jt0 (n : Nat) : List (JEnt (Int × Bool)) := []
theorem bencode_parser_integer_ok (n : Nat) : FnOK Tryz.prog ⟨59, [.one (.ptr), .one (.int .i64), .one (.int .i64)], [.one (.int .i64), .one (.bool)], fun x => bencode_parser_integer n (x.1) (x.2.1) (x.2.2)⟩ :=
  fn_ok (P := Tryz.prog) (e := ⟨59, [.one (.ptr), .one (.int .i64), .one (.int .i64)], [.one (.int .i64), .one (.bool)], fun x => bencode_parser_integer n (x.1) (x.2.1) (x.2.2)⟩) (fn := Tryz.f59) (c := (bodyOf Tryz.f59)) (T := ⟨lookC (bencode_parser_integer_ct n) (bencode_parser_integer_dt n), lookL (bencode_parser_integer_lt n), lookJ (bencode_parser_integer_jt0 n), bencode_parser_integer_dr⟩) (N := 400) (ps := [(0, .one (.ptr)), (1, .one (.int .i64)), (2, .one (.int .i64))])
    (by kernel_rfl) (by kernel_rfl) (by kernel_rfl) (by kernel_rfl) (by kernel_rfl) (tabs_ok (P := Tryz.prog) (body := (bodyOf Tryz.f59)) (W := (62, none)) (cl := bencode_parser_integer_ct n) (dl := bencode_parser_integer_dt n) (ll := bencode_parser_integer_lt n) (dr := bencode_parser_integer_dr) (fin := (finF Tryz.prog Tryz.f59 [.one (.int .i64), .one (.bool)])) (N := 400) (js := bencode_parser_integer_jt0 n) AllMo.nil (AllOK.cons (bencode_parser_fail_ok n) (AllOK.cons (strings_IndexByte_ok n) (AllOK.cons (integer_Valid_ok n) (AllOK.cons (bencode_parser_node_ok n) AllOK.nil)))) AllD.nil AllL.nil AllJ.nil) (fun x => by kernel_rfl)
def bencode_parser_text_L0_B (G : Option Addr → Int → M (Unit)) (n : Nat) (a0 : Option Addr) (a1 : Int) : M (Unit) :=
  M.bind (nn a0) fun x0 =>
  M.bind (nn a0) fun x1 =>
  M.bind (ldL (li) (x0.plus 1)) fun (x2 : Int) =>
  M.bind (ldL .str (x1.plus 0)) fun (x3 : ByteArray) =>
  if decide (x2 < (↑(ByteArray.size x3) : Int)) then
    M.bind (nn a0) fun x4 =>
    M.bind (nn a0) fun x5 =>
    M.bind (ldL .str (x4.plus 0)) fun (x6 : ByteArray) =>
    M.bind (ldL (li) (x5.plus 1)) fun (x7 : Int) =>
    M.bind (idxS x6 x7) fun x8 =>
    if decide (48 ≤ (↑x8.toNat : Int)) then
      M.bind (nn a0) fun x9 =>
      M.bind (nn a0) fun x10 =>
      M.bind (ldL .str (x9.plus 0)) fun (x11 : ByteArray) =>
      M.bind (ldL (li) (x10.plus 1)) fun (x12 : Int) =>
      M.bind (idxS x11 x12) fun x13 =>
      if decide ((↑x13.toNat : Int) ≤ 57) then
        M.bind (nn a0) fun x14 =>
        M.bind (ldL (li) (x14.plus 1)) fun (x15 : Int) =>
        M.bind (nn a0) fun x16 =>
        M.bind (stN (x16.plus 1) [vi (IntKind.i64.wrap (x15 + 1))]) fun x17 =>
        G a0 a1
      else
        M.pure ()
    else
      M.pure ()
  else
    M.pure ()
def bencode_parser_text_L0 : Nat → Option Addr → Int → M (Unit)
  | 0 => fun _ _ => M.fail
  | n + 1 => bencode_parser_text_L0_B (bencode_parser_text_L0 n) n
theorem bencode_parser_text_L0_succ (n : Nat) : bencode_parser_text_L0 (n + 1) = bencode_parser_text_L0_B (bencode_parser_text_L0 n) n := rfl
def bencode_parser_text_J1 (n : Nat) (a0 : Option Addr) (a1 : Int) : M (ByteArray × Bool) :=
  M.bind (nn a0) fun x0 =>
  M.bind (ldL (li) (x0.plus 1)) fun (x1 : Int) =>
  M.bind (nn a0) fun x2 =>
  M.bind (stN (x2.plus 1) [vi (IntKind.i64.wrap (x1 + a1))]) fun x3 =>
  M.bind (nn a0) fun x4 =>
  M.bind (nn a0) fun x5 =>
  M.bind (nn a0) fun x6 =>
  M.bind (ldL .str (x4.plus 0)) fun (x7 : ByteArray) =>
  M.bind (ldL (li) (x5.plus 1)) fun (x8 : Int) =>
  M.bind (ldL (li) (x6.plus 1)) fun (x9 : Int) =>
  M.bind (sliceS x7 (IntKind.i64.wrap (x8 - a1)) x9) fun x10 =>
  M.pure (x10, true)
def bencode_parser_text_J0 (n : Nat) (a0 : Option Addr) (a1 : ByteArray) : M (ByteArray × Bool) :=
  M.bind (bencode_parser_more n a0) fun x0 =>
  if !x0 then
    M.pure ((ofBytes []), false)
  else
    M.bind (nn a0) fun x1 =>
    M.bind (nn a0) fun x2 =>
    M.bind (ldL .str (x1.plus 0)) fun (x3 : ByteArray) =>
    M.bind (ldL (li) (x2.plus 1)) fun (x4 : Int) =>
    M.bind (idxS x3 x4) fun x5 =>
    if !decide ((↑x5.toNat : Int) = 58) then
      M.bind (nn a0) fun x6 =>
      M.bind (ldL (li) (x6.plus 1)) fun (x7 : Int) =>
      M.bind (bencode_parser_fail n a0 x7 4) fun x8 =>
      M.pure ((ofBytes []), x8)
    else
      M.bind (nn a0) fun x6 =>
      M.bind (ldL (li) (x6.plus 1)) fun (x7 : Int) =>
      M.bind (nn a0) fun x8 =>
      M.bind (stN (x8.plus 1) [vi (IntKind.i64.wrap (x7 + 1))]) fun x9 =>
      M.bind (strconv_Atoi n a1) fun x10 =>
      M.bind (isNilI x10.2) fun x11 =>
      if !x11 then
        M.bind (nn a0) fun x12 =>
        M.bind (ldL .str (x12.plus 0)) fun (x13 : ByteArray) =>
        M.bind (bencode_parser_fail n a0 (↑(ByteArray.size x13) : Int) 4) fun x14 =>
        M.pure ((ofBytes []), x14)
      else
        M.bind (nn a0) fun x12 =>
        M.bind (nn a0) fun x13 =>
        M.bind (ldL .str (x12.plus 0)) fun (x14 : ByteArray) =>
        M.bind (ldL (li) (x13.plus 1)) fun (x15 : Int) =>
        if decide (IntKind.i64.wrap ((↑(ByteArray.size x14) : Int) - x15) < x10.1) then
          M.bind (nn a0) fun x16 =>
          M.bind (ldL .str (x16.plus 0)) fun (x17 : ByteArray) =>
          M.bind (bencode_parser_fail n a0 (↑(ByteArray.size x17) : Int) 4) fun x18 =>
          M.pure ((ofBytes []), x18)
        else
          bencode_parser_text_J1 n a0 x10.1
def bencode_parser_text (n : Nat) (a0 : Option Addr) : M (ByteArray × Bool) :=
  M.bind (nn a0) fun x0 =>
  M.bind (ldL (li) (x0.plus 1)) fun (x1 : Int) =>
  M.bind (bencode_parser_text_L0 n a0 x1) fun x2 =>
  M.bind (nn a0) fun x3 =>
  M.bind (nn a0) fun x4 =>
  M.bind (ldL .str (x3.plus 0)) fun (x5 : ByteArray) =>
  M.bind (ldL (li) (x4.plus 1)) fun (x6 : Int) =>
  M.bind (sliceS x5 x1 x6) fun x7 =>
  if eqS x7 (ofBytes []) then
    M.bind (bencode_parser_more n a0) fun x8 =>
    if x8 then
      M.bind (bencode_parser_fail n a0 x1 4) fun x9 =>
      M.pure ((ofBytes []), x9)
    else
      M.pure ((ofBytes []), false)
  else
    if decide (1 < (↑x7.size : Int)) then
      M.bind (idxS x7 0) fun x8 =>
      if decide ((↑x8.toNat : Int) = 48) then
        M.bind (bencode_parser_fail n a0 x1 12) fun x9 =>
        M.pure ((ofBytes []), x9)
      else
        bencode_parser_text_J0 n a0 x7
    else
      bencode_parser_text_J0 n a0 x7
def bencode_parser_text_dt (n : Nat) : List DEnt := []
def bencode_parser_text_ct (n : Nat) : List Ent := [⟨20, [.one (.ptr), .one (.int .i64), .one (.int .i64)], [.one (.bool)], fun x => bencode_parser_fail n (x.1) (x.2.1) (x.2.2)⟩,
  ⟨58, [.one (.ptr)], [.one (.bool)], fun x => bencode_parser_more n (x)⟩,
  ⟨130, [.one (.str)], [.one (.int .i64), .one (.raw)], fun x => strconv_Atoi n (x)⟩]
def bencode_parser_text_dr (i : Nat) : Option (List (Nat × List Nat)) := cond (Nat.beq i 2) (some [(0, []), (1, []), (2, []), (4, []), (5, []), (6, []), (3, []), (7, []), (8, []), (9, []), (10, []), (11, []), (12, []), (13, []), (15, []), (16, []), (17, []), (14, []), (18, []), (19, []), (20, []), (21, []), (22, []), (23, []), (24, []), (25, []), (27, []), (28, []), (29, []), (26, []), (30, []), (31, []), (32, []), (33, [])]) (cond (Nat.beq i 4) (some [(0, []), (1, []), (2, []), (4, []), (5, []), (6, []), (7, []), (3, []), (8, []), (9, []), (10, [])]) (cond (Nat.beq i 11) (some [(0, []), (1, []), (2, []), (4, []), (5, []), (6, []), (3, []), (7, []), (8, []), (9, []), (10, [])]) (cond (Nat.beq i 15) (some [(0, []), (1, []), (2, []), (3, []), (4, []), (5, []), (6, []), (9, []), (10, []), (11, []), (7, []), (8, []), (12, []), (13, []), (14, []), (15, [])]) (cond (Nat.beq i 18) (some [(0, []), (1, []), (2, []), (4, []), (5, []), (6, []), (8, []), (10, []), (11, []), (12, []), (3, []), (7, []), (9, []), (13, []), (14, []), (15, []), (16, [])]) (none)))))
def bencode_parser_text_L0_lt (n : Nat) : List LEnt := []
def bencode_parser_text_L0_jt0 (n : Nat) : List (JEnt (Unit)) := []
def bencode_parser_text_lt (n : Nat) : List LEnt := [⟨[0, 0, 1, 1], [(0, .one (.ptr)), (4, .one (.int .i64))], actL1 [(0, .one (.ptr)), (4, .one (.int .i64))] [] [12, 13, 14, 15, 16, 17, 18, 19, 20, 21, 22, 23, 24, 25, 26, 27, 28, 29, 30, 31, 32, 33, 34, 35, 36, 37, 38, 39, 40, 41, 42, 43, 44, 45, 46, 47, 48, 49, 50, 51, 52] 0 (fun x => bencode_parser_text_L0 n (x.1) (x.2))⟩]
def bencode_parser_text_jt2 (n : Nat) : List (JEnt (ByteArray × Bool)) := []
def bencode_parser_text_jt1 (n : Nat) : List (JEnt (ByteArray × Bool)) := ⟨[0, 1, 1, 1, 1, 1, 1, 1, 1], [.code [1, 1, 1, 1, 1, 1, 1, 1, 1]], [(0, .one (.ptr)), (6, .one (.int .i64))], fun x => bencode_parser_text_J1 n (x.1) (x.2)⟩ :: bencode_parser_text_jt2 n
def bencode_parser_text_jt0 (n : Nat) : List (JEnt (ByteArray × Bool)) := ⟨[0, 1, 1, 1, 1, 0, 0, 1, 1, 1, 1], [.code [1, 1, 1, 1, 1, 0, 0, 1, 1, 1, 1], .blk 2, .code [1, 1, 1, 1, 1]], [(0, .one (.ptr)), (5, .one (.str))], fun x => bencode_parser_text_J0 n (x.1) (x.2)⟩ :: bencode_parser_text_jt1 n
theorem bencode_parser_text_L0_ok (n : Nat) {W : Wr} (hW : subW W 164 [12, 13, 14, 15, 16, 17, 18, 19, 20, 21, 22, 23, 24, 25, 26, 27, 28, 29, 30, 31, 32, 33, 34, 35, 36, 37, 38, 39, 40, 41, 42, 43, 44, 45, 46, 47, 48, 49, 50, 51, 52] = true) : LEntOK Tryz.prog (bodyOf Tryz.f99) W ⟨[0, 0, 1, 1], [(0, .one (.ptr)), (4, .one (.int .i64))], actL1 [(0, .one (.ptr)), (4, .one (.int .i64))] [] [12, 13, 14, 15, 16, 17, 18, 19, 20, 21, 22, 23, 24, 25, 26, 27, 28, 29, 30, 31, 32, 33, 34, 35, 36, 37, 38, 39, 40, 41, 42, 43, 44, 45, 46, 47, 48, 49, 50, 51, 52] 0 (fun x => bencode_parser_text_L0 n (x.1) (x.2))⟩ :=
  loop1_ok (P := Tryz.prog) (body := (bodyOf Tryz.f99)) (c := child (codeAt (bodyOf Tryz.f99) [0, 0, 1, 1]) 0) (p := [0, 0, 1, 1]) (ls := [(0, .one (.ptr)), (4, .one (.int .i64))]) (ms := []) (id := 0) (nt := 164) (ws := [12, 13, 14, 15, 16, 17, 18, 19, 20, 21, 22, 23, 24, 25, 26, 27, 28, 29, 30, 31, 32, 33, 34, 35, 36, 37, 38, 39, 40, 41, 42, 43, 44, 45, 46, 47, 48, 49, 50, 51, 52]) (N := 400) (G := (fun n x => bencode_parser_text_L0 n (x.1) (x.2))) (T := fun n => ⟨lookC (bencode_parser_text_ct n) (bencode_parser_text_dt n), lookL (bencode_parser_text_L0_lt n), lookJ (bencode_parser_text_L0_jt0 n), bencode_parser_text_dr⟩)
    (by kernel_rfl) (fun _ => by kernel_rfl) (fun n x => by kernel_rfl) n (fun m hm => (tabs_ok (P := Tryz.prog) (body := (bodyOf Tryz.f99)) (W := (164, some [12, 13, 14, 15, 16, 17, 18, 19, 20, 21, 22, 23, 24, 25, 26, 27, 28, 29, 30, 31, 32, 33, 34, 35, 36, 37, 38, 39, 40, 41, 42, 43, 44, 45, 46, 47, 48, 49, 50, 51, 52])) (cl := bencode_parser_text_ct m) (dl := bencode_parser_text_dt m) (ll := bencode_parser_text_L0_lt m) (dr := bencode_parser_text_dr) (fin := (finL1 [(0, .one (.ptr)), (4, .one (.int .i64))] [] 0 (fun x => bencode_parser_text_L0 m (x.1) (x.2)))) (N := 400) (js := bencode_parser_text_L0_jt0 m) AllMo.nil (AllOK.cons (bencode_parser_fail_ok m) (AllOK.cons (bencode_parser_more_ok m) (AllOK.cons (strconv_Atoi_ok m) AllOK.nil))) AllD.nil AllL.nil AllJ.nil)) hW
theorem bencode_parser_text_ok (n : Nat) : FnOK Tryz.prog ⟨99, [.one (.ptr)], [.one (.str), .one (.bool)], fun x => bencode_parser_text n (x)⟩ :=
  fn_ok (P := Tryz.prog) (e := ⟨99, [.one (.ptr)], [.one (.str), .one (.bool)], fun x => bencode_parser_text n (x)⟩) (fn := Tryz.f99) (c := (bodyOf Tryz.f99)) (T := ⟨lookC (bencode_parser_text_ct n) (bencode_parser_text_dt n), lookL (bencode_parser_text_lt n), lookJ (bencode_parser_text_jt0 n), bencode_parser_text_dr⟩) (N := 400) (ps := [(0, .one (.ptr))])
    (by kernel_rfl) (by kernel_rfl) (by kernel_rfl) (by kernel_rfl) (by kernel_rfl) (tabs_ok (P := Tryz.prog) (body := (bodyOf Tryz.f99)) (W := (164, none)) (cl := bencode_parser_text_ct n) (dl := bencode_parser_text_dt n) (ll := bencode_parser_text_lt n) (dr := bencode_parser_text_dr) (fin := (finF Tryz.prog Tryz.f99 [.one (.str), .one (.bool)])) (N := 400) (js := bencode_parser_text_jt0 n) AllMo.nil (AllOK.cons (bencode_parser_fail_ok n) (AllOK.cons (bencode_parser_more_ok n) (AllOK.cons (strconv_Atoi_ok n) AllOK.nil))) AllD.nil (AllL.cons (bencode_parser_text_L0_ok n (by kernel_rfl)) AllL.nil) (AllJ.cons (fun x => by kernel_rfl) (AllJ.cons (fun x => by kernel_rfl) AllJ.nil))) (fun x => by kernel_rfl)
def bencode_parser_str (n : Nat) (a0 : Option Addr) (a1 : Int) (a2 : Int) : M (Int × Bool) :=
  M.bind (nn a0) fun x0 =>
  M.bind (ldL (li) (x0.plus 1)) fun (x1 : Int) =>
  M.bind (bencode_parser_text n a0) fun x2 =>
  if !x2.2 then
    M.pure (0, false)
  else
    M.bind (codepoint_Check n x2.1) fun x3 =>
    if !decide (x3.2 = 0) then
      M.bind (bencode_parser_node n a0 (6, x2.1, false, sl0, sl0) x1 a1) fun x4 =>
      M.pure (x4.1, x4.2)
    else
      M.bind (bencode_parser_node n a0 (5, x2.1, false, sl0, sl0) x1 a1) fun x4 =>
      M.pure (x4.1, x4.2)
def bencode_parser_str_dt (n : Nat) : List DEnt := []
def bencode_parser_str_ct (n : Nat) : List Ent := [⟨98, [.one (.ptr), .agg [.int .i64, .str, .bool, .sl, .sl], .one (.int .i64), .one (.int .i64)], [.one (.int .i64), .one (.bool)], fun x => bencode_parser_node n (x.1) (x.2.1) (x.2.2.1) (x.2.2.2)⟩,
  ⟨99, [.one (.ptr)], [.one (.str), .one (.bool)], fun x => bencode_parser_text n (x)⟩,
  ⟨100, [.one (.str)], [.one (.int .i64), .one (.int .i64)], fun x => codepoint_Check n (x)⟩]
def bencode_parser_str_dr (i : Nat) : Option (List (Nat × List Nat)) := none
def bencode_parser_str_lt (n : Nat) : List LEnt := []
def bencode_parser_str_jt0 (n : Nat) : List (JEnt (Int × Bool)) := []
theorem bencode_parser_str_ok (n : Nat) : FnOK Tryz.prog ⟨62, [.one (.ptr), .one (.int .i64), .one (.int .i64)], [.one (.int .i64), .one (.bool)], fun x => bencode_parser_str n (x.1) (x.2.1) (x.2.2)⟩ :=
  fn_ok (P := Tryz.prog) (e := ⟨62, [.one (.ptr), .one (.int .i64), .one (.int .i64)], [.one (.int .i64), .one (.bool)], fun x => bencode_parser_str n (x.1) (x.2.1) (x.2.2)⟩) (fn := Tryz.f62) (c := (bodyOf Tryz.f62)) (T := ⟨lookC (bencode_parser_str_ct n) (bencode_parser_str_dt n), lookL (bencode_parser_str_lt n), lookJ (bencode_parser_str_jt0 n), bencode_parser_str_dr⟩) (N := 400) (ps := [(0, .one (.ptr)), (1, .one (.int .i64)), (2, .one (.int .i64))])
    (by kernel_rfl) (by kernel_rfl) (by kernel_rfl) (by kernel_rfl) (by kernel_rfl) (tabs_ok (P := Tryz.prog) (body := (bodyOf Tryz.f62)) (W := (41, none)) (cl := bencode_parser_str_ct n) (dl := bencode_parser_str_dt n) (ll := bencode_parser_str_lt n) (dr := bencode_parser_str_dr) (fin := (finF Tryz.prog Tryz.f62 [.one (.int .i64), .one (.bool)])) (N := 400) (js := bencode_parser_str_jt0 n) AllMo.nil (AllOK.cons (bencode_parser_node_ok n) (AllOK.cons (bencode_parser_text_ok n) (AllOK.cons (codepoint_Check_ok n) AllOK.nil))) AllD.nil AllL.nil AllJ.nil) (fun x => by kernel_rfl)
structure Cl_bencode_parser_value where
  bencode_parser_value : Option Addr → (Int × Int × Int × Int × Int × Int × Int × Bool × Bool) → Int → M (Int × Bool)
  bencode_parser_list_L0 : Option Addr → Int → Int → Int → Bool → Int → M (Bool)
  bencode_parser_list : Option Addr → Int → Int → M (Int × Bool)
  bencode_parser_dictionary_L0 : Option Addr → Int → Int → Int → Bool → ByteArray → Int → M ((Bool) ⊕ (Int × Bool))
  bencode_parser_dictionary : Option Addr → Int → Int → M (Int × Bool)
def bencode_parser_value_J0_B (G : Cl_bencode_parser_value) (n : Nat) (a0 : Option Addr) (a1 : Int) (a2 : Int) : M (Int × Bool) :=
  M.bind (nn a0) fun x0 =>
  M.bind (nn a0) fun x1 =>
  M.bind (nn a0) fun x2 =>
  M.bind (ldL .sl ((x0.plus 2).plus 4)) fun (x3 : Sl) =>
  M.bind (ldL .sl ((x1.plus 2).plus 4)) fun (x4 : Sl) =>
  M.bind (ldL (li) (x2.plus 1)) fun (x5 : Int) =>
  M.bind (idxA x3 a1 9) fun x6 =>
  M.bind (stN (x6.plus 0) [vi a2]) fun x7 =>
  M.bind (idxA x4 a1 9) fun x8 =>
  M.bind (stN (x8.plus 4) [vi x5]) fun x9 =>
  M.pure (a2, true)
def bencode_parser_value_B (G : Cl_bencode_parser_value) (n : Nat) (a0 : Option Addr) (a1 : Int × Int × Int × Int × Int × Int × Int × Bool × Bool) (a2 : Int) : M (Int × Bool) :=
  M.bind (newB none T_api_Span [vi a1.1, vi a1.2.1, vi a1.2.2.1, vi a1.2.2.2.1, vi a1.2.2.2.2.1, vi a1.2.2.2.2.2.1, vi a1.2.2.2.2.2.2.1, Value.bool a1.2.2.2.2.2.2.2.1, Value.bool a1.2.2.2.2.2.2.2.2]) fun x0 =>
  M.bind (bencode_parser_more n a0) fun x1 =>
  if !x1 then
    M.pure (0, false)
  else
    M.bind (nn a0) fun x2 =>
    M.bind (ldL (li) (x2.plus 1)) fun (x3 : Int) =>
    M.bind (stN ((adr x0).plus 3) [vi x3]) fun x4 =>
    M.bind (stN ((adr x0).plus 8) [Value.bool true]) fun x5 =>
    M.bind (nn a0) fun x6 =>
    M.bind (ldL .sl ((x6.plus 2).plus 4)) fun (x7 : Sl) =>
    M.bind (nn a0) fun x8 =>
    M.bind (ldL .sl ((x8.plus 2).plus 4)) fun (x9 : Sl) =>
    M.bind (ldLs [li, li, li, li, li, li, li, .bool, .bool] (adr x0)) fun (x10 : Int × Int × Int × Int × Int × Int × Int × Bool × Bool) =>
    M.bind (app true x9 9 T_api_Span 1 [vi x10.1, vi x10.2.1, vi x10.2.2.1, vi x10.2.2.2.1, vi x10.2.2.2.2.1, vi x10.2.2.2.2.2.1, vi x10.2.2.2.2.2.2.1, Value.bool x10.2.2.2.2.2.2.2.1, Value.bool x10.2.2.2.2.2.2.2.2]) fun x11 =>
    M.bind (nn a0) fun x12 =>
    M.bind (stN ((x12.plus 2).plus 4) [vsl x11]) fun x13 =>
    M.bind (nn a0) fun x14 =>
    M.bind (nn a0) fun x15 =>
    M.bind (ldL .str (x14.plus 0)) fun (x16 : ByteArray) =>
    M.bind (ldL (li) (x15.plus 1)) fun (x17 : Int) =>
    M.bind (idxS x16 x17) fun x18 =>
    if decide ((↑x18.toNat : Int) = 105) then
      M.bind (bencode_parser_integer n a0 a2 (↑x7.len : Int)) fun x19 =>
      if !x19.2 then
        M.pure (0, false)
      else
        M.bind (nn a0) fun x20 =>
        M.bind (ldL (li) (x20.plus 8)) fun (x21 : Int) =>
        if !decide (x21 = 0) then
          M.pure (0, false)
        else
          bencode_parser_value_J0_B G n a0 (↑x7.len : Int) x19.1
    else
      if decide ((↑x18.toNat : Int) = 108) then
        M.bind (G.bencode_parser_list a0 a2 (↑x7.len : Int)) fun x19 =>
        if !x19.2 then
          M.pure (0, false)
        else
          M.bind (nn a0) fun x20 =>
          M.bind (ldL (li) (x20.plus 8)) fun (x21 : Int) =>
          if !decide (x21 = 0) then
            M.pure (0, false)
          else
            bencode_parser_value_J0_B G n a0 (↑x7.len : Int) x19.1
      else
        if decide ((↑x18.toNat : Int) = 100) then
          M.bind (G.bencode_parser_dictionary a0 a2 (↑x7.len : Int)) fun x19 =>
          if !x19.2 then
            M.pure (0, false)
          else
            M.bind (nn a0) fun x20 =>
            M.bind (ldL (li) (x20.plus 8)) fun (x21 : Int) =>
            if !decide (x21 = 0) then
              M.pure (0, false)
            else
              bencode_parser_value_J0_B G n a0 (↑x7.len : Int) x19.1
        else
          M.bind (bencode_parser_str n a0 a2 (↑x7.len : Int)) fun x19 =>
          if !x19.2 then
            M.pure (0, false)
          else
            M.bind (nn a0) fun x20 =>
            M.bind (ldL (li) (x20.plus 8)) fun (x21 : Int) =>
            if !decide (x21 = 0) then
              M.pure (0, false)
            else
              bencode_parser_value_J0_B G n a0 (↑x7.len : Int) x19.1
def bencode_parser_list_L0_J0_B (G : Cl_bencode_parser_value) (n : Nat) (a0 : Option Addr) (a1 : Int) (a2 : Int) (a3 : Int) (a4 : Bool) (a5 : Int) : M (Bool) :=
  M.bind (G.bencode_parser_value a0 (0, a2, a5, 0, 0, 0, 0, false, false) (IntKind.i64.wrap (a1 + 1))) fun x0 =>
  if x0.2 then
    M.bind (nn a0) fun x1 =>
    M.bind (nn a0) fun x2 =>
    M.bind (ldL .sl (((x1.plus 2).plus 2).plus 0)) fun (x3 : Sl) =>
    M.bind (ldL .sl (((x2.plus 2).plus 2).plus 0)) fun (x4 : Sl) =>
    M.bind (idxA x4 a3 5) fun x5 =>
    M.bind (ldL .sl (x5.plus 4)) fun (x6 : Sl) =>
    M.bind (app true x6 1 T_i64 1 [vi x0.1]) fun x7 =>
    M.bind (idxA x3 a3 5) fun x8 =>
    M.bind (stN (x8.plus 4) [vsl x7]) fun x9 =>
    G.bencode_parser_list_L0 a0 a1 a2 a3 x0.2 (IntKind.i64.wrap (a5 + 1))
  else
    G.bencode_parser_list_L0 a0 a1 a2 a3 x0.2 (IntKind.i64.wrap (a5 + 1))
def bencode_parser_list_L0_B (G : Cl_bencode_parser_value) (n : Nat) (a0 : Option Addr) (a1 : Int) (a2 : Int) (a3 : Int) (a4 : Bool) (a5 : Int) : M (Bool) :=
  if a4 then
    M.bind (bencode_parser_more n a0) fun x0 =>
    if x0 then
      M.bind (nn a0) fun x1 =>
      M.bind (nn a0) fun x2 =>
      M.bind (ldL .str (x1.plus 0)) fun (x3 : ByteArray) =>
      M.bind (ldL (li) (x2.plus 1)) fun (x4 : Int) =>
      M.bind (idxS x3 x4) fun x5 =>
      if !decide ((↑x5.toNat : Int) = 101) then
        bencode_parser_list_L0_J0_B G n a0 a1 a2 a3 a4 a5
      else
        M.pure a4
    else
      M.pure a4
  else
    M.pure a4
def bencode_parser_list_B (G : Cl_bencode_parser_value) (n : Nat) (a0 : Option Addr) (a1 : Int) (a2 : Int) : M (Int × Bool) :=
  M.bind (nn a0) fun x0 =>
  M.bind (ldL (li) (x0.plus 1)) fun (x1 : Int) =>
  M.bind (bencode_parser_node n a0 (9, (ofBytes []), false, sl0, sl0) x1 a1) fun x2 =>
  M.bind (nn a0) fun x3 =>
  M.bind (ldL (li) (x3.plus 1)) fun (x4 : Int) =>
  M.bind (nn a0) fun x5 =>
  M.bind (stN (x5.plus 1) [vi (IntKind.i64.wrap (x4 + 1))]) fun x6 =>
  M.bind (G.bencode_parser_list_L0 a0 a1 a2 x2.1 x2.2 0) fun x7 =>
  M.bind (nn a0) fun x8 =>
  M.bind (ldL (li) (x8.plus 1)) fun (x9 : Int) =>
  M.bind (nn a0) fun x10 =>
  M.bind (stN (x10.plus 1) [vi (IntKind.i64.wrap (x9 + 1))]) fun x11 =>
  M.pure (x2.1, x7)
def bencode_parser_dictionary_L0_J1_B (G : Cl_bencode_parser_value) (n : Nat) (a0 : Option Addr) (a1 : Int) (a2 : Int) (a3 : Int) (a4 : Bool) (a5 : ByteArray) (a6 : Int) (a7 : Int) (a8 : ByteArray) (a9 : Int) : M ((Bool) ⊕ (Int × Bool)) :=
  M.bind (nn a0) fun x0 =>
  M.bind (ldL (li) (x0.plus 1)) fun (x1 : Int) =>
  M.bind (G.bencode_parser_value a0 (0, a2, a6, 0, 0, a7, x1, false, false) (IntKind.i64.wrap (a1 + 1))) fun x2 =>
  if x2.2 then
    M.bind (nn a0) fun x3 =>
    M.bind (ldL .sl (((x3.plus 2).plus 2).plus 0)) fun (x4 : Sl) =>
    M.bind (idxA x4 a3 5) fun x5 =>
    M.bind (nn (some x5)) fun x6 =>
    M.bind (nn (some x5)) fun x7 =>
    M.bind (ldL .sl (x6.plus 3)) fun (x8 : Sl) =>
    M.bind (ldL .sl (x7.plus 4)) fun (x9 : Sl) =>
    M.bind (app true x8 1 T_i64 1 [vi a9]) fun x10 =>
    M.bind (app true x9 1 T_i64 1 [vi x2.1]) fun x11 =>
    M.bind (nn (some x5)) fun x12 =>
    M.bind (stN (x12.plus 3) [vsl x10]) fun x13 =>
    M.bind (nn (some x5)) fun x14 =>
    M.bind (stN (x14.plus 4) [vsl x11]) fun x15 =>
    G.bencode_parser_dictionary_L0 a0 a1 a2 a3 x2.2 a8 (IntKind.i64.wrap (a6 + 1))
  else
    G.bencode_parser_dictionary_L0 a0 a1 a2 a3 x2.2 a8 (IntKind.i64.wrap (a6 + 1))
def bencode_parser_dictionary_L0_J0_B (G : Cl_bencode_parser_value) (n : Nat) (a0 : Option Addr) (a1 : Int) (a2 : Int) (a3 : Int) (a4 : Bool) (a5 : ByteArray) (a6 : Int) : M ((Bool) ⊕ (Int × Bool)) :=
  M.bind (nn a0) fun x0 =>
  M.bind (ldL (li) (x0.plus 1)) fun (x1 : Int) =>
  M.bind (bencode_parser_text n a0) fun x2 =>
  if !x2.2 then
    M.pure (Sum.inr (0, false))
  else
    M.bind (bencode_parser_node n a0 (5, x2.1, false, sl0, sl0) x1 (IntKind.i64.wrap (a1 + 1))) fun x3 =>
    if !x3.2 then
      M.pure (Sum.inr (0, false))
    else
      M.bind (codepoint_Check n x2.1) fun x4 =>
      if !decide (x4.2 = 0) then
        M.bind (bencode_parser_fail n a0 x1 11) fun x5 =>
        M.pure (Sum.inr (0, x5))
      else
        if decide (0 < a6) then
          if ltS x2.1 a5 || eqS x2.1 a5 then
            M.bind (bencode_parser_fail n a0 x1 16) fun x5 =>
            M.pure (Sum.inr (0, x5))
          else
            bencode_parser_dictionary_L0_J1_B G n a0 a1 a2 a3 a4 a5 a6 x1 x2.1 x3.1
        else
          bencode_parser_dictionary_L0_J1_B G n a0 a1 a2 a3 a4 a5 a6 x1 x2.1 x3.1
def bencode_parser_dictionary_L0_B (G : Cl_bencode_parser_value) (n : Nat) (a0 : Option Addr) (a1 : Int) (a2 : Int) (a3 : Int) (a4 : Bool) (a5 : ByteArray) (a6 : Int) : M ((Bool) ⊕ (Int × Bool)) :=
  if a4 then
    M.bind (bencode_parser_more n a0) fun x0 =>
    if x0 then
      M.bind (nn a0) fun x1 =>
      M.bind (nn a0) fun x2 =>
      M.bind (ldL .str (x1.plus 0)) fun (x3 : ByteArray) =>
      M.bind (ldL (li) (x2.plus 1)) fun (x4 : Int) =>
      M.bind (idxS x3 x4) fun x5 =>
      if !decide ((↑x5.toNat : Int) = 101) then
        bencode_parser_dictionary_L0_J0_B G n a0 a1 a2 a3 a4 a5 a6
      else
        M.pure (Sum.inl a4)
    else
      M.pure (Sum.inl a4)
  else
    M.pure (Sum.inl a4)
def bencode_parser_dictionary_B (G : Cl_bencode_parser_value) (n : Nat) (a0 : Option Addr) (a1 : Int) (a2 : Int) : M (Int × Bool) :=
  M.bind (nn a0) fun x0 =>
  M.bind (ldL (li) (x0.plus 1)) fun (x1 : Int) =>
  M.bind (bencode_parser_node n a0 (10, (ofBytes []), false, sl0, sl0) x1 a1) fun x2 =>
  M.bind (nn a0) fun x3 =>
  M.bind (ldL (li) (x3.plus 1)) fun (x4 : Int) =>
  M.bind (nn a0) fun x5 =>
  M.bind (stN (x5.plus 1) [vi (IntKind.i64.wrap (x4 + 1))]) fun x6 =>
  M.bind (G.bencode_parser_dictionary_L0 a0 a1 a2 x2.1 x2.2 (ofBytes []) 0) (sumElim (fun x7 =>
    M.bind (nn a0) fun x8 =>
    M.bind (ldL (li) (x8.plus 1)) fun (x9 : Int) =>
    M.bind (nn a0) fun x10 =>
    M.bind (stN (x10.plus 1) [vi (IntKind.i64.wrap (x9 + 1))]) fun x11 =>
    M.pure (x2.1, x7))
  (fun x7 =>
    M.pure (x7.1, x7.2)))
def Cl_bencode_parser_value.at : Nat → Cl_bencode_parser_value
  | 0 => ⟨fun _ _ _ => M.fail, fun _ _ _ _ _ _ => M.fail, fun _ _ _ => M.fail, fun _ _ _ _ _ _ _ => M.fail, fun _ _ _ => M.fail⟩
  | n + 1 => ⟨bencode_parser_value_B (Cl_bencode_parser_value.at n) n, bencode_parser_list_L0_B (Cl_bencode_parser_value.at n) n, bencode_parser_list_B (Cl_bencode_parser_value.at n) n, bencode_parser_dictionary_L0_B (Cl_bencode_parser_value.at n) n, bencode_parser_dictionary_B (Cl_bencode_parser_value.at n) n⟩
def bencode_parser_value (n : Nat) (a0 : Option Addr) (a1 : Int × Int × Int × Int × Int × Int × Int × Bool × Bool) (a2 : Int) : M (Int × Bool) := (Cl_bencode_parser_value.at n).bencode_parser_value a0 a1 a2
theorem bencode_parser_value_succ (n : Nat) (a0 : Option Addr) (a1 : Int × Int × Int × Int × Int × Int × Int × Bool × Bool) (a2 : Int) : bencode_parser_value (n + 1) a0 a1 a2 = bencode_parser_value_B (Cl_bencode_parser_value.at n) n a0 a1 a2 := rfl
def bencode_parser_list_L0 (n : Nat) (a0 : Option Addr) (a1 : Int) (a2 : Int) (a3 : Int) (a4 : Bool) (a5 : Int) : M (Bool) := (Cl_bencode_parser_value.at n).bencode_parser_list_L0 a0 a1 a2 a3 a4 a5
theorem bencode_parser_list_L0_succ (n : Nat) (a0 : Option Addr) (a1 : Int) (a2 : Int) (a3 : Int) (a4 : Bool) (a5 : Int) : bencode_parser_list_L0 (n + 1) a0 a1 a2 a3 a4 a5 = bencode_parser_list_L0_B (Cl_bencode_parser_value.at n) n a0 a1 a2 a3 a4 a5 := rfl
def bencode_parser_list (n : Nat) (a0 : Option Addr) (a1 : Int) (a2 : Int) : M (Int × Bool) := (Cl_bencode_parser_value.at n).bencode_parser_list a0 a1 a2
theorem bencode_parser_list_succ (n : Nat) (a0 : Option Addr) (a1 : Int) (a2 : Int) : bencode_parser_list (n + 1) a0 a1 a2 = bencode_parser_list_B (Cl_bencode_parser_value.at n) n a0 a1 a2 := rfl
def bencode_parser_dictionary_L0 (n : Nat) (a0 : Option Addr) (a1 : Int) (a2 : Int) (a3 : Int) (a4 : Bool) (a5 : ByteArray) (a6 : Int) : M ((Bool) ⊕ (Int × Bool)) := (Cl_bencode_parser_value.at n).bencode_parser_dictionary_L0 a0 a1 a2 a3 a4 a5 a6
theorem bencode_parser_dictionary_L0_succ (n : Nat) (a0 : Option Addr) (a1 : Int) (a2 : Int) (a3 : Int) (a4 : Bool) (a5 : ByteArray) (a6 : Int) : bencode_parser_dictionary_L0 (n + 1) a0 a1 a2 a3 a4 a5 a6 = bencode_parser_dictionary_L0_B (Cl_bencode_parser_value.at n) n a0 a1 a2 a3 a4 a5 a6 := rfl
def bencode_parser_dictionary (n : Nat) (a0 : Option Addr) (a1 : Int) (a2 : Int) : M (Int × Bool) := (Cl_bencode_parser_value.at n).bencode_parser_dictionary a0 a1 a2
theorem bencode_parser_dictionary_succ (n : Nat) (a0 : Option Addr) (a1 : Int) (a2 : Int) : bencode_parser_dictionary (n + 1) a0 a1 a2 = bencode_parser_dictionary_B (Cl_bencode_parser_value.at n) n a0 a1 a2 := rfl
def bencode_parser_value_J0 (n : Nat) (a0 : Option Addr) (a1 : Int) (a2 : Int) : M (Int × Bool) := bencode_parser_value_J0_B (Cl_bencode_parser_value.at n) n a0 a1 a2
def bencode_parser_list_L0_J0 (n : Nat) (a0 : Option Addr) (a1 : Int) (a2 : Int) (a3 : Int) (a4 : Bool) (a5 : Int) : M (Bool) := bencode_parser_list_L0_J0_B (Cl_bencode_parser_value.at n) n a0 a1 a2 a3 a4 a5
def bencode_parser_dictionary_L0_J0 (n : Nat) (a0 : Option Addr) (a1 : Int) (a2 : Int) (a3 : Int) (a4 : Bool) (a5 : ByteArray) (a6 : Int) : M ((Bool) ⊕ (Int × Bool)) := bencode_parser_dictionary_L0_J0_B (Cl_bencode_parser_value.at n) n a0 a1 a2 a3 a4 a5 a6
def bencode_parser_dictionary_L0_J1 (n : Nat) (a0 : Option Addr) (a1 : Int) (a2 : Int) (a3 : Int) (a4 : Bool) (a5 : ByteArray) (a6 : Int) (a7 : Int) (a8 : ByteArray) (a9 : Int) : M ((Bool) ⊕ (Int × Bool)) := bencode_parser_dictionary_L0_J1_B (Cl_bencode_parser_value.at n) n a0 a1 a2 a3 a4 a5 a6 a7 a8 a9
def bencode_parser_value_dt (n : Nat) : List DEnt := []
def bencode_parser_value_ct (n : Nat) : List Ent := [⟨58, [.one (.ptr)], [.one (.bool)], fun x => bencode_parser_more n (x)⟩,
  ⟨59, [.one (.ptr), .one (.int .i64), .one (.int .i64)], [.one (.int .i64), .one (.bool)], fun x => bencode_parser_integer n (x.1) (x.2.1) (x.2.2)⟩,
  ⟨60, [.one (.ptr), .one (.int .i64), .one (.int .i64)], [.one (.int .i64), .one (.bool)], fun x => bencode_parser_list n (x.1) (x.2.1) (x.2.2)⟩,
  ⟨61, [.one (.ptr), .one (.int .i64), .one (.int .i64)], [.one (.int .i64), .one (.bool)], fun x => bencode_parser_dictionary n (x.1) (x.2.1) (x.2.2)⟩,
  ⟨62, [.one (.ptr), .one (.int .i64), .one (.int .i64)], [.one (.int .i64), .one (.bool)], fun x => bencode_parser_str n (x.1) (x.2.1) (x.2.2)⟩]
def bencode_parser_value_dr (i : Nat) : Option (List (Nat × List Nat)) := cond (Nat.beq i 5) (some [(0, []), (1, []), (2, []), (3, []), (4, []), (5, []), (6, []), (7, []), (8, []), (9, []), (10, []), (11, []), (12, [])]) (cond (Nat.beq i 7) (some [(0, []), (1, []), (2, []), (4, []), (5, []), (6, []), (3, []), (7, []), (8, [])]) (cond (Nat.beq i 18) (some [(0, []), (1, []), (2, []), (3, []), (5, []), (6, []), (7, []), (8, []), (9, []), (11, []), (12, []), (13, []), (14, []), (15, []), (4, []), (10, []), (16, []), (17, []), (18, []), (19, []), (20, []), (21, []), (22, [])]) (none)))
def bencode_parser_value_lt (n : Nat) : List LEnt := []
def bencode_parser_value_jt1 (n : Nat) : List (JEnt (Int × Bool)) := []
def bencode_parser_value_jt0 (n : Nat) : List (JEnt (Int × Bool)) := ⟨[0, 1, 1, 1, 1, 1, 1, 1, 1, 1], [.code [1, 1, 1, 1, 1, 1, 1, 1, 1, 1]], [(0, .one (.ptr)), (8, .one (.int .i64)), (10, .one (.int .i64))], fun x => bencode_parser_value_J0 n (x.1) (x.2.1) (x.2.2)⟩ :: bencode_parser_value_jt1 n
def bencode_parser_list_dt (n : Nat) : List DEnt := []
def bencode_parser_list_ct (n : Nat) : List Ent := [⟨19, [.one (.ptr), .agg [.int .i64, .int .i64, .int .i64, .int .i64, .int .i64, .int .i64, .int .i64, .bool, .bool], .one (.int .i64)], [.one (.int .i64), .one (.bool)], fun x => bencode_parser_value n (x.1) (x.2.1) (x.2.2)⟩,
  ⟨58, [.one (.ptr)], [.one (.bool)], fun x => bencode_parser_more n (x)⟩,
  ⟨98, [.one (.ptr), .agg [.int .i64, .str, .bool, .sl, .sl], .one (.int .i64), .one (.int .i64)], [.one (.int .i64), .one (.bool)], fun x => bencode_parser_node n (x.1) (x.2.1) (x.2.2.1) (x.2.2.2)⟩]
def bencode_parser_list_dr (i : Nat) : Option (List (Nat × List Nat)) := cond (Nat.beq i 4) (some [(0, []), (1, []), (2, []), (3, []), (4, []), (5, []), (6, []), (7, []), (8, []), (10, []), (11, []), (12, []), (9, []), (13, []), (14, []), (15, []), (16, [])]) (cond (Nat.beq i 9) (some [(0, []), (1, []), (2, []), (3, []), (4, []), (6, []), (7, []), (8, []), (9, []), (10, []), (11, []), (13, []), (17, []), (18, []), (5, []), (12, []), (14, []), (15, []), (16, []), (19, []), (20, []), (21, []), (22, [])]) (none))
def bencode_parser_list_L0_lt (n : Nat) : List LEnt := []
def bencode_parser_list_L0_jt1 (n : Nat) : List (JEnt (Bool)) := []
def bencode_parser_list_L0_jt0 (n : Nat) : List (JEnt (Bool)) := ⟨[0, 0, 0, 1, 0, 0, 1, 0, 1, 1, 1], [.code [1, 0, 0, 1, 0, 0, 1, 0, 1, 1, 1], .blk 1, .code [1, 1, 0, 0, 1, 0, 1, 1, 1]], [(0, .one (.ptr)), (1, .one (.int .i64)), (2, .one (.int .i64)), (8, .one (.int .i64)), (9, .one (.bool)), (10, .one (.int .i64))], fun x => bencode_parser_list_L0_J0 n (x.1) (x.2.1) (x.2.2.1) (x.2.2.2.1) (x.2.2.2.2.1) (x.2.2.2.2.2)⟩ :: bencode_parser_list_L0_jt1 n
def bencode_parser_list_lt (n : Nat) : List LEnt := [⟨[0, 1, 0, 1, 1, 1], [(0, .one (.ptr)), (1, .one (.int .i64)), (2, .one (.int .i64)), (8, .one (.int .i64)), (9, .one (.bool)), (10, .one (.int .i64))], actL1 [(0, .one (.ptr)), (1, .one (.int .i64)), (2, .one (.int .i64)), (8, .one (.int .i64)), (9, .one (.bool)), (10, .one (.int .i64))] [(9, .one (.bool))] [9, 10, 11, 30, 31, 32, 33, 34, 35, 36, 37, 38, 39, 40, 41, 42, 43, 44, 45, 46, 47, 48, 49, 50, 51, 52, 53, 54, 55, 56, 57, 58, 59, 60, 61, 62, 63, 64, 65, 66, 67, 68, 69, 70, 71, 72, 73, 74, 75, 76, 77, 78, 79, 80, 81] 0 (fun x => bencode_parser_list_L0 n (x.1) (x.2.1) (x.2.2.1) (x.2.2.2.1) (x.2.2.2.2.1) (x.2.2.2.2.2))⟩]
def bencode_parser_list_jt0 (n : Nat) : List (JEnt (Int × Bool)) := []
def bencode_parser_dictionary_dt (n : Nat) : List DEnt := []
def bencode_parser_dictionary_ct (n : Nat) : List Ent := [⟨19, [.one (.ptr), .agg [.int .i64, .int .i64, .int .i64, .int .i64, .int .i64, .int .i64, .int .i64, .bool, .bool], .one (.int .i64)], [.one (.int .i64), .one (.bool)], fun x => bencode_parser_value n (x.1) (x.2.1) (x.2.2)⟩,
  ⟨20, [.one (.ptr), .one (.int .i64), .one (.int .i64)], [.one (.bool)], fun x => bencode_parser_fail n (x.1) (x.2.1) (x.2.2)⟩,
  ⟨58, [.one (.ptr)], [.one (.bool)], fun x => bencode_parser_more n (x)⟩,
  ⟨98, [.one (.ptr), .agg [.int .i64, .str, .bool, .sl, .sl], .one (.int .i64), .one (.int .i64)], [.one (.int .i64), .one (.bool)], fun x => bencode_parser_node n (x.1) (x.2.1) (x.2.2.1) (x.2.2.2)⟩,
  ⟨99, [.one (.ptr)], [.one (.str), .one (.bool)], fun x => bencode_parser_text n (x)⟩,
  ⟨100, [.one (.str)], [.one (.int .i64), .one (.int .i64)], fun x => codepoint_Check n (x)⟩]
def bencode_parser_dictionary_dr (i : Nat) : Option (List (Nat × List Nat)) := cond (Nat.beq i 5) (some [(0, []), (1, []), (2, []), (3, []), (4, []), (5, []), (6, []), (7, []), (8, []), (10, []), (11, []), (12, []), (9, []), (13, []), (14, []), (15, []), (16, [])]) (cond (Nat.beq i 24) (some [(0, []), (1, []), (2, []), (3, []), (4, []), (6, []), (7, []), (9, []), (10, []), (11, []), (13, []), (14, []), (5, []), (12, []), (8, []), (15, []), (16, []), (17, []), (18, []), (19, []), (20, []), (21, [])]) (none))
def bencode_parser_dictionary_L0_lt (n : Nat) : List LEnt := []
def bencode_parser_dictionary_L0_jt2 (n : Nat) : List (JEnt ((Bool) ⊕ (Int × Bool))) := []
def bencode_parser_dictionary_L0_jt1 (n : Nat) : List (JEnt ((Bool) ⊕ (Int × Bool))) := ⟨[0, 1, 1, 1, 1, 1, 1, 1, 0, 0, 1, 0, 0, 1, 0, 1, 1, 1, 1], [.code [1, 1, 1, 1, 1, 1, 1, 1, 0, 0, 1, 0, 0, 1, 0, 1, 1, 1, 1], .blk 1, .code [1, 1, 0, 0, 1, 0, 1, 1, 1, 1]], [(0, .one (.ptr)), (1, .one (.int .i64)), (2, .one (.int .i64)), (8, .one (.int .i64)), (9, .one (.bool)), (10, .one (.str)), (11, .one (.int .i64)), (12, .one (.int .i64)), (13, .one (.str)), (15, .one (.int .i64))], fun x => bencode_parser_dictionary_L0_J1 n (x.1) (x.2.1) (x.2.2.1) (x.2.2.2.1) (x.2.2.2.2.1) (x.2.2.2.2.2.1) (x.2.2.2.2.2.2.1) (x.2.2.2.2.2.2.2.1) (x.2.2.2.2.2.2.2.2.1) (x.2.2.2.2.2.2.2.2.2)⟩ :: bencode_parser_dictionary_L0_jt2 n
def bencode_parser_dictionary_L0_jt0 (n : Nat) : List (JEnt ((Bool) ⊕ (Int × Bool))) := ⟨[0, 0, 0, 1, 0, 0, 1, 0, 1, 1, 1, 1], [.code [1, 0, 0, 1, 0, 0, 1, 0, 1, 1, 1, 1], .blk 1, .code [1, 1, 0, 0, 1, 0, 1, 1, 1, 1]], [(0, .one (.ptr)), (1, .one (.int .i64)), (2, .one (.int .i64)), (8, .one (.int .i64)), (9, .one (.bool)), (10, .one (.str)), (11, .one (.int .i64))], fun x => bencode_parser_dictionary_L0_J0 n (x.1) (x.2.1) (x.2.2.1) (x.2.2.2.1) (x.2.2.2.2.1) (x.2.2.2.2.2.1) (x.2.2.2.2.2.2)⟩ :: bencode_parser_dictionary_L0_jt1 n
def bencode_parser_dictionary_lt (n : Nat) : List LEnt := [⟨[0, 1, 0, 1, 1, 1, 1], [(0, .one (.ptr)), (1, .one (.int .i64)), (2, .one (.int .i64)), (8, .one (.int .i64)), (9, .one (.bool)), (10, .one (.str)), (11, .one (.int .i64))], actL2 [(0, .one (.ptr)), (1, .one (.int .i64)), (2, .one (.int .i64)), (8, .one (.int .i64)), (9, .one (.bool)), (10, .one (.str)), (11, .one (.int .i64))] [(9, .one (.bool))] [(6, .one (.int .i64)), (7, .one (.bool))] [6, 7, 9, 10, 11, 12, 13, 14, 15, 16, 17, 18, 19, 20, 39, 40, 41, 42, 43, 44, 45, 46, 47, 48, 49, 50, 51, 52, 53, 54, 55, 56, 57, 58, 59, 60, 61, 62, 63, 64, 65, 66, 67, 68, 69, 70, 71, 72, 73, 74, 75, 76, 77, 78, 79, 80, 81, 82, 83, 84, 85, 86, 87, 88, 89, 90, 91, 92, 93, 94, 95, 96, 97, 98, 99, 100, 101, 102, 103, 104, 105, 106, 107, 108, 109, 110, 111, 112, 113, 114, 115, 116, 117, 118, 119, 120, 121, 122, 123, 124, 125, 126, 127, 128, 129, 130, 131, 132, 133, 134, 135, 136, 137, 138, 139, 140, 141, 142, 143, 144, 145] 0 .ret (fun x => bencode_parser_dictionary_L0 n (x.1) (x.2.1) (x.2.2.1) (x.2.2.2.1) (x.2.2.2.2.1) (x.2.2.2.2.2.1) (x.2.2.2.2.2.2))⟩]
def bencode_parser_dictionary_jt0 (n : Nat) : List (JEnt (Int × Bool)) := []
def P_bencode_parser_value (n : Nat) : Prop := FnOK Tryz.prog ⟨19, [.one (.ptr), .agg [.int .i64, .int .i64, .int .i64, .int .i64, .int .i64, .int .i64, .int .i64, .bool, .bool], .one (.int .i64)], [.one (.int .i64), .one (.bool)], fun x => bencode_parser_value n (x.1) (x.2.1) (x.2.2)⟩ ∧ FnOK Tryz.prog ⟨60, [.one (.ptr), .one (.int .i64), .one (.int .i64)], [.one (.int .i64), .one (.bool)], fun x => bencode_parser_list n (x.1) (x.2.1) (x.2.2)⟩ ∧ FnOK Tryz.prog ⟨61, [.one (.ptr), .one (.int .i64), .one (.int .i64)], [.one (.int .i64), .one (.bool)], fun x => bencode_parser_dictionary n (x.1) (x.2.1) (x.2.2)⟩
theorem bencode_parser_value_ok_step (n : Nat) (H : ∀ m, m < n + 1 → P_bencode_parser_value m) : FnOK Tryz.prog ⟨19, [.one (.ptr), .agg [.int .i64, .int .i64, .int .i64, .int .i64, .int .i64, .int .i64, .int .i64, .bool, .bool], .one (.int .i64)], [.one (.int .i64), .one (.bool)], fun x => bencode_parser_value (n + 1) (x.1) (x.2.1) (x.2.2)⟩ :=
  fn_ok (P := Tryz.prog) (e := ⟨19, [.one (.ptr), .agg [.int .i64, .int .i64, .int .i64, .int .i64, .int .i64, .int .i64, .int .i64, .bool, .bool], .one (.int .i64)], [.one (.int .i64), .one (.bool)], fun x => bencode_parser_value (n + 1) (x.1) (x.2.1) (x.2.2)⟩) (fn := Tryz.f19) (c := (bodyOf Tryz.f19)) (T := ⟨lookC (bencode_parser_value_ct n) (bencode_parser_value_dt n), lookL (bencode_parser_value_lt n), lookJ (bencode_parser_value_jt0 n), bencode_parser_value_dr⟩) (N := 400) (ps := [(0, .one (.ptr)), (1, .agg [.int .i64, .int .i64, .int .i64, .int .i64, .int .i64, .int .i64, .int .i64, .bool, .bool]), (2, .one (.int .i64))])
    (by kernel_rfl) (by kernel_rfl) (by kernel_rfl) (by kernel_rfl) (by kernel_rfl) (tabs_ok (P := Tryz.prog) (body := (bodyOf Tryz.f19)) (W := (100, none)) (cl := bencode_parser_value_ct n) (dl := bencode_parser_value_dt n) (ll := bencode_parser_value_lt n) (dr := bencode_parser_value_dr) (fin := (finF Tryz.prog Tryz.f19 [.one (.int .i64), .one (.bool)])) (N := 400) (js := bencode_parser_value_jt0 n) AllMo.nil (AllOK.cons (bencode_parser_more_ok n) (AllOK.cons (bencode_parser_integer_ok n) (AllOK.cons (H n (Nat.lt_succ_self n)).2.1 (AllOK.cons (H n (Nat.lt_succ_self n)).2.2 (AllOK.cons (bencode_parser_str_ok n) AllOK.nil))))) AllD.nil AllL.nil (AllJ.cons (fun x => by kernel_rfl) AllJ.nil)) (fun x => by kernel_rfl)
theorem bencode_parser_list_L0_ok (n : Nat) (H : ∀ m, m < n → P_bencode_parser_value m) {W : Wr} (hW : subW W 91 [9, 10, 11, 30, 31, 32, 33, 34, 35, 36, 37, 38, 39, 40, 41, 42, 43, 44, 45, 46, 47, 48, 49, 50, 51, 52, 53, 54, 55, 56, 57, 58, 59, 60, 61, 62, 63, 64, 65, 66, 67, 68, 69, 70, 71, 72, 73, 74, 75, 76, 77, 78, 79, 80, 81] = true) : LEntOK Tryz.prog (bodyOf Tryz.f60) W ⟨[0, 1, 0, 1, 1, 1], [(0, .one (.ptr)), (1, .one (.int .i64)), (2, .one (.int .i64)), (8, .one (.int .i64)), (9, .one (.bool)), (10, .one (.int .i64))], actL1 [(0, .one (.ptr)), (1, .one (.int .i64)), (2, .one (.int .i64)), (8, .one (.int .i64)), (9, .one (.bool)), (10, .one (.int .i64))] [(9, .one (.bool))] [9, 10, 11, 30, 31, 32, 33, 34, 35, 36, 37, 38, 39, 40, 41, 42, 43, 44, 45, 46, 47, 48, 49, 50, 51, 52, 53, 54, 55, 56, 57, 58, 59, 60, 61, 62, 63, 64, 65, 66, 67, 68, 69, 70, 71, 72, 73, 74, 75, 76, 77, 78, 79, 80, 81] 0 (fun x => bencode_parser_list_L0 n (x.1) (x.2.1) (x.2.2.1) (x.2.2.2.1) (x.2.2.2.2.1) (x.2.2.2.2.2))⟩ :=
  loop1_ok (P := Tryz.prog) (body := (bodyOf Tryz.f60)) (c := child (codeAt (bodyOf Tryz.f60) [0, 1, 0, 1, 1, 1]) 0) (p := [0, 1, 0, 1, 1, 1]) (ls := [(0, .one (.ptr)), (1, .one (.int .i64)), (2, .one (.int .i64)), (8, .one (.int .i64)), (9, .one (.bool)), (10, .one (.int .i64))]) (ms := [(9, .one (.bool))]) (id := 0) (nt := 91) (ws := [9, 10, 11, 30, 31, 32, 33, 34, 35, 36, 37, 38, 39, 40, 41, 42, 43, 44, 45, 46, 47, 48, 49, 50, 51, 52, 53, 54, 55, 56, 57, 58, 59, 60, 61, 62, 63, 64, 65, 66, 67, 68, 69, 70, 71, 72, 73, 74, 75, 76, 77, 78, 79, 80, 81]) (N := 400) (G := (fun n x => bencode_parser_list_L0 n (x.1) (x.2.1) (x.2.2.1) (x.2.2.2.1) (x.2.2.2.2.1) (x.2.2.2.2.2))) (T := fun n => ⟨lookC (bencode_parser_list_ct n) (bencode_parser_list_dt n), lookL (bencode_parser_list_L0_lt n), lookJ (bencode_parser_list_L0_jt0 n), bencode_parser_list_dr⟩)
    (by kernel_rfl) (fun _ => by kernel_rfl) (fun n x => by kernel_rfl) n (fun m hm => (tabs_ok (P := Tryz.prog) (body := (bodyOf Tryz.f60)) (W := (91, some [9, 10, 11, 30, 31, 32, 33, 34, 35, 36, 37, 38, 39, 40, 41, 42, 43, 44, 45, 46, 47, 48, 49, 50, 51, 52, 53, 54, 55, 56, 57, 58, 59, 60, 61, 62, 63, 64, 65, 66, 67, 68, 69, 70, 71, 72, 73, 74, 75, 76, 77, 78, 79, 80, 81])) (cl := bencode_parser_list_ct m) (dl := bencode_parser_list_dt m) (ll := bencode_parser_list_L0_lt m) (dr := bencode_parser_list_dr) (fin := (finL1 [(0, .one (.ptr)), (1, .one (.int .i64)), (2, .one (.int .i64)), (8, .one (.int .i64)), (9, .one (.bool)), (10, .one (.int .i64))] [(9, .one (.bool))] 0 (fun x => bencode_parser_list_L0 m (x.1) (x.2.1) (x.2.2.1) (x.2.2.2.1) (x.2.2.2.2.1) (x.2.2.2.2.2)))) (N := 400) (js := bencode_parser_list_L0_jt0 m) AllMo.nil (AllOK.cons (H m hm).1 (AllOK.cons (bencode_parser_more_ok m) (AllOK.cons (bencode_parser_node_ok m) AllOK.nil))) AllD.nil AllL.nil (AllJ.cons (fun x => by kernel_rfl) AllJ.nil))) hW
theorem bencode_parser_list_ok_step (n : Nat) (H : ∀ m, m < n + 1 → P_bencode_parser_value m) : FnOK Tryz.prog ⟨60, [.one (.ptr), .one (.int .i64), .one (.int .i64)], [.one (.int .i64), .one (.bool)], fun x => bencode_parser_list (n + 1) (x.1) (x.2.1) (x.2.2)⟩ :=
  fn_ok (P := Tryz.prog) (e := ⟨60, [.one (.ptr), .one (.int .i64), .one (.int .i64)], [.one (.int .i64), .one (.bool)], fun x => bencode_parser_list (n + 1) (x.1) (x.2.1) (x.2.2)⟩) (fn := Tryz.f60) (c := (bodyOf Tryz.f60)) (T := ⟨lookC (bencode_parser_list_ct n) (bencode_parser_list_dt n), lookL (bencode_parser_list_lt n), lookJ (bencode_parser_list_jt0 n), bencode_parser_list_dr⟩) (N := 400) (ps := [(0, .one (.ptr)), (1, .one (.int .i64)), (2, .one (.int .i64))])
    (by kernel_rfl) (by kernel_rfl) (by kernel_rfl) (by kernel_rfl) (by kernel_rfl) (tabs_ok (P := Tryz.prog) (body := (bodyOf Tryz.f60)) (W := (91, none)) (cl := bencode_parser_list_ct n) (dl := bencode_parser_list_dt n) (ll := bencode_parser_list_lt n) (dr := bencode_parser_list_dr) (fin := (finF Tryz.prog Tryz.f60 [.one (.int .i64), .one (.bool)])) (N := 400) (js := bencode_parser_list_jt0 n) AllMo.nil (AllOK.cons (H n (Nat.lt_succ_self n)).1 (AllOK.cons (bencode_parser_more_ok n) (AllOK.cons (bencode_parser_node_ok n) AllOK.nil))) AllD.nil (AllL.cons (bencode_parser_list_L0_ok n (fun k hk => H k (Nat.lt_succ_of_lt hk)) (by kernel_rfl)) AllL.nil) AllJ.nil) (fun x => by kernel_rfl)
theorem bencode_parser_dictionary_L0_ok (n : Nat) (H : ∀ m, m < n → P_bencode_parser_value m) {W : Wr} (hW : subW W 155 [6, 7, 9, 10, 11, 12, 13, 14, 15, 16, 17, 18, 19, 20, 39, 40, 41, 42, 43, 44, 45, 46, 47, 48, 49, 50, 51, 52, 53, 54, 55, 56, 57, 58, 59, 60, 61, 62, 63, 64, 65, 66, 67, 68, 69, 70, 71, 72, 73, 74, 75, 76, 77, 78, 79, 80, 81, 82, 83, 84, 85, 86, 87, 88, 89, 90, 91, 92, 93, 94, 95, 96, 97, 98, 99, 100, 101, 102, 103, 104, 105, 106, 107, 108, 109, 110, 111, 112, 113, 114, 115, 116, 117, 118, 119, 120, 121, 122, 123, 124, 125, 126, 127, 128, 129, 130, 131, 132, 133, 134, 135, 136, 137, 138, 139, 140, 141, 142, 143, 144, 145] = true) : LEntOK Tryz.prog (bodyOf Tryz.f61) W ⟨[0, 1, 0, 1, 1, 1, 1], [(0, .one (.ptr)), (1, .one (.int .i64)), (2, .one (.int .i64)), (8, .one (.int .i64)), (9, .one (.bool)), (10, .one (.str)), (11, .one (.int .i64))], actL2 [(0, .one (.ptr)), (1, .one (.int .i64)), (2, .one (.int .i64)), (8, .one (.int .i64)), (9, .one (.bool)), (10, .one (.str)), (11, .one (.int .i64))] [(9, .one (.bool))] [(6, .one (.int .i64)), (7, .one (.bool))] [6, 7, 9, 10, 11, 12, 13, 14, 15, 16, 17, 18, 19, 20, 39, 40, 41, 42, 43, 44, 45, 46, 47, 48, 49, 50, 51, 52, 53, 54, 55, 56, 57, 58, 59, 60, 61, 62, 63, 64, 65, 66, 67, 68, 69, 70, 71, 72, 73, 74, 75, 76, 77, 78, 79, 80, 81, 82, 83, 84, 85, 86, 87, 88, 89, 90, 91, 92, 93, 94, 95, 96, 97, 98, 99, 100, 101, 102, 103, 104, 105, 106, 107, 108, 109, 110, 111, 112, 113, 114, 115, 116, 117, 118, 119, 120, 121, 122, 123, 124, 125, 126, 127, 128, 129, 130, 131, 132, 133, 134, 135, 136, 137, 138, 139, 140, 141, 142, 143, 144, 145] 0 .ret (fun x => bencode_parser_dictionary_L0 n (x.1) (x.2.1) (x.2.2.1) (x.2.2.2.1) (x.2.2.2.2.1) (x.2.2.2.2.2.1) (x.2.2.2.2.2.2))⟩ :=
  loop2_ok (P := Tryz.prog) (body := (bodyOf Tryz.f61)) (c := child (codeAt (bodyOf Tryz.f61) [0, 1, 0, 1, 1, 1, 1]) 0) (p := [0, 1, 0, 1, 1, 1, 1]) (ls := [(0, .one (.ptr)), (1, .one (.int .i64)), (2, .one (.int .i64)), (8, .one (.int .i64)), (9, .one (.bool)), (10, .one (.str)), (11, .one (.int .i64))]) (ms := [(9, .one (.bool))]) (rs := [(6, .one (.int .i64)), (7, .one (.bool))]) (id := 0) (e2 := .ret) (nt := 155) (ws := [6, 7, 9, 10, 11, 12, 13, 14, 15, 16, 17, 18, 19, 20, 39, 40, 41, 42, 43, 44, 45, 46, 47, 48, 49, 50, 51, 52, 53, 54, 55, 56, 57, 58, 59, 60, 61, 62, 63, 64, 65, 66, 67, 68, 69, 70, 71, 72, 73, 74, 75, 76, 77, 78, 79, 80, 81, 82, 83, 84, 85, 86, 87, 88, 89, 90, 91, 92, 93, 94, 95, 96, 97, 98, 99, 100, 101, 102, 103, 104, 105, 106, 107, 108, 109, 110, 111, 112, 113, 114, 115, 116, 117, 118, 119, 120, 121, 122, 123, 124, 125, 126, 127, 128, 129, 130, 131, 132, 133, 134, 135, 136, 137, 138, 139, 140, 141, 142, 143, 144, 145]) (N := 400) (G := (fun n x => bencode_parser_dictionary_L0 n (x.1) (x.2.1) (x.2.2.1) (x.2.2.2.1) (x.2.2.2.2.1) (x.2.2.2.2.2.1) (x.2.2.2.2.2.2))) (T := fun n => ⟨lookC (bencode_parser_dictionary_ct n) (bencode_parser_dictionary_dt n), lookL (bencode_parser_dictionary_L0_lt n), lookJ (bencode_parser_dictionary_L0_jt0 n), bencode_parser_dictionary_dr⟩)
    (by kernel_rfl) (fun _ => by kernel_rfl) (fun n x => by kernel_rfl) n (fun m hm => (tabs_ok (P := Tryz.prog) (body := (bodyOf Tryz.f61)) (W := (155, some [6, 7, 9, 10, 11, 12, 13, 14, 15, 16, 17, 18, 19, 20, 39, 40, 41, 42, 43, 44, 45, 46, 47, 48, 49, 50, 51, 52, 53, 54, 55, 56, 57, 58, 59, 60, 61, 62, 63, 64, 65, 66, 67, 68, 69, 70, 71, 72, 73, 74, 75, 76, 77, 78, 79, 80, 81, 82, 83, 84, 85, 86, 87, 88, 89, 90, 91, 92, 93, 94, 95, 96, 97, 98, 99, 100, 101, 102, 103, 104, 105, 106, 107, 108, 109, 110, 111, 112, 113, 114, 115, 116, 117, 118, 119, 120, 121, 122, 123, 124, 125, 126, 127, 128, 129, 130, 131, 132, 133, 134, 135, 136, 137, 138, 139, 140, 141, 142, 143, 144, 145])) (cl := bencode_parser_dictionary_ct m) (dl := bencode_parser_dictionary_dt m) (ll := bencode_parser_dictionary_L0_lt m) (dr := bencode_parser_dictionary_dr) (fin := (finL2 [(0, .one (.ptr)), (1, .one (.int .i64)), (2, .one (.int .i64)), (8, .one (.int .i64)), (9, .one (.bool)), (10, .one (.str)), (11, .one (.int .i64))] [(9, .one (.bool))] [(6, .one (.int .i64)), (7, .one (.bool))] 0 .ret (fun x => bencode_parser_dictionary_L0 m (x.1) (x.2.1) (x.2.2.1) (x.2.2.2.1) (x.2.2.2.2.1) (x.2.2.2.2.2.1) (x.2.2.2.2.2.2)))) (N := 400) (js := bencode_parser_dictionary_L0_jt0 m) AllMo.nil (AllOK.cons (H m hm).1 (AllOK.cons (bencode_parser_fail_ok m) (AllOK.cons (bencode_parser_more_ok m) (AllOK.cons (bencode_parser_node_ok m) (AllOK.cons (bencode_parser_text_ok m) (AllOK.cons (codepoint_Check_ok m) AllOK.nil)))))) AllD.nil AllL.nil (AllJ.cons (fun x => by kernel_rfl) (AllJ.cons (fun x => by kernel_rfl) AllJ.nil)))) hW
theorem bencode_parser_dictionary_ok_step (n : Nat) (H : ∀ m, m < n + 1 → P_bencode_parser_value m) : FnOK Tryz.prog ⟨61, [.one (.ptr), .one (.int .i64), .one (.int .i64)], [.one (.int .i64), .one (.bool)], fun x => bencode_parser_dictionary (n + 1) (x.1) (x.2.1) (x.2.2)⟩ :=
  fn_ok (P := Tryz.prog) (e := ⟨61, [.one (.ptr), .one (.int .i64), .one (.int .i64)], [.one (.int .i64), .one (.bool)], fun x => bencode_parser_dictionary (n + 1) (x.1) (x.2.1) (x.2.2)⟩) (fn := Tryz.f61) (c := (bodyOf Tryz.f61)) (T := ⟨lookC (bencode_parser_dictionary_ct n) (bencode_parser_dictionary_dt n), lookL (bencode_parser_dictionary_lt n), lookJ (bencode_parser_dictionary_jt0 n), bencode_parser_dictionary_dr⟩) (N := 400) (ps := [(0, .one (.ptr)), (1, .one (.int .i64)), (2, .one (.int .i64))])
    (by kernel_rfl) (by kernel_rfl) (by kernel_rfl) (by kernel_rfl) (by kernel_rfl) (tabs_ok (P := Tryz.prog) (body := (bodyOf Tryz.f61)) (W := (155, none)) (cl := bencode_parser_dictionary_ct n) (dl := bencode_parser_dictionary_dt n) (ll := bencode_parser_dictionary_lt n) (dr := bencode_parser_dictionary_dr) (fin := (finF Tryz.prog Tryz.f61 [.one (.int .i64), .one (.bool)])) (N := 400) (js := bencode_parser_dictionary_jt0 n) AllMo.nil (AllOK.cons (H n (Nat.lt_succ_self n)).1 (AllOK.cons (bencode_parser_fail_ok n) (AllOK.cons (bencode_parser_more_ok n) (AllOK.cons (bencode_parser_node_ok n) (AllOK.cons (bencode_parser_text_ok n) (AllOK.cons (codepoint_Check_ok n) AllOK.nil)))))) AllD.nil (AllL.cons (bencode_parser_dictionary_L0_ok n (fun k hk => H k (Nat.lt_succ_of_lt hk)) (by kernel_rfl)) AllL.nil) AllJ.nil) (fun x => by kernel_rfl)
theorem P_bencode_parser_value_all : ∀ n m, m < n → P_bencode_parser_value m := by
  intro n
  induction n with
  | zero => intro m hm; exact absurd hm (Nat.not_lt_zero m)
  | succ n ih =>
    intro m hm
    cases m with
    | zero => exact ⟨fn_zero (fn := Tryz.f19) (by kernel_rfl) (by kernel_rfl) (by kernel_rfl) (fun _ => rfl), fn_zero (fn := Tryz.f60) (by kernel_rfl) (by kernel_rfl) (by kernel_rfl) (fun _ => rfl), fn_zero (fn := Tryz.f61) (by kernel_rfl) (by kernel_rfl) (by kernel_rfl) (fun _ => rfl)⟩
    | succ k => exact ⟨bencode_parser_value_ok_step k fun m hm => ih m (by omega), bencode_parser_list_ok_step k fun m hm => ih m (by omega), bencode_parser_dictionary_ok_step k fun m hm => ih m (by omega)⟩
theorem bencode_parser_value_ok (n : Nat) : FnOK Tryz.prog ⟨19, [.one (.ptr), .agg [.int .i64, .int .i64, .int .i64, .int .i64, .int .i64, .int .i64, .int .i64, .bool, .bool], .one (.int .i64)], [.one (.int .i64), .one (.bool)], fun x => bencode_parser_value n (x.1) (x.2.1) (x.2.2)⟩ := (P_bencode_parser_value_all (n + 1) n (Nat.lt_succ_self n)).1
theorem bencode_parser_list_ok (n : Nat) : FnOK Tryz.prog ⟨60, [.one (.ptr), .one (.int .i64), .one (.int .i64)], [.one (.int .i64), .one (.bool)], fun x => bencode_parser_list n (x.1) (x.2.1) (x.2.2)⟩ := (P_bencode_parser_value_all (n + 1) n (Nat.lt_succ_self n)).2.1
theorem bencode_parser_dictionary_ok (n : Nat) : FnOK Tryz.prog ⟨61, [.one (.ptr), .one (.int .i64), .one (.int .i64)], [.one (.int .i64), .one (.bool)], fun x => bencode_parser_dictionary n (x.1) (x.2.1) (x.2.2)⟩ := (P_bencode_parser_value_all (n + 1) n (Nat.lt_succ_self n)).2.2
def bencode_Parse_J0 (n : Nat) (a0 : Addr) (a1 : Option Addr) : M ((Int × ByteArray × Sl × Int × Sl × Sl) × Int × Int) :=
  M.bind (nn a1) fun x0 =>
  M.bind (ldL (li) (x0.plus 8)) fun (x1 : Int) =>
  if !decide (x1 = 0) then
    M.bind (nn a1) fun x2 =>
    M.bind (nn a1) fun x3 =>
    M.bind (ldL (li) (x2.plus 9)) fun (x4 : Int) =>
    M.bind (ldL (li) (x3.plus 8)) fun (x5 : Int) =>
    M.bind (chk [some (x2.plus 9), some (x3.plus 8)] (stN a0 [vi 0, Value.string (ofBytes []), vsl0, vi 0, vsl0, vsl0])) fun x6 =>
    M.bind (ldLs [li, .str, .sl, li, .sl, .sl] a0) fun (x7 : Int × ByteArray × Sl × Int × Sl × Sl) =>
    M.pure ((x7.1, x7.2.1, x7.2.2.1, x7.2.2.2.1, x7.2.2.2.2.1, x7.2.2.2.2.2), x4, x5)
  else
    M.bind (nn a1) fun x2 =>
    M.bind (ldLs [li, .str, .sl, li, .sl, .sl] (x2.plus 2)) fun (x3 : Int × ByteArray × Sl × Int × Sl × Sl) =>
    M.bind (stN a0 [vi x3.1, Value.string x3.2.1, vsl x3.2.2.1, vi x3.2.2.2.1, vsl x3.2.2.2.2.1, vsl x3.2.2.2.2.2]) fun x4 =>
    M.bind (ldLs [li, .str, .sl, li, .sl, .sl] a0) fun (x5 : Int × ByteArray × Sl × Int × Sl × Sl) =>
    M.pure ((x5.1, x5.2.1, x5.2.2.1, x5.2.2.2.1, x5.2.2.2.2.1, x5.2.2.2.2.2), 0, 0)
def bencode_Parse (n : Nat) (a0 : ByteArray) : M ((Int × ByteArray × Sl × Int × Sl × Sl) × Int × Int) :=
  M.bind (newB none T_api_Doc [vi 0, Value.string (ofBytes []), vsl0, vi 0, vsl0, vsl0]) fun x0 =>
  if decide (65536 < (↑a0.size : Int)) then
    M.bind (stN (adr x0) [vi 0, Value.string (ofBytes []), vsl0, vi 0, vsl0, vsl0]) fun x1 =>
    M.bind (ldLs [li, .str, .sl, li, .sl, .sl] (adr x0)) fun (x2 : Int × ByteArray × Sl × Int × Sl × Sl) =>
    M.pure ((x2.1, x2.2.1, x2.2.2.1, x2.2.2.2.1, x2.2.2.2.2.1, x2.2.2.2.2.2), 0, 6)
  else
    M.bind (newB none T_bencode_parser [Value.string a0, vi 0, vi 5, Value.string a0, vsl0, vi 0, vsl0, vsl0, vi 0, vi 0]) fun x1 =>
    M.bind (bencode_parser_value n (some (adr x1)) (0, -1, 0, 0, 0, 0, 0, false, false) 0) fun x2 =>
    if x2.2 then
      M.bind (nn (some (adr x1))) fun x3 =>
      M.bind (ldL (li) (x3.plus 1)) fun (x4 : Int) =>
      if decide (x4 < (↑a0.size : Int)) then
        M.bind (nn (some (adr x1))) fun x5 =>
        M.bind (ldL (li) (x5.plus 1)) fun (x6 : Int) =>
        M.bind (bencode_parser_fail n (some (adr x1)) x6 4) fun x7 =>
        bencode_Parse_J0 n (adr x0) (some (adr x1))
      else
        bencode_Parse_J0 n (adr x0) (some (adr x1))
    else
      bencode_Parse_J0 n (adr x0) (some (adr x1))
def bencode_Parse_dt (n : Nat) : List DEnt := []
def bencode_Parse_ct (n : Nat) : List Ent := [⟨19, [.one (.ptr), .agg [.int .i64, .int .i64, .int .i64, .int .i64, .int .i64, .int .i64, .int .i64, .bool, .bool], .one (.int .i64)], [.one (.int .i64), .one (.bool)], fun x => bencode_parser_value n (x.1) (x.2.1) (x.2.2)⟩,
  ⟨20, [.one (.ptr), .one (.int .i64), .one (.int .i64)], [.one (.bool)], fun x => bencode_parser_fail n (x.1) (x.2.1) (x.2.2)⟩]
def bencode_Parse_dr (i : Nat) : Option (List (Nat × List Nat)) := cond (Nat.beq i 8) (some [(0, []), (1, []), (2, []), (3, []), (5, []), (6, []), (7, []), (4, []), (8, []), (9, [4, 8]), (10, []), (11, [])]) (none)
def bencode_Parse_lt (n : Nat) : List LEnt := []
def bencode_Parse_jt1 (n : Nat) : List (JEnt ((Int × ByteArray × Sl × Int × Sl × Sl) × Int × Int)) := []
def bencode_Parse_jt0 (n : Nat) : List (JEnt ((Int × ByteArray × Sl × Int × Sl × Sl) × Int × Int)) := ⟨[0, 0, 1, 1, 1, 1], [.code [1, 0, 1, 1, 1, 1], .code [1, 1, 1, 1, 1]], [(2, .one (.adr)), (5, .one (.ptr))], fun x => bencode_Parse_J0 n (x.1) (x.2)⟩ :: bencode_Parse_jt1 n
theorem bencode_Parse_ok (n : Nat) : FnOK Tryz.prog ⟨8, [.one (.str)], [.agg [.int .i64, .str, .sl, .int .i64, .sl, .sl], .one (.int .i64), .one (.int .i64)], fun x => bencode_Parse n (x)⟩ :=
  fn_ok (P := Tryz.prog) (e := ⟨8, [.one (.str)], [.agg [.int .i64, .str, .sl, .int .i64, .sl, .sl], .one (.int .i64), .one (.int .i64)], fun x => bencode_Parse n (x)⟩) (fn := Tryz.f8) (c := (bodyOf Tryz.f8)) (T := ⟨lookC (bencode_Parse_ct n) (bencode_Parse_dt n), lookL (bencode_Parse_lt n), lookJ (bencode_Parse_jt0 n), bencode_Parse_dr⟩) (N := 400) (ps := [(0, .one (.str))])
    (by kernel_rfl) (by kernel_rfl) (by kernel_rfl) (by kernel_rfl) (by kernel_rfl) (tabs_ok (P := Tryz.prog) (body := (bodyOf Tryz.f8)) (W := (57, none)) (cl := bencode_Parse_ct n) (dl := bencode_Parse_dt n) (ll := bencode_Parse_lt n) (dr := bencode_Parse_dr) (fin := (finF Tryz.prog Tryz.f8 [.agg [.int .i64, .str, .sl, .int .i64, .sl, .sl], .one (.int .i64), .one (.int .i64)])) (N := 400) (js := bencode_Parse_jt0 n) AllMo.nil (AllOK.cons (bencode_parser_value_ok n) (AllOK.cons (bencode_parser_fail_ok n) AllOK.nil)) AllD.nil AllL.nil (AllJ.cons (fun x => by kernel_rfl) AllJ.nil)) (fun x => by kernel_rfl)
def rosettalaw34_awake (n : Nat) : M (Bool) :=
  M.bind (bencode_Parse n (ofBytes [100, 49, 58, 97, 48, 58, 49, 58, 98, 108, 105, 49, 101, 105, 45, 50, 101, 101, 101])) fun x0 =>
  M.bind (newB none T_api_Doc [vi 0, Value.string (ofBytes []), vsl0, vi 0, vsl0, vsl0]) fun x1 =>
  M.bind (stN (adr x1) [vi x0.1.1, Value.string x0.1.2.1, vsl x0.1.2.2.1, vi x0.1.2.2.2.1, vsl x0.1.2.2.2.2.1, vsl x0.1.2.2.2.2.2]) fun x2 =>
  M.bind (bencode_Parse n (ofBytes [105, 48, 49, 101])) fun x3 =>
  M.bind (newB none T_api_Doc [vi 0, Value.string (ofBytes []), vsl0, vi 0, vsl0, vsl0]) fun x4 =>
  M.bind (stN (adr x4) [vi x3.1.1, Value.string x3.1.2.1, vsl x3.1.2.2.1, vi x3.1.2.2.2.1, vsl x3.1.2.2.2.2.1, vsl x3.1.2.2.2.2.2]) fun x5 =>
  M.bind (bencode_Parse n (ofBytes [51, 58, 97, 98])) fun x6 =>
  M.bind (newB none T_api_Doc [vi 0, Value.string (ofBytes []), vsl0, vi 0, vsl0, vsl0]) fun x7 =>
  M.bind (stN (adr x7) [vi x6.1.1, Value.string x6.1.2.1, vsl x6.1.2.2.1, vi x6.1.2.2.2.1, vsl x6.1.2.2.2.2.1, vsl x6.1.2.2.2.2.2]) fun x8 =>
  if decide (x0.2.1 = 0) then
    if decide (x0.2.2 = 0) then
      M.bind (ldL .sl ((adr x1).plus 4)) fun (x9 : Sl) =>
      if decide ((↑x9.len : Int) = 5) then
        M.bind (ldL .sl ((adr x1).plus 4)) fun (x10 : Sl) =>
        M.bind (idxA x10 2 9) fun x11 =>
        M.bind (ldL (li) (x11.plus 3)) fun (x12 : Int) =>
        if decide (x12 = 9) then
          M.bind (ldL .sl ((adr x1).plus 4)) fun (x13 : Sl) =>
          M.bind (idxA x13 2 9) fun x14 =>
          M.bind (ldL (li) (x14.plus 4)) fun (x15 : Int) =>
          if decide (x15 = 18) then
            M.bind (ldL .sl ((adr x1).plus 4)) fun (x16 : Sl) =>
            M.bind (idxA x16 2 9) fun x17 =>
            M.bind (ldL (li) (x17.plus 5)) fun (x18 : Int) =>
            if decide (x18 = 6) then
              if decide (x3.2.1 = 0) then
                if decide (x3.2.2 = 12) then
                  if decide (x6.2.1 = 4) then
                    M.pure (decide (x6.2.2 = 4))
                  else
                    M.pure false
                else
                  M.pure false
              else
                M.pure false
            else
              M.pure false
          else
            M.pure false
        else
          M.pure false
      else
        M.pure false
    else
      M.pure false
  else
    M.pure false
def rosettalaw34_awake_dt (n : Nat) : List DEnt := []
def rosettalaw34_awake_ct (n : Nat) : List Ent := [⟨8, [.one (.str)], [.agg [.int .i64, .str, .sl, .int .i64, .sl, .sl], .one (.int .i64), .one (.int .i64)], fun x => bencode_Parse n (x)⟩]
def rosettalaw34_awake_dr (i : Nat) : Option (List (Nat × List Nat)) := none
def rosettalaw34_awake_lt (n : Nat) : List LEnt := []
def rosettalaw34_awake_jt0 (n : Nat) : List (JEnt (Bool)) := []
theorem rosettalaw34_awake_ok (n : Nat) : FnOK Tryz.prog ⟨7, [], [.one (.bool)], fun _ => rosettalaw34_awake n⟩ :=
  fn_ok (P := Tryz.prog) (e := ⟨7, [], [.one (.bool)], fun _ => rosettalaw34_awake n⟩) (fn := Tryz.f7) (c := (bodyOf Tryz.f7)) (T := ⟨lookC (rosettalaw34_awake_ct n) (rosettalaw34_awake_dt n), lookL (rosettalaw34_awake_lt n), lookJ (rosettalaw34_awake_jt0 n), rosettalaw34_awake_dr⟩) (N := 400) (ps := [])
    (by kernel_rfl) (by kernel_rfl) (by kernel_rfl) (by kernel_rfl) (by kernel_rfl) (tabs_ok (P := Tryz.prog) (body := (bodyOf Tryz.f7)) (W := (77, none)) (cl := rosettalaw34_awake_ct n) (dl := rosettalaw34_awake_dt n) (ll := rosettalaw34_awake_lt n) (dr := rosettalaw34_awake_dr) (fin := (finF Tryz.prog Tryz.f7 [.one (.bool)])) (N := 400) (js := rosettalaw34_awake_jt0 n) AllMo.nil (AllOK.cons (bencode_Parse_ok n) AllOK.nil) AllD.nil AllL.nil AllJ.nil) (fun x => by kernel_rfl)
def graph_indices_L2_B (G : Addr → Bool → Sl → Int → Int → Sl → Int → Int → Sl → Int → Int → M (Bool)) (n : Nat) (a0 : Addr) (a1 : Bool) (a2 : Sl) (a3 : Int) (a4 : Int) (a5 : Sl) (a6 : Int) (a7 : Int) (a8 : Sl) (a9 : Int) (a10 : Int) : M (Bool) :=
  if decide (a10 < a9) then
    M.bind (idxA a8 a10 1) fun x0 =>
    M.bind (ldL (li) x0) fun (x1 : Int) =>
    if a1 then
      if decide (0 ≤ x1) then
        M.bind (ldL .sl (a0.plus 0)) fun (x2 : Sl) =>
        G a0 (decide (x1 < (↑x2.len : Int))) a2 a3 a4 a5 a6 a7 a8 a9 (IntKind.i64.wrap (a10 + 1))
      else
        G a0 false a2 a3 a4 a5 a6 a7 a8 a9 (IntKind.i64.wrap (a10 + 1))
    else
      G a0 false a2 a3 a4 a5 a6 a7 a8 a9 (IntKind.i64.wrap (a10 + 1))
  else
    M.pure a1
def graph_indices_L2 : Nat → Addr → Bool → Sl → Int → Int → Sl → Int → Int → Sl → Int → Int → M (Bool)
  | 0 => fun _ _ _ _ _ _ _ _ _ _ _ => M.fail
  | n + 1 => graph_indices_L2_B (graph_indices_L2 n) n
theorem graph_indices_L2_succ (n : Nat) : graph_indices_L2 (n + 1) = graph_indices_L2_B (graph_indices_L2 n) n := rfl
def graph_indices_L1_B (G : Addr → Bool → Sl → Int → Int → Sl → Int → Int → M (Bool)) (n : Nat) (a0 : Addr) (a1 : Bool) (a2 : Sl) (a3 : Int) (a4 : Int) (a5 : Sl) (a6 : Int) (a7 : Int) : M (Bool) :=
  if decide (a7 < a6) then
    M.bind (idxA a5 a7 1) fun x0 =>
    M.bind (ldL .sl x0) fun (x1 : Sl) =>
    M.bind (graph_indices_L2 n a0 a1 a2 a3 a4 a5 a6 a7 x1 (↑x1.len : Int) 0) fun x2 =>
    G a0 x2 a2 a3 a4 a5 a6 (IntKind.i64.wrap (a7 + 1))
  else
    M.pure a1
def graph_indices_L1 : Nat → Addr → Bool → Sl → Int → Int → Sl → Int → Int → M (Bool)
  | 0 => fun _ _ _ _ _ _ _ _ => M.fail
  | n + 1 => graph_indices_L1_B (graph_indices_L1 n) n
theorem graph_indices_L1_succ (n : Nat) : graph_indices_L1 (n + 1) = graph_indices_L1_B (graph_indices_L1 n) n := rfl
def graph_indices_L0_B (G : Addr → Bool → Sl → Int → Int → M (Bool)) (n : Nat) (a0 : Addr) (a1 : Bool) (a2 : Sl) (a3 : Int) (a4 : Int) : M (Bool) :=
  if decide (a4 < a3) then
    M.bind (idxA a2 a4 5) fun x0 =>
    M.bind (ldLs [li, .str, .bool, .sl, .sl] x0) fun (x1 : Int × ByteArray × Bool × Sl × Sl) =>
    M.bind (newB none T_api_Node [vi 0, Value.string (ofBytes []), Value.bool false, vsl0, vsl0]) fun x2 =>
    M.bind (stN (adr x2) [vi x1.1, Value.string x1.2.1, Value.bool x1.2.2.1, vsl x1.2.2.2.1, vsl x1.2.2.2.2]) fun x3 =>
    M.bind (ldL .sl ((adr x2).plus 3)) fun (x4 : Sl) =>
    M.bind (ldL .sl ((adr x2).plus 4)) fun (x5 : Sl) =>
    M.bind (newB none T_sl_i64 [vsl x4, vsl x5]) fun x6 =>
    M.bind (graph_indices_L1 n a0 a1 a2 a3 a4 { a := some (adr x6), len := 2, cap := 3 } (↑2 : Int) 0) fun x7 =>
    G a0 x7 a2 a3 (IntKind.i64.wrap (a4 + 1))
  else
    M.pure a1
def graph_indices_L0 : Nat → Addr → Bool → Sl → Int → Int → M (Bool)
  | 0 => fun _ _ _ _ _ => M.fail
  | n + 1 => graph_indices_L0_B (graph_indices_L0 n) n
theorem graph_indices_L0_succ (n : Nat) : graph_indices_L0 (n + 1) = graph_indices_L0_B (graph_indices_L0 n) n := rfl
def graph_indices_J0 (n : Nat) (a0 : Addr) (a1 : Bool) : M (Bool) :=
  M.bind (ldL .sl (a0.plus 0)) fun (x0 : Sl) =>
  M.bind (graph_indices_L0 n a0 a1 x0 (↑x0.len : Int) 0) fun x1 =>
  M.pure x1
def graph_indices (n : Nat) (a0 : Sl × Int) : M (Bool) :=
  M.bind (newB none T_api_Graph [vsl a0.1, vi a0.2]) fun x0 =>
  M.bind (ldL (li) ((adr x0).plus 1)) fun (x1 : Int) =>
  if decide (0 ≤ x1) then
    M.bind (ldL (li) ((adr x0).plus 1)) fun (x2 : Int) =>
    M.bind (ldL .sl ((adr x0).plus 0)) fun (x3 : Sl) =>
    graph_indices_J0 n (adr x0) (decide (x2 < (↑x3.len : Int)))
  else
    graph_indices_J0 n (adr x0) false
def graph_indices_dt (n : Nat) : List DEnt := []
def graph_indices_ct (n : Nat) : List Ent := []
def graph_indices_dr (i : Nat) : Option (List (Nat × List Nat)) := none
def graph_indices_L2_lt (n : Nat) : List LEnt := []
def graph_indices_L2_jt0 (n : Nat) : List (JEnt (Bool)) := []
def graph_indices_L1_lt (n : Nat) : List LEnt := [⟨[0, 1, 1, 0, 0, 1, 1, 0, 0, 1, 1, 0, 0, 1, 1, 0, 0, 1, 0, 1, 1], [(1, .one (.adr)), (3, .one (.bool)), (22, .one (.sl)), (23, .one (.int .i64)), (24, .one (.int .i64)), (32, .one (.sl)), (33, .one (.int .i64)), (34, .one (.int .i64)), (38, .one (.sl)), (39, .one (.int .i64)), (40, .one (.int .i64))], actL1 [(1, .one (.adr)), (3, .one (.bool)), (22, .one (.sl)), (23, .one (.int .i64)), (24, .one (.int .i64)), (32, .one (.sl)), (33, .one (.int .i64)), (34, .one (.int .i64)), (38, .one (.sl)), (39, .one (.int .i64)), (40, .one (.int .i64))] [(3, .one (.bool))] [3, 9, 40, 41, 42, 43, 44, 45, 46, 47, 48, 49, 50, 51, 52, 53, 54, 55, 56] 4 (fun x => graph_indices_L2 n (x.1) (x.2.1) (x.2.2.1) (x.2.2.2.1) (x.2.2.2.2.1) (x.2.2.2.2.2.1) (x.2.2.2.2.2.2.1) (x.2.2.2.2.2.2.2.1) (x.2.2.2.2.2.2.2.2.1) (x.2.2.2.2.2.2.2.2.2.1) (x.2.2.2.2.2.2.2.2.2.2))⟩]
def graph_indices_L1_jt0 (n : Nat) : List (JEnt (Bool)) := []
def graph_indices_L0_lt (n : Nat) : List LEnt := [⟨[0, 1, 1, 0, 0, 1, 1, 0, 0, 1, 0, 1, 1], [(1, .one (.adr)), (3, .one (.bool)), (22, .one (.sl)), (23, .one (.int .i64)), (24, .one (.int .i64)), (32, .one (.sl)), (33, .one (.int .i64)), (34, .one (.int .i64))], actL1 [(1, .one (.adr)), (3, .one (.bool)), (22, .one (.sl)), (23, .one (.int .i64)), (24, .one (.int .i64)), (32, .one (.sl)), (33, .one (.int .i64)), (34, .one (.int .i64))] [(3, .one (.bool))] [3, 7, 9, 34, 35, 36, 37, 38, 39, 40, 41, 42, 43, 44, 45, 46, 47, 48, 49, 50, 51, 52, 53, 54, 55, 56, 57] 2 (fun x => graph_indices_L1 n (x.1) (x.2.1) (x.2.2.1) (x.2.2.2.1) (x.2.2.2.2.1) (x.2.2.2.2.2.1) (x.2.2.2.2.2.2.1) (x.2.2.2.2.2.2.2))⟩]
def graph_indices_L0_jt0 (n : Nat) : List (JEnt (Bool)) := []
def graph_indices_lt (n : Nat) : List LEnt := [⟨[0, 1, 0, 1, 1], [(1, .one (.adr)), (3, .one (.bool)), (22, .one (.sl)), (23, .one (.int .i64)), (24, .one (.int .i64))], actL1 [(1, .one (.adr)), (3, .one (.bool)), (22, .one (.sl)), (23, .one (.int .i64)), (24, .one (.int .i64))] [(3, .one (.bool))] [3, 5, 7, 9, 24, 25, 26, 27, 28, 29, 30, 31, 32, 33, 34, 35, 36, 37, 38, 39, 40, 41, 42, 43, 44, 45, 46, 47, 48, 49, 50, 51, 52, 53, 54, 55, 56, 57, 58] 0 (fun x => graph_indices_L0 n (x.1) (x.2.1) (x.2.2.1) (x.2.2.2.1) (x.2.2.2.2))⟩]
def graph_indices_jt1 (n : Nat) : List (JEnt (Bool)) := []
def graph_indices_jt0 (n : Nat) : List (JEnt (Bool)) := ⟨[0, 0, 1, 1], [.code [1, 0, 1, 1], .code [1, 1, 1]], [(1, .one (.adr)), (3, .one (.bool))], fun x => graph_indices_J0 n (x.1) (x.2)⟩ :: graph_indices_jt1 n
theorem graph_indices_L2_ok (n : Nat) {W : Wr} (hW : subW W 60 [3, 9, 40, 41, 42, 43, 44, 45, 46, 47, 48, 49, 50, 51, 52, 53, 54, 55, 56] = true) : LEntOK Tryz.prog (bodyOf Tryz.f42) W ⟨[0, 1, 1, 0, 0, 1, 1, 0, 0, 1, 1, 0, 0, 1, 1, 0, 0, 1, 0, 1, 1], [(1, .one (.adr)), (3, .one (.bool)), (22, .one (.sl)), (23, .one (.int .i64)), (24, .one (.int .i64)), (32, .one (.sl)), (33, .one (.int .i64)), (34, .one (.int .i64)), (38, .one (.sl)), (39, .one (.int .i64)), (40, .one (.int .i64))], actL1 [(1, .one (.adr)), (3, .one (.bool)), (22, .one (.sl)), (23, .one (.int .i64)), (24, .one (.int .i64)), (32, .one (.sl)), (33, .one (.int .i64)), (34, .one (.int .i64)), (38, .one (.sl)), (39, .one (.int .i64)), (40, .one (.int .i64))] [(3, .one (.bool))] [3, 9, 40, 41, 42, 43, 44, 45, 46, 47, 48, 49, 50, 51, 52, 53, 54, 55, 56] 4 (fun x => graph_indices_L2 n (x.1) (x.2.1) (x.2.2.1) (x.2.2.2.1) (x.2.2.2.2.1) (x.2.2.2.2.2.1) (x.2.2.2.2.2.2.1) (x.2.2.2.2.2.2.2.1) (x.2.2.2.2.2.2.2.2.1) (x.2.2.2.2.2.2.2.2.2.1) (x.2.2.2.2.2.2.2.2.2.2))⟩ :=
  loop1_ok (P := Tryz.prog) (body := (bodyOf Tryz.f42)) (c := child (codeAt (bodyOf Tryz.f42) [0, 1, 1, 0, 0, 1, 1, 0, 0, 1, 1, 0, 0, 1, 1, 0, 0, 1, 0, 1, 1]) 0) (p := [0, 1, 1, 0, 0, 1, 1, 0, 0, 1, 1, 0, 0, 1, 1, 0, 0, 1, 0, 1, 1]) (ls := [(1, .one (.adr)), (3, .one (.bool)), (22, .one (.sl)), (23, .one (.int .i64)), (24, .one (.int .i64)), (32, .one (.sl)), (33, .one (.int .i64)), (34, .one (.int .i64)), (38, .one (.sl)), (39, .one (.int .i64)), (40, .one (.int .i64))]) (ms := [(3, .one (.bool))]) (id := 4) (nt := 60) (ws := [3, 9, 40, 41, 42, 43, 44, 45, 46, 47, 48, 49, 50, 51, 52, 53, 54, 55, 56]) (N := 400) (G := (fun n x => graph_indices_L2 n (x.1) (x.2.1) (x.2.2.1) (x.2.2.2.1) (x.2.2.2.2.1) (x.2.2.2.2.2.1) (x.2.2.2.2.2.2.1) (x.2.2.2.2.2.2.2.1) (x.2.2.2.2.2.2.2.2.1) (x.2.2.2.2.2.2.2.2.2.1) (x.2.2.2.2.2.2.2.2.2.2))) (T := fun n => ⟨lookC (graph_indices_ct n) (graph_indices_dt n), lookL (graph_indices_L2_lt n), lookJ (graph_indices_L2_jt0 n), graph_indices_dr⟩)
    (by kernel_rfl) (fun _ => by kernel_rfl) (fun n x => by kernel_rfl) n (fun m hm => (tabs_ok (P := Tryz.prog) (body := (bodyOf Tryz.f42)) (W := (60, some [3, 9, 40, 41, 42, 43, 44, 45, 46, 47, 48, 49, 50, 51, 52, 53, 54, 55, 56])) (cl := graph_indices_ct m) (dl := graph_indices_dt m) (ll := graph_indices_L2_lt m) (dr := graph_indices_dr) (fin := (finL1 [(1, .one (.adr)), (3, .one (.bool)), (22, .one (.sl)), (23, .one (.int .i64)), (24, .one (.int .i64)), (32, .one (.sl)), (33, .one (.int .i64)), (34, .one (.int .i64)), (38, .one (.sl)), (39, .one (.int .i64)), (40, .one (.int .i64))] [(3, .one (.bool))] 4 (fun x => graph_indices_L2 m (x.1) (x.2.1) (x.2.2.1) (x.2.2.2.1) (x.2.2.2.2.1) (x.2.2.2.2.2.1) (x.2.2.2.2.2.2.1) (x.2.2.2.2.2.2.2.1) (x.2.2.2.2.2.2.2.2.1) (x.2.2.2.2.2.2.2.2.2.1) (x.2.2.2.2.2.2.2.2.2.2)))) (N := 400) (js := graph_indices_L2_jt0 m) AllMo.nil AllOK.nil AllD.nil AllL.nil AllJ.nil)) hW
theorem graph_indices_L1_ok (n : Nat) {W : Wr} (hW : subW W 60 [3, 7, 9, 34, 35, 36, 37, 38, 39, 40, 41, 42, 43, 44, 45, 46, 47, 48, 49, 50, 51, 52, 53, 54, 55, 56, 57] = true) : LEntOK Tryz.prog (bodyOf Tryz.f42) W ⟨[0, 1, 1, 0, 0, 1, 1, 0, 0, 1, 0, 1, 1], [(1, .one (.adr)), (3, .one (.bool)), (22, .one (.sl)), (23, .one (.int .i64)), (24, .one (.int .i64)), (32, .one (.sl)), (33, .one (.int .i64)), (34, .one (.int .i64))], actL1 [(1, .one (.adr)), (3, .one (.bool)), (22, .one (.sl)), (23, .one (.int .i64)), (24, .one (.int .i64)), (32, .one (.sl)), (33, .one (.int .i64)), (34, .one (.int .i64))] [(3, .one (.bool))] [3, 7, 9, 34, 35, 36, 37, 38, 39, 40, 41, 42, 43, 44, 45, 46, 47, 48, 49, 50, 51, 52, 53, 54, 55, 56, 57] 2 (fun x => graph_indices_L1 n (x.1) (x.2.1) (x.2.2.1) (x.2.2.2.1) (x.2.2.2.2.1) (x.2.2.2.2.2.1) (x.2.2.2.2.2.2.1) (x.2.2.2.2.2.2.2))⟩ :=
  loop1_ok (P := Tryz.prog) (body := (bodyOf Tryz.f42)) (c := child (codeAt (bodyOf Tryz.f42) [0, 1, 1, 0, 0, 1, 1, 0, 0, 1, 0, 1, 1]) 0) (p := [0, 1, 1, 0, 0, 1, 1, 0, 0, 1, 0, 1, 1]) (ls := [(1, .one (.adr)), (3, .one (.bool)), (22, .one (.sl)), (23, .one (.int .i64)), (24, .one (.int .i64)), (32, .one (.sl)), (33, .one (.int .i64)), (34, .one (.int .i64))]) (ms := [(3, .one (.bool))]) (id := 2) (nt := 60) (ws := [3, 7, 9, 34, 35, 36, 37, 38, 39, 40, 41, 42, 43, 44, 45, 46, 47, 48, 49, 50, 51, 52, 53, 54, 55, 56, 57]) (N := 400) (G := (fun n x => graph_indices_L1 n (x.1) (x.2.1) (x.2.2.1) (x.2.2.2.1) (x.2.2.2.2.1) (x.2.2.2.2.2.1) (x.2.2.2.2.2.2.1) (x.2.2.2.2.2.2.2))) (T := fun n => ⟨lookC (graph_indices_ct n) (graph_indices_dt n), lookL (graph_indices_L1_lt n), lookJ (graph_indices_L1_jt0 n), graph_indices_dr⟩)
    (by kernel_rfl) (fun _ => by kernel_rfl) (fun n x => by kernel_rfl) n (fun m hm => (tabs_ok (P := Tryz.prog) (body := (bodyOf Tryz.f42)) (W := (60, some [3, 7, 9, 34, 35, 36, 37, 38, 39, 40, 41, 42, 43, 44, 45, 46, 47, 48, 49, 50, 51, 52, 53, 54, 55, 56, 57])) (cl := graph_indices_ct m) (dl := graph_indices_dt m) (ll := graph_indices_L1_lt m) (dr := graph_indices_dr) (fin := (finL1 [(1, .one (.adr)), (3, .one (.bool)), (22, .one (.sl)), (23, .one (.int .i64)), (24, .one (.int .i64)), (32, .one (.sl)), (33, .one (.int .i64)), (34, .one (.int .i64))] [(3, .one (.bool))] 2 (fun x => graph_indices_L1 m (x.1) (x.2.1) (x.2.2.1) (x.2.2.2.1) (x.2.2.2.2.1) (x.2.2.2.2.2.1) (x.2.2.2.2.2.2.1) (x.2.2.2.2.2.2.2)))) (N := 400) (js := graph_indices_L1_jt0 m) AllMo.nil AllOK.nil AllD.nil (AllL.cons (graph_indices_L2_ok m (by kernel_rfl)) AllL.nil) AllJ.nil)) hW
theorem graph_indices_L0_ok (n : Nat) {W : Wr} (hW : subW W 60 [3, 5, 7, 9, 24, 25, 26, 27, 28, 29, 30, 31, 32, 33, 34, 35, 36, 37, 38, 39, 40, 41, 42, 43, 44, 45, 46, 47, 48, 49, 50, 51, 52, 53, 54, 55, 56, 57, 58] = true) : LEntOK Tryz.prog (bodyOf Tryz.f42) W ⟨[0, 1, 0, 1, 1], [(1, .one (.adr)), (3, .one (.bool)), (22, .one (.sl)), (23, .one (.int .i64)), (24, .one (.int .i64))], actL1 [(1, .one (.adr)), (3, .one (.bool)), (22, .one (.sl)), (23, .one (.int .i64)), (24, .one (.int .i64))] [(3, .one (.bool))] [3, 5, 7, 9, 24, 25, 26, 27, 28, 29, 30, 31, 32, 33, 34, 35, 36, 37, 38, 39, 40, 41, 42, 43, 44, 45, 46, 47, 48, 49, 50, 51, 52, 53, 54, 55, 56, 57, 58] 0 (fun x => graph_indices_L0 n (x.1) (x.2.1) (x.2.2.1) (x.2.2.2.1) (x.2.2.2.2))⟩ :=
  loop1_ok (P := Tryz.prog) (body := (bodyOf Tryz.f42)) (c := child (codeAt (bodyOf Tryz.f42) [0, 1, 0, 1, 1]) 0) (p := [0, 1, 0, 1, 1]) (ls := [(1, .one (.adr)), (3, .one (.bool)), (22, .one (.sl)), (23, .one (.int .i64)), (24, .one (.int .i64))]) (ms := [(3, .one (.bool))]) (id := 0) (nt := 60) (ws := [3, 5, 7, 9, 24, 25, 26, 27, 28, 29, 30, 31, 32, 33, 34, 35, 36, 37, 38, 39, 40, 41, 42, 43, 44, 45, 46, 47, 48, 49, 50, 51, 52, 53, 54, 55, 56, 57, 58]) (N := 400) (G := (fun n x => graph_indices_L0 n (x.1) (x.2.1) (x.2.2.1) (x.2.2.2.1) (x.2.2.2.2))) (T := fun n => ⟨lookC (graph_indices_ct n) (graph_indices_dt n), lookL (graph_indices_L0_lt n), lookJ (graph_indices_L0_jt0 n), graph_indices_dr⟩)
    (by kernel_rfl) (fun _ => by kernel_rfl) (fun n x => by kernel_rfl) n (fun m hm => (tabs_ok (P := Tryz.prog) (body := (bodyOf Tryz.f42)) (W := (60, some [3, 5, 7, 9, 24, 25, 26, 27, 28, 29, 30, 31, 32, 33, 34, 35, 36, 37, 38, 39, 40, 41, 42, 43, 44, 45, 46, 47, 48, 49, 50, 51, 52, 53, 54, 55, 56, 57, 58])) (cl := graph_indices_ct m) (dl := graph_indices_dt m) (ll := graph_indices_L0_lt m) (dr := graph_indices_dr) (fin := (finL1 [(1, .one (.adr)), (3, .one (.bool)), (22, .one (.sl)), (23, .one (.int .i64)), (24, .one (.int .i64))] [(3, .one (.bool))] 0 (fun x => graph_indices_L0 m (x.1) (x.2.1) (x.2.2.1) (x.2.2.2.1) (x.2.2.2.2)))) (N := 400) (js := graph_indices_L0_jt0 m) AllMo.nil AllOK.nil AllD.nil (AllL.cons (graph_indices_L1_ok m (by kernel_rfl)) AllL.nil) AllJ.nil)) hW
theorem graph_indices_ok (n : Nat) : FnOK Tryz.prog ⟨42, [.agg [.sl, .int .i64]], [.one (.bool)], fun x => graph_indices n (x)⟩ :=
  fn_ok (P := Tryz.prog) (e := ⟨42, [.agg [.sl, .int .i64]], [.one (.bool)], fun x => graph_indices n (x)⟩) (fn := Tryz.f42) (c := (bodyOf Tryz.f42)) (T := ⟨lookC (graph_indices_ct n) (graph_indices_dt n), lookL (graph_indices_lt n), lookJ (graph_indices_jt0 n), graph_indices_dr⟩) (N := 400) (ps := [(0, .agg [.sl, .int .i64])])
    (by kernel_rfl) (by kernel_rfl) (by kernel_rfl) (by kernel_rfl) (by kernel_rfl) (tabs_ok (P := Tryz.prog) (body := (bodyOf Tryz.f42)) (W := (60, none)) (cl := graph_indices_ct n) (dl := graph_indices_dt n) (ll := graph_indices_lt n) (dr := graph_indices_dr) (fin := (finF Tryz.prog Tryz.f42 [.one (.bool)])) (N := 400) (js := graph_indices_jt0 n) AllMo.nil AllOK.nil AllD.nil (AllL.cons (graph_indices_L0_ok n (by kernel_rfl)) AllL.nil) (AllJ.cons (fun x => by kernel_rfl) AllJ.nil)) (fun x => by kernel_rfl)
structure Cl_graph_reached_1 where
  graph_reached_1_L0 : Int → Addr → Addr → Sl → Int → Int → M (Unit)
  graph_reached_1_L1 : Addr → Sl → Int → Int → M (Unit)
  graph_reached_1 : Int → Addr → Addr → Addr → M (Unit)
def graph_reached_1_D27_B (G : Cl_graph_reached_1) (n : Nat) (x : Value) (a0 : Int) : M (Unit) :=
  if isFn F_graph_reached_1 x then
    M.bind (asFn [.one (.adr), .one (.adr), .one (.adr)] x) fun (c : Addr × Addr × Addr) => G.graph_reached_1 a0 (c.1) (c.2.1) (c.2.2)
  else M.fail
def graph_reached_1_D42_B (G : Cl_graph_reached_1) (n : Nat) (x : Value) (a0 : Int) : M (Unit) :=
  if isFn F_graph_reached_1 x then
    M.bind (asFn [.one (.adr), .one (.adr), .one (.adr)] x) fun (c : Addr × Addr × Addr) => G.graph_reached_1 a0 (c.1) (c.2.1) (c.2.2)
  else M.fail
def graph_reached_1_L0_B (G : Cl_graph_reached_1) (n : Nat) (a0 : Int) (a1 : Addr) (a2 : Addr) (a3 : Sl) (a4 : Int) (a5 : Int) : M (Unit) :=
  if decide (a5 < a4) then
    M.bind (idxA a3 a5 1) fun x0 =>
    M.bind (ldL (li) x0) fun (x1 : Int) =>
    M.bind (ldL .raw a2) fun (x2 : Value) =>
    M.bind (graph_reached_1_D27_B G n x2 x1) fun x3 =>
    G.graph_reached_1_L0 a0 a1 a2 a3 a4 (IntKind.i64.wrap (a5 + 1))
  else
    M.pure ()
def graph_reached_1_L1_B (G : Cl_graph_reached_1) (n : Nat) (a0 : Addr) (a1 : Sl) (a2 : Int) (a3 : Int) : M (Unit) :=
  if decide (a3 < a2) then
    M.bind (idxA a1 a3 1) fun x0 =>
    M.bind (ldL (li) x0) fun (x1 : Int) =>
    M.bind (ldL .raw a0) fun (x2 : Value) =>
    M.bind (graph_reached_1_D42_B G n x2 x1) fun x3 =>
    G.graph_reached_1_L1 a0 a1 a2 (IntKind.i64.wrap (a3 + 1))
  else
    M.pure ()
def graph_reached_1_B (G : Cl_graph_reached_1) (n : Nat) (a0 : Int) (a1 : Addr) (a2 : Addr) (a3 : Addr) : M (Unit) :=
  M.bind (ldL .sl a1) fun (x0 : Sl) =>
  M.bind (idxA x0 a0 1) fun x1 =>
  M.bind (ldL .bool x1) fun (x2 : Bool) =>
  if x2 then
    M.pure ()
  else
    M.bind (ldL .sl a1) fun (x3 : Sl) =>
    M.bind (idxA x3 a0 1) fun x4 =>
    M.bind (stN x4 [Value.bool true]) fun x5 =>
    M.bind (ldL .sl (a2.plus 0)) fun (x6 : Sl) =>
    M.bind (idxA x6 a0 5) fun x7 =>
    M.bind (ldL .sl (x7.plus 3)) fun (x8 : Sl) =>
    M.bind (G.graph_reached_1_L0 a0 a2 a3 x8 (↑x8.len : Int) 0) fun x9 =>
    M.bind (ldL .sl (a2.plus 0)) fun (x10 : Sl) =>
    M.bind (idxA x10 a0 5) fun x11 =>
    M.bind (ldL .sl (x11.plus 4)) fun (x12 : Sl) =>
    M.bind (G.graph_reached_1_L1 a3 x12 (↑x12.len : Int) 0) fun x13 =>
    M.pure ()
def Cl_graph_reached_1.at : Nat → Cl_graph_reached_1
  | 0 => ⟨fun _ _ _ _ _ _ => M.fail, fun _ _ _ _ => M.fail, fun _ _ _ _ => M.fail⟩
  | n + 1 => ⟨graph_reached_1_L0_B (Cl_graph_reached_1.at n) n, graph_reached_1_L1_B (Cl_graph_reached_1.at n) n, graph_reached_1_B (Cl_graph_reached_1.at n) n⟩
def graph_reached_1_L0 (n : Nat) (a0 : Int) (a1 : Addr) (a2 : Addr) (a3 : Sl) (a4 : Int) (a5 : Int) : M (Unit) := (Cl_graph_reached_1.at n).graph_reached_1_L0 a0 a1 a2 a3 a4 a5
theorem graph_reached_1_L0_succ (n : Nat) (a0 : Int) (a1 : Addr) (a2 : Addr) (a3 : Sl) (a4 : Int) (a5 : Int) : graph_reached_1_L0 (n + 1) a0 a1 a2 a3 a4 a5 = graph_reached_1_L0_B (Cl_graph_reached_1.at n) n a0 a1 a2 a3 a4 a5 := rfl
def graph_reached_1_L1 (n : Nat) (a0 : Addr) (a1 : Sl) (a2 : Int) (a3 : Int) : M (Unit) := (Cl_graph_reached_1.at n).graph_reached_1_L1 a0 a1 a2 a3
theorem graph_reached_1_L1_succ (n : Nat) (a0 : Addr) (a1 : Sl) (a2 : Int) (a3 : Int) : graph_reached_1_L1 (n + 1) a0 a1 a2 a3 = graph_reached_1_L1_B (Cl_graph_reached_1.at n) n a0 a1 a2 a3 := rfl
def graph_reached_1 (n : Nat) (a0 : Int) (a1 : Addr) (a2 : Addr) (a3 : Addr) : M (Unit) := (Cl_graph_reached_1.at n).graph_reached_1 a0 a1 a2 a3
theorem graph_reached_1_succ (n : Nat) (a0 : Int) (a1 : Addr) (a2 : Addr) (a3 : Addr) : graph_reached_1 (n + 1) a0 a1 a2 a3 = graph_reached_1_B (Cl_graph_reached_1.at n) n a0 a1 a2 a3 := rfl
def graph_reached_1_D27 (n : Nat) (x : Value) (a0 : Int) : M (Unit) := graph_reached_1_D27_B (Cl_graph_reached_1.at n) n x a0
def graph_reached_1_D42 (n : Nat) (x : Value) (a0 : Int) : M (Unit) := graph_reached_1_D42_B (Cl_graph_reached_1.at n) n x a0
def graph_reached_1_dt (n : Nat) : List DEnt := [⟨27, [.one (.int .i64)], [], fun x a => graph_reached_1_D27 n x (a)⟩,
  ⟨42, [.one (.int .i64)], [], fun x a => graph_reached_1_D42 n x (a)⟩]
def graph_reached_1_ct (n : Nat) : List Ent := []
def graph_reached_1_dr (i : Nat) : Option (List (Nat × List Nat)) := none
def graph_reached_1_L0_lt (n : Nat) : List LEnt := []
def graph_reached_1_L0_jt0 (n : Nat) : List (JEnt (Unit)) := []
def graph_reached_1_L1_lt (n : Nat) : List LEnt := []
def graph_reached_1_L1_jt0 (n : Nat) : List (JEnt (Unit)) := []
def graph_reached_1_lt (n : Nat) : List LEnt := [⟨[0, 1, 0, 1, 1], [(0, .one (.int .i64)), (2, .one (.adr)), (3, .one (.adr)), (21, .one (.sl)), (22, .one (.int .i64)), (23, .one (.int .i64))], actL1 [(0, .one (.int .i64)), (2, .one (.adr)), (3, .one (.adr)), (21, .one (.sl)), (22, .one (.int .i64)), (23, .one (.int .i64))] [] [6, 23, 24, 25, 26, 27, 28, 29, 30] 0 (fun x => graph_reached_1_L0 n (x.1) (x.2.1) (x.2.2.1) (x.2.2.2.1) (x.2.2.2.2.1) (x.2.2.2.2.2))⟩,
  ⟨[0, 1, 1, 1, 1], [(3, .one (.adr)), (36, .one (.sl)), (37, .one (.int .i64)), (38, .one (.int .i64))], actL1 [(3, .one (.adr)), (36, .one (.sl)), (37, .one (.int .i64)), (38, .one (.int .i64))] [] [8, 38, 39, 40, 41, 42, 43, 44, 45] 2 (fun x => graph_reached_1_L1 n (x.1) (x.2.1) (x.2.2.1) (x.2.2.2))⟩]
def graph_reached_1_jt0 (n : Nat) : List (JEnt (Unit)) := []
def P_graph_reached_1 (n : Nat) : Prop := FnOK Tryz.prog ⟨76, [.one (.int .i64), .one (.adr), .one (.adr), .one (.adr)], [], fun x => graph_reached_1 n (x.1) (x.2.1) (x.2.2.1) (x.2.2.2)⟩
theorem graph_reached_1_L0_ok (n : Nat) (H : ∀ m, m < n → P_graph_reached_1 m) {W : Wr} (hW : subW W 46 [6, 23, 24, 25, 26, 27, 28, 29, 30] = true) : LEntOK Tryz.prog (bodyOf Tryz.f76) W ⟨[0, 1, 0, 1, 1], [(0, .one (.int .i64)), (2, .one (.adr)), (3, .one (.adr)), (21, .one (.sl)), (22, .one (.int .i64)), (23, .one (.int .i64))], actL1 [(0, .one (.int .i64)), (2, .one (.adr)), (3, .one (.adr)), (21, .one (.sl)), (22, .one (.int .i64)), (23, .one (.int .i64))] [] [6, 23, 24, 25, 26, 27, 28, 29, 30] 0 (fun x => graph_reached_1_L0 n (x.1) (x.2.1) (x.2.2.1) (x.2.2.2.1) (x.2.2.2.2.1) (x.2.2.2.2.2))⟩ :=
  loop1_ok (P := Tryz.prog) (body := (bodyOf Tryz.f76)) (c := child (codeAt (bodyOf Tryz.f76) [0, 1, 0, 1, 1]) 0) (p := [0, 1, 0, 1, 1]) (ls := [(0, .one (.int .i64)), (2, .one (.adr)), (3, .one (.adr)), (21, .one (.sl)), (22, .one (.int .i64)), (23, .one (.int .i64))]) (ms := []) (id := 0) (nt := 46) (ws := [6, 23, 24, 25, 26, 27, 28, 29, 30]) (N := 400) (G := (fun n x => graph_reached_1_L0 n (x.1) (x.2.1) (x.2.2.1) (x.2.2.2.1) (x.2.2.2.2.1) (x.2.2.2.2.2))) (T := fun n => ⟨lookC (graph_reached_1_ct n) (graph_reached_1_dt n), lookL (graph_reached_1_L0_lt n), lookJ (graph_reached_1_L0_jt0 n), graph_reached_1_dr⟩)
    (by kernel_rfl) (fun _ => by kernel_rfl) (fun n x => by kernel_rfl) n (fun m hm => (tabs_ok (P := Tryz.prog) (body := (bodyOf Tryz.f76)) (W := (46, some [6, 23, 24, 25, 26, 27, 28, 29, 30])) (cl := graph_reached_1_ct m) (dl := graph_reached_1_dt m) (ll := graph_reached_1_L0_lt m) (dr := graph_reached_1_dr) (fin := (finL1 [(0, .one (.int .i64)), (2, .one (.adr)), (3, .one (.adr)), (21, .one (.sl)), (22, .one (.int .i64)), (23, .one (.int .i64))] [] 0 (fun x => graph_reached_1_L0 m (x.1) (x.2.1) (x.2.2.1) (x.2.2.2.1) (x.2.2.2.2.1) (x.2.2.2.2.2)))) (N := 400) (js := graph_reached_1_L0_jt0 m) AllMo.nil AllOK.nil (AllD.cons (dent_ok (l := [⟨76, [.one (.adr), .one (.adr), .one (.adr)], fun a c => graph_reached_1 m (a) (c.1) (c.2.1) (c.2.2)⟩]) (AllT.cons (fun a c => callOK_cast (by kernel_rfl) ((H m hm) (a, c.1, c.2.1, c.2.2))) AllT.nil) (fun x a => by kernel_rfl)) (AllD.cons (dent_ok (l := [⟨76, [.one (.adr), .one (.adr), .one (.adr)], fun a c => graph_reached_1 m (a) (c.1) (c.2.1) (c.2.2)⟩]) (AllT.cons (fun a c => callOK_cast (by kernel_rfl) ((H m hm) (a, c.1, c.2.1, c.2.2))) AllT.nil) (fun x a => by kernel_rfl)) AllD.nil)) AllL.nil AllJ.nil)) hW
theorem graph_reached_1_L1_ok (n : Nat) (H : ∀ m, m < n → P_graph_reached_1 m) {W : Wr} (hW : subW W 46 [8, 38, 39, 40, 41, 42, 43, 44, 45] = true) : LEntOK Tryz.prog (bodyOf Tryz.f76) W ⟨[0, 1, 1, 1, 1], [(3, .one (.adr)), (36, .one (.sl)), (37, .one (.int .i64)), (38, .one (.int .i64))], actL1 [(3, .one (.adr)), (36, .one (.sl)), (37, .one (.int .i64)), (38, .one (.int .i64))] [] [8, 38, 39, 40, 41, 42, 43, 44, 45] 2 (fun x => graph_reached_1_L1 n (x.1) (x.2.1) (x.2.2.1) (x.2.2.2))⟩ :=
  loop1_ok (P := Tryz.prog) (body := (bodyOf Tryz.f76)) (c := child (codeAt (bodyOf Tryz.f76) [0, 1, 1, 1, 1]) 0) (p := [0, 1, 1, 1, 1]) (ls := [(3, .one (.adr)), (36, .one (.sl)), (37, .one (.int .i64)), (38, .one (.int .i64))]) (ms := []) (id := 2) (nt := 46) (ws := [8, 38, 39, 40, 41, 42, 43, 44, 45]) (N := 400) (G := (fun n x => graph_reached_1_L1 n (x.1) (x.2.1) (x.2.2.1) (x.2.2.2))) (T := fun n => ⟨lookC (graph_reached_1_ct n) (graph_reached_1_dt n), lookL (graph_reached_1_L1_lt n), lookJ (graph_reached_1_L1_jt0 n), graph_reached_1_dr⟩)
    (by kernel_rfl) (fun _ => by kernel_rfl) (fun n x => by kernel_rfl) n (fun m hm => (tabs_ok (P := Tryz.prog) (body := (bodyOf Tryz.f76)) (W := (46, some [8, 38, 39, 40, 41, 42, 43, 44, 45])) (cl := graph_reached_1_ct m) (dl := graph_reached_1_dt m) (ll := graph_reached_1_L1_lt m) (dr := graph_reached_1_dr) (fin := (finL1 [(3, .one (.adr)), (36, .one (.sl)), (37, .one (.int .i64)), (38, .one (.int .i64))] [] 2 (fun x => graph_reached_1_L1 m (x.1) (x.2.1) (x.2.2.1) (x.2.2.2)))) (N := 400) (js := graph_reached_1_L1_jt0 m) AllMo.nil AllOK.nil (AllD.cons (dent_ok (l := [⟨76, [.one (.adr), .one (.adr), .one (.adr)], fun a c => graph_reached_1 m (a) (c.1) (c.2.1) (c.2.2)⟩]) (AllT.cons (fun a c => callOK_cast (by kernel_rfl) ((H m hm) (a, c.1, c.2.1, c.2.2))) AllT.nil) (fun x a => by kernel_rfl)) (AllD.cons (dent_ok (l := [⟨76, [.one (.adr), .one (.adr), .one (.adr)], fun a c => graph_reached_1 m (a) (c.1) (c.2.1) (c.2.2)⟩]) (AllT.cons (fun a c => callOK_cast (by kernel_rfl) ((H m hm) (a, c.1, c.2.1, c.2.2))) AllT.nil) (fun x a => by kernel_rfl)) AllD.nil)) AllL.nil AllJ.nil)) hW
theorem graph_reached_1_ok_step (n : Nat) (H : ∀ m, m < n + 1 → P_graph_reached_1 m) : FnOK Tryz.prog ⟨76, [.one (.int .i64), .one (.adr), .one (.adr), .one (.adr)], [], fun x => graph_reached_1 (n + 1) (x.1) (x.2.1) (x.2.2.1) (x.2.2.2)⟩ :=
  fn_ok (P := Tryz.prog) (e := ⟨76, [.one (.int .i64), .one (.adr), .one (.adr), .one (.adr)], [], fun x => graph_reached_1 (n + 1) (x.1) (x.2.1) (x.2.2.1) (x.2.2.2)⟩) (fn := Tryz.f76) (c := (bodyOf Tryz.f76)) (T := ⟨lookC (graph_reached_1_ct n) (graph_reached_1_dt n), lookL (graph_reached_1_lt n), lookJ (graph_reached_1_jt0 n), graph_reached_1_dr⟩) (N := 400) (ps := [(0, .one (.int .i64)), (1, .one (.adr)), (2, .one (.adr)), (3, .one (.adr))])
    (by kernel_rfl) (by kernel_rfl) (by kernel_rfl) (by kernel_rfl) (by kernel_rfl) (tabs_ok (P := Tryz.prog) (body := (bodyOf Tryz.f76)) (W := (46, none)) (cl := graph_reached_1_ct n) (dl := graph_reached_1_dt n) (ll := graph_reached_1_lt n) (dr := graph_reached_1_dr) (fin := (finF Tryz.prog Tryz.f76 [])) (N := 400) (js := graph_reached_1_jt0 n) AllMo.nil AllOK.nil (AllD.cons (dent_ok (l := [⟨76, [.one (.adr), .one (.adr), .one (.adr)], fun a c => graph_reached_1 n (a) (c.1) (c.2.1) (c.2.2)⟩]) (AllT.cons (fun a c => callOK_cast (by kernel_rfl) ((H n (Nat.lt_succ_self n)) (a, c.1, c.2.1, c.2.2))) AllT.nil) (fun x a => by kernel_rfl)) (AllD.cons (dent_ok (l := [⟨76, [.one (.adr), .one (.adr), .one (.adr)], fun a c => graph_reached_1 n (a) (c.1) (c.2.1) (c.2.2)⟩]) (AllT.cons (fun a c => callOK_cast (by kernel_rfl) ((H n (Nat.lt_succ_self n)) (a, c.1, c.2.1, c.2.2))) AllT.nil) (fun x a => by kernel_rfl)) AllD.nil)) (AllL.cons (graph_reached_1_L0_ok n (fun k hk => H k (Nat.lt_succ_of_lt hk)) (by kernel_rfl)) (AllL.cons (graph_reached_1_L1_ok n (fun k hk => H k (Nat.lt_succ_of_lt hk)) (by kernel_rfl)) AllL.nil)) AllJ.nil) (fun x => by kernel_rfl)
theorem P_graph_reached_1_all : ∀ n m, m < n → P_graph_reached_1 m := by
  intro n
  induction n with
  | zero => intro m hm; exact absurd hm (Nat.not_lt_zero m)
  | succ n ih =>
    intro m hm
    cases m with
    | zero => exact fn_zero (fn := Tryz.f76) (by kernel_rfl) (by kernel_rfl) (by kernel_rfl) (fun _ => rfl)
    | succ k => exact graph_reached_1_ok_step k fun m hm => ih m (by omega)
theorem graph_reached_1_ok (n : Nat) : FnOK Tryz.prog ⟨76, [.one (.int .i64), .one (.adr), .one (.adr), .one (.adr)], [], fun x => graph_reached_1 n (x.1) (x.2.1) (x.2.2.1) (x.2.2.2)⟩ := (P_graph_reached_1_all (n + 1) n (Nat.lt_succ_self n))
def graph_reached_D8 (n : Nat) (x : Value) (a0 : Int) : M (Unit) :=
  if isFn F_graph_reached_1 x then
    M.bind (asFn [.one (.adr), .one (.adr), .one (.adr)] x) fun (c : Addr × Addr × Addr) => graph_reached_1 n a0 (c.1) (c.2.1) (c.2.2)
  else M.fail
def graph_reached (n : Nat) (a0 : Sl × Int) (a1 : Int) (a2 : Sl) : M (Unit) :=
  M.bind (newB none T_api_Graph [vsl a0.1, vi a0.2]) fun x0 =>
  M.bind (newB none T_sl_bool [vsl a2]) fun x1 =>
  M.bind (newB none T_fn_i64__ [Value.nilFunc]) fun x2 =>
  M.bind (stN (adr x2) [Value.func (Fn.func F_graph_reached_1) #[] #[Value.pointer (some (adr x1)), Value.pointer (some (adr x0)), Value.pointer (some (adr x2))]]) fun x3 =>
  M.bind (ldL .raw (adr x2)) fun (x4 : Value) =>
  M.bind (graph_reached_D8 n x4 a1) fun x5 =>
  M.pure ()
def graph_reached_dt (n : Nat) : List DEnt := [⟨8, [.one (.int .i64)], [], fun x a => graph_reached_D8 n x (a)⟩]
def graph_reached_ct (n : Nat) : List Ent := []
def graph_reached_dr (i : Nat) : Option (List (Nat × List Nat)) := none
def graph_reached_lt (n : Nat) : List LEnt := []
def graph_reached_jt0 (n : Nat) : List (JEnt (Unit)) := []
theorem graph_reached_ok (n : Nat) : FnOK Tryz.prog ⟨43, [.agg [.sl, .int .i64], .one (.int .i64), .one (.sl)], [], fun x => graph_reached n (x.1) (x.2.1) (x.2.2)⟩ :=
  fn_ok (P := Tryz.prog) (e := ⟨43, [.agg [.sl, .int .i64], .one (.int .i64), .one (.sl)], [], fun x => graph_reached n (x.1) (x.2.1) (x.2.2)⟩) (fn := Tryz.f43) (c := (bodyOf Tryz.f43)) (T := ⟨lookC (graph_reached_ct n) (graph_reached_dt n), lookL (graph_reached_lt n), lookJ (graph_reached_jt0 n), graph_reached_dr⟩) (N := 400) (ps := [(0, .agg [.sl, .int .i64]), (1, .one (.int .i64)), (2, .one (.sl))])
    (by kernel_rfl) (by kernel_rfl) (by kernel_rfl) (by kernel_rfl) (by kernel_rfl) (tabs_ok (P := Tryz.prog) (body := (bodyOf Tryz.f43)) (W := (11, none)) (cl := graph_reached_ct n) (dl := graph_reached_dt n) (ll := graph_reached_lt n) (dr := graph_reached_dr) (fin := (finF Tryz.prog Tryz.f43 [])) (N := 400) (js := graph_reached_jt0 n) AllMo.nil AllOK.nil (AllD.cons (dent_ok (l := [⟨76, [.one (.adr), .one (.adr), .one (.adr)], fun a c => graph_reached_1 n (a) (c.1) (c.2.1) (c.2.2)⟩]) (AllT.cons (fun a c => callOK_cast (by kernel_rfl) ((graph_reached_1_ok n) (a, c.1, c.2.1, c.2.2))) AllT.nil) (fun x a => by kernel_rfl)) AllD.nil) AllL.nil AllJ.nil) (fun x => by kernel_rfl)
end Go.Sh
