
import Derived.Test.YtlbigfjnapgioaaGreatDoorShLib
set_option maxRecDepth 100000
set_option maxHeartbeats 0
set_option linter.all false
namespace Go.Sh
open Go Go.Ago Go.Proofs
def bencode_parser_fail (n : Nat) (a0 : Option Addr) (a1 : Int) (a2 : Int) : M (Bool) :=
 M.bind (nn a0) fun x0 =>
 M.bind (ldL (li) (x0.plus 8)) fun (x1 : Int) =>
 if decide (x1 = 0) then
  M.bind (nn a0) fun x2 =>
  M.bind (stN (x2.plus 9) [vi a1]) fun x3 =>
  M.bind (nn a0) fun x4 =>
  M.bind (stN (x4.plus 8) [vi a2]) fun x5 =>
  M.pure false
 else
  M.pure false
abbrev q20_E (n : Nat) : Ent:=⟨20,[tyP,tyI,tyI],[tyB],fun x=>bencode_parser_fail n (x.1) (x.2.1) (x.2.2)⟩
abbrev q20_dt (n : Nat) : List DEnt:=[]
abbrev q20_ct (n : Nat) : List Ent:=[]
def q20_dr (i : Nat) : Option (List (Nat × List Nat)):=none
theorem bencode_parser_fail_ok (n : Nat) : FnOK Tryz.prog (q20_E n) :=
 fn_t (q20_E n) Tryz.f20 (bodyOf Tryz.f20) [(0,tyP),(1,tyI),(2,tyI)] [] (q20_ct n) (q20_dt n) [] [] q20_dr (by kernel_rfl) (by kernel_rfl) (by kernel_rfl) (by kernel_rfl) (by kernel_rfl) ⟨.nil,.nil,.nil,.nil,.nil⟩ (fun x=>by kernel_rfl)
def bencode_parser_more (n : Nat) (a0 : Option Addr) : M (Bool) :=
 M.bind (nn a0) fun x0 =>
 M.bind (nn a0) fun x1 =>
 M.bind (ldL (li) (x0.plus 1)) fun (x2 : Int) =>
 M.bind (ldL .str (x1.plus 0)) fun (x3 : ByteArray) =>
 if decide ((↑(ByteArray.size x3) : Int) ≤ x2) then
  M.bind (nn a0) fun x4 =>
  M.bind (ldL .str (x4.plus 0)) fun (x5 : ByteArray) =>
  M.bind (bencode_parser_fail n a0 (↑(ByteArray.size x5) : Int) 4) fun x6 =>
  M.pure x6
 else
  M.bind (nn a0) fun x4 =>
  M.bind (ldL (li) (x4.plus 8)) fun (x5 : Int) =>
  M.pure (decide (x5 = 0))
abbrev q58_E (n : Nat) : Ent:=⟨58,[tyP],[tyB],fun x=>bencode_parser_more n x⟩
abbrev q58_dt (n : Nat) : List DEnt:=[]
abbrev q58_ct (n : Nat) : List Ent:=[q20_E n]
def q58_dr (i : Nat) : Option (List (Nat × List Nat)):=cond (Nat.beq i 1) (some [(0,[]),(1,[]),(2,[]),(4,[]),(5,[]),(6,[]),(3,[]),(7,[]),(8,[]),(9,[])]) (none)
theorem bencode_parser_more_ok (n : Nat) : FnOK Tryz.prog (q58_E n) :=
 fn_t (q58_E n) Tryz.f58 (bodyOf Tryz.f58) [(0,tyP)] [] (q58_ct n) (q58_dt n) [] [] q58_dr (by kernel_rfl) (by kernel_rfl) (by kernel_rfl) (by kernel_rfl) (by kernel_rfl) ⟨.nil,(.cons (bencode_parser_fail_ok n) .nil),.nil,.nil,.nil⟩ (fun x=>by kernel_rfl)
def integer_trim_L0_B (G : Sl → M (Sl)) (n : Nat) (a0 : Sl) : M (Sl) :=
 if decide (0 < (↑a0.len : Int)) then
  M.bind (idxA a0 (IntKind.i64.wrap ((↑a0.len : Int) - 1)) 1) fun x0 =>
  M.bind (ldL (.int IntKind.u8) x0) fun (x1 : Int) =>
  if decide (x1 = 0) then
   M.bind (sliceL a0 0 (IntKind.i64.wrap ((↑a0.len : Int) - 1)) T_u8 1) fun x2 =>
   G x2
  else
   M.pure a0
 else
  M.pure a0
def integer_trim_L0 : Nat → Sl → M (Sl)
 | 0=>fun _=>M.fail
 | n + 1=>integer_trim_L0_B (integer_trim_L0 n) n
theorem integer_trim_L0_succ (n : Nat) : integer_trim_L0 (n + 1) = integer_trim_L0_B (integer_trim_L0 n) n:=rfl
def integer_trim (n : Nat) (a0 : Sl) : M (Sl) :=
 M.bind (integer_trim_L0 n a0) fun x0 =>
 M.pure x0
abbrev q161_E (n : Nat) : Ent:=⟨161,[tyL],[tyL],fun x=>integer_trim n x⟩
abbrev q161_L0_a : List (Nat × Ty):=[(0,tyL)]
abbrev q161_L0_w : List Nat:=[0,3,4,5,6,7,8,9,10,11,12,13,14,15,16,17,18,19]
abbrev q161_L0_p : Path:=[0,0,1]
abbrev q161_L0_g (n : Nat) (x : TsDen (tys q161_L0_a)) : M (Sl):=integer_trim_L0 n x
abbrev q161_L0_l (n : Nat) : LEnt:=⟨q161_L0_p,q161_L0_a,actL1 q161_L0_a [(0,tyL)] q161_L0_w 0 (q161_L0_g n)⟩
abbrev q161_dt (n : Nat) : List DEnt:=[]
abbrev q161_ct (n : Nat) : List Ent:=[]
def q161_dr (i : Nat) : Option (List (Nat × List Nat)):=none
abbrev q161_lt (n : Nat) : List LEnt:=[q161_L0_l n]
theorem q161_L0_ok (n : Nat) {W : Wr} (hW : subW W 21 q161_L0_w = true) : LEntOK Tryz.prog (bodyOf Tryz.f161) W (q161_L0_l n) :=
 loop1_t (bodyOf Tryz.f161) q161_L0_p q161_L0_a [(0,tyL)] 0 21 q161_L0_w [] q161_ct q161_dt (fun _=>[]) q161_dr q161_L0_g (fun _=>[]) (by kernel_rfl) (fun _=>by kernel_rfl) (fun n x=>by kernel_rfl) n (fun m hm=>⟨.nil,.nil,.nil,.nil,.nil⟩) hW
theorem integer_trim_ok (n : Nat) : FnOK Tryz.prog (q161_E n) :=
 fn_t (q161_E n) Tryz.f161 (bodyOf Tryz.f161) [(0,tyL)] [] (q161_ct n) (q161_dt n) (q161_lt n) [] q161_dr (by kernel_rfl) (by kernel_rfl) (by kernel_rfl) (by kernel_rfl) (by kernel_rfl) ⟨.nil,.nil,.nil,(.cons (q161_L0_ok n (by kernel_rfl)) .nil),.nil⟩ (fun x=>by kernel_rfl)
def integer_read_L0_J0_B (G : Addr → Addr → ByteArray → Int → Int → M ((Unit) ⊕ (Bool))) (n : Nat) (a0 : Addr) (a1 : Addr) (a2 : ByteArray) (a3 : Int) (a4 : Int) (a5 : Int) : M ((Unit) ⊕ (Bool)) :=
 M.bind (idxS a2 a3) fun x0 =>
 M.bind (ldL .sl (a1.plus 1)) fun (x1 : Sl) =>
 M.bind (idxA x1 (IntKind.i64.wrap (IntKind.i64.wrap ((↑a2.size : Int) - 1) - a3)) 1) fun x2 =>
 M.bind (stN x2 [Value.int IntKind.u8 (IntKind.u8.wrap ((↑x0.toNat : Int) - 48))]) fun x3 =>
 G a0 a1 a2 a4 (IntKind.i64.wrap (a5 + 1))
def integer_read_L0_B (G : Addr → Addr → ByteArray → Int → Int → M ((Unit) ⊕ (Bool))) (n : Nat) (a0 : Addr) (a1 : Addr) (a2 : ByteArray) (a3 : Int) (a4 : Int) : M ((Unit) ⊕ (Bool)) :=
 if decide (a4 < a3) then
  M.bind (idxS a2 a4) fun x0 =>
  if decide ((↑x0.toNat : Int) < 48) then
   M.bind (stN a0 [Value.bool false,vsl0]) fun x1 =>
   M.pure (Sum.inr false)
  else
   M.bind (idxS a2 a4) fun x1 =>
   if decide (57 < (↑x1.toNat : Int)) then
    M.bind (stN a0 [Value.bool false,vsl0]) fun x2 =>
    M.pure (Sum.inr false)
   else
    integer_read_L0_J0_B G n a0 a1 a2 a4 a3 a4
 else
  M.pure (Sum.inl ())
def integer_read_L0 : Nat → Addr → Addr → ByteArray → Int → Int → M ((Unit) ⊕ (Bool))
 | 0=>fun _ _ _ _ _=>M.fail
 | n + 1=>integer_read_L0_B (integer_read_L0 n) n
theorem integer_read_L0_succ (n : Nat) : integer_read_L0 (n + 1) = integer_read_L0_B (integer_read_L0 n) n:=rfl
def integer_read_L0_J0 (n : Nat) (a0 : Addr) (a1 : Addr) (a2 : ByteArray) (a3 : Int) (a4 : Int) (a5 : Int) : M ((Unit) ⊕ (Bool)):=integer_read_L0_J0_B (integer_read_L0 n) n a0 a1 a2 a3 a4 a5
def integer_read_J1 (n : Nat) (a0 : Addr) (a1 : Addr) (a2 : ByteArray) : M ((Bool × Sl) × Bool) :=
 M.bind (mkS none T_u8 [Value.int IntKind.u8 0] (↑a2.size : Int) (↑a2.size : Int)) fun x0 =>
 M.bind (stN (a1.plus 1) [vsl x0]) fun x1 =>
 M.bind (integer_read_L0 n a0 a1 a2 (↑a2.size : Int) 0) (sumElim (fun x2 =>
  M.bind (ldL .sl (a1.plus 1)) fun (x3 : Sl) =>
  M.bind (integer_trim n x3) fun x4 =>
  M.bind (stN (a1.plus 1) [vsl x4]) fun x5 =>
  M.bind (ldLs [.bool,.sl] a1) fun (x6 : Bool × Sl) =>
  M.bind (stN a0 [Value.bool x6.1,vsl x6.2]) fun x7 =>
  M.bind (ldLs [.bool,.sl] a0) fun (x8 : Bool × Sl) =>
  M.pure ((x8.1,x8.2),true))
 (fun x2 =>
  M.bind (ldLs [.bool,.sl] a0) fun (x3 : Bool × Sl) =>
  M.pure ((x3.1,x3.2),x2)))
def integer_read_J0 (n : Nat) (a0 : ByteArray) (a1 : Addr) (a2 : Addr) (a3 : ByteArray) : M ((Bool × Sl) × Bool) :=
 if decide ((↑a3.size : Int) = 0) then
  M.bind (stN a1 [Value.bool false,vsl0]) fun x0 =>
  M.bind (ldLs [.bool,.sl] a1) fun (x1 : Bool × Sl) =>
  M.pure ((x1.1,x1.2),false)
 else
  if decide (400 < (↑a3.size : Int)) then
   M.bind (stN a1 [Value.bool false,vsl0]) fun x0 =>
   M.bind (ldLs [.bool,.sl] a1) fun (x1 : Bool × Sl) =>
   M.pure ((x1.1,x1.2),false)
  else
   M.bind (idxS a3 0) fun x0 =>
   if decide ((↑x0.toNat : Int) = 48) then
    if decide (1 < (↑a0.size : Int)) then
     M.bind (stN a1 [Value.bool false,vsl0]) fun x1 =>
     M.bind (ldLs [.bool,.sl] a1) fun (x2 : Bool × Sl) =>
     M.pure ((x2.1,x2.2),false)
    else
     integer_read_J1 n a1 a2 a3
   else
    integer_read_J1 n a1 a2 a3
def integer_read (n : Nat) (a0 : ByteArray) : M ((Bool × Sl) × Bool) :=
 M.bind (newB none T_integer_number [Value.bool false,vsl0]) fun x0 =>
 M.bind (newB none T_integer_number [Value.bool false,vsl0]) fun x1 =>
 M.bind (stN (adr x1) [Value.bool false,vsl0]) fun x2 =>
 if decide (1 < (↑a0.size : Int)) then
  M.bind (idxS a0 0) fun x3 =>
  if decide ((↑x3.toNat : Int) = 45) then
   M.bind (stN ((adr x1).plus 0) [Value.bool true]) fun x4 =>
   M.bind (sliceS a0 1 (↑a0.size : Int)) fun x5 =>
   integer_read_J0 n a0 (adr x0) (adr x1) x5
  else
   integer_read_J0 n a0 (adr x0) (adr x1) a0
 else
  integer_read_J0 n a0 (adr x0) (adr x1) a0
abbrev q129_E (n : Nat) : Ent:=⟨129,[tyS],[.agg [.bool,.sl],tyB],fun x=>integer_read n x⟩
abbrev q129_L0_a : List (Nat × Ty):=[(2,tyA),(4,tyA),(5,tyS),(44,tyI),(45,tyI)]
abbrev q129_L0_w : List Nat:=[3,6,45,46,47,48,49,50,51,52,53,54,55,56,57,58,59,60,61,62,63,64,65,66,67,68,69,70,71]
abbrev q129_L0_p : Path:=[0,1,0,1,1,1,1,1,1]
abbrev q129_L0_g (n : Nat) (x : TsDen (tys q129_L0_a)) : M ((Unit) ⊕ (Bool)):=integer_read_L0 n (x.1) (x.2.1) (x.2.2.1) (x.2.2.2.1) (x.2.2.2.2)
abbrev q129_L0_l (n : Nat) : LEnt:=⟨q129_L0_p,q129_L0_a,actL2 q129_L0_a [] [(3,tyB)] q129_L0_w 0 .ret (q129_L0_g n)⟩
abbrev q129_dt (n : Nat) : List DEnt:=[]
abbrev q129_ct (n : Nat) : List Ent:=[q161_E n]
def q129_dr (i : Nat) : Option (List (Nat × List Nat)):=cond (Nat.beq i 14) (some [(0,[]),(2,[]),(3,[]),(4,[]),(5,[]),(6,[]),(7,[]),(8,[]),(9,[]),(10,[]),(1,[]),(11,[]),(12,[])]) (none)
abbrev q129_L0_jt1 (n : Nat) : List (JEnt ((Unit) ⊕ (Bool))):=[]
abbrev q129_L0_jt0 (n : Nat) : List (JEnt ((Unit) ⊕ (Bool))):=⟨[1,1,0,0,1,1,0,0,1,0,1,1,1,1,1,1],[.blk 1,.code [1,1,1,0,0,1,0,1,1,1,1,1,1]],[(2,tyA),(4,tyA),(5,tyS),(6,tyI),(44,tyI),(45,tyI)],fun x=>integer_read_L0_J0 n (x.1) (x.2.1) (x.2.2.1) (x.2.2.2.1) (x.2.2.2.2.1) (x.2.2.2.2.2)⟩ :: q129_L0_jt1 n
abbrev q129_lt (n : Nat) : List LEnt:=[q129_L0_l n]
abbrev q129_jt2 (n : Nat) : List (JEnt ((Bool × Sl) × Bool)):=[]
abbrev q129_jt1 (n : Nat) : List (JEnt ((Bool × Sl) × Bool)):=⟨[0,1,1,1,1,1],[.code [1,1,1,1,1,1]],[(2,tyA),(4,tyA),(5,tyS)],fun x=>integer_read_J1 n (x.1) (x.2.1) (x.2.2)⟩ :: q129_jt2 n
abbrev q129_jt0 (n : Nat) : List (JEnt ((Bool × Sl) × Bool)):=⟨[0,0,1,1,1,1],[.code [1,0,1,1,1,1],.code [1,1,1,1,1]],[(0,tyS),(2,tyA),(4,tyA),(5,tyS)],fun x=>integer_read_J0 n (x.1) (x.2.1) (x.2.2.1) (x.2.2.2)⟩ :: q129_jt1 n
theorem q129_L0_ok (n : Nat) {W : Wr} (hW : subW W 77 q129_L0_w = true) : LEntOK Tryz.prog (bodyOf Tryz.f129) W (q129_L0_l n) :=
 loop2_t (bodyOf Tryz.f129) q129_L0_p q129_L0_a [] [(3,tyB)] 0 .ret 77 q129_L0_w [] q129_ct q129_dt (fun _=>[]) q129_dr q129_L0_g q129_L0_jt0 (by kernel_rfl) (fun _=>by kernel_rfl) (fun n x=>by kernel_rfl) n (fun m hm=>⟨.nil,(.cons (integer_trim_ok m) .nil),.nil,.nil,(.cons (fun x=>by kernel_rfl) .nil)⟩) hW
theorem integer_read_ok (n : Nat) : FnOK Tryz.prog (q129_E n) :=
 fn_t (q129_E n) Tryz.f129 (bodyOf Tryz.f129) [(0,tyS)] [] (q129_ct n) (q129_dt n) (q129_lt n) (q129_jt0 n) q129_dr (by kernel_rfl) (by kernel_rfl) (by kernel_rfl) (by kernel_rfl) (by kernel_rfl) ⟨.nil,(.cons (integer_trim_ok n) .nil),.nil,(.cons (q129_L0_ok n (by kernel_rfl)) .nil),(.cons (fun x=>by kernel_rfl) (.cons (fun x=>by kernel_rfl) .nil))⟩ (fun x=>by kernel_rfl)
def integer_Valid (n : Nat) (a0 : ByteArray) : M (Bool) :=
 M.bind (integer_read n a0) fun x0 =>
 M.bind (newB none T_integer_number [Value.bool false,vsl0]) fun x1 =>
 M.bind (stN (adr x1) [Value.bool x0.1.1,vsl x0.1.2]) fun x2 =>
 M.pure x0.2
abbrev q97_E (n : Nat) : Ent:=⟨97,[tyS],[tyB],fun x=>integer_Valid n x⟩
abbrev q97_dt (n : Nat) : List DEnt:=[]
abbrev q97_ct (n : Nat) : List Ent:=[q129_E n]
def q97_dr (i : Nat) : Option (List (Nat × List Nat)):=none
theorem integer_Valid_ok (n : Nat) : FnOK Tryz.prog (q97_E n) :=
 fn_t (q97_E n) Tryz.f97 (bodyOf Tryz.f97) [(0,tyS)] [] (q97_ct n) (q97_dt n) [] [] q97_dr (by kernel_rfl) (by kernel_rfl) (by kernel_rfl) (by kernel_rfl) (by kernel_rfl) ⟨.nil,(.cons (integer_read_ok n) .nil),.nil,.nil,.nil⟩ (fun x=>by kernel_rfl)
def bencode_parser_node (n : Nat) (a0 : Option Addr) (a1 : Int × ByteArray × Bool × Sl × Sl) (a2 : Int) (a3 : Int) : M (Int × Bool) :=
 M.bind (newB none T_api_Node [vi a1.1,Value.string a1.2.1,Value.bool a1.2.2.1,vsl a1.2.2.2.1,vsl a1.2.2.2.2]) fun x0 =>
 if decide (32 < a3) then
  M.bind (bencode_parser_fail n a0 a2 5) fun x1 =>
  M.pure (0,x1)
 else
  M.bind (nn a0) fun x1 =>
  M.bind (ldL .sl (((x1.plus 2).plus 2).plus 0)) fun (x2 : Sl) =>
  if decide (4096 ≤ (↑x2.len : Int)) then
   M.bind (bencode_parser_fail n a0 a2 7) fun x3 =>
   M.pure (0,x3)
  else
   M.bind (nn a0) fun x3 =>
   M.bind (ldL .sl (((x3.plus 2).plus 2).plus 0)) fun (x4 : Sl) =>
   M.bind (ldLs [li,.str,.bool,.sl,.sl] (adr x0)) fun (x5 : Int × ByteArray × Bool × Sl × Sl) =>
   M.bind (app true x4 5 T_api_Node 1 [vi x5.1,Value.string x5.2.1,Value.bool x5.2.2.1,vsl x5.2.2.2.1,vsl x5.2.2.2.2]) fun x6 =>
   M.bind (nn a0) fun x7 =>
   M.bind (stN (((x7.plus 2).plus 2).plus 0) [vsl x6]) fun x8 =>
   M.bind (nn a0) fun x9 =>
   M.bind (ldL .sl (((x9.plus 2).plus 2).plus 0)) fun (x10 : Sl) =>
   M.pure (IntKind.i64.wrap ((↑x10.len : Int) - 1),true)
abbrev q98_E (n : Nat) : Ent:=⟨98,[tyP,.agg [.int .i64,.str,.bool,.sl,.sl],tyI,tyI],[tyI,tyB],fun x=>bencode_parser_node n (x.1) (x.2.1) (x.2.2.1) (x.2.2.2)⟩
abbrev q98_dt (n : Nat) : List DEnt:=[]
abbrev q98_ct (n : Nat) : List Ent:=[q20_E n]
def q98_dr (i : Nat) : Option (List (Nat × List Nat)):=cond (Nat.beq i 5) (some [(0,[]),(1,[]),(2,[]),(3,[]),(4,[]),(5,[]),(6,[]),(7,[]),(8,[]),(9,[]),(10,[]),(11,[]),(12,[]),(13,[]),(14,[])]) (none)
theorem bencode_parser_node_ok (n : Nat) : FnOK Tryz.prog (q98_E n) :=
 fn_t (q98_E n) Tryz.f98 (bodyOf Tryz.f98) [(0,tyP),(1,.agg [.int .i64,.str,.bool,.sl,.sl]),(2,tyI),(3,tyI)] [] (q98_ct n) (q98_dt n) [] [] q98_dr (by kernel_rfl) (by kernel_rfl) (by kernel_rfl) (by kernel_rfl) (by kernel_rfl) ⟨.nil,(.cons (bencode_parser_fail_ok n) .nil),.nil,.nil,.nil⟩ (fun x=>by kernel_rfl)
def bencode_parser_integer (n : Nat) (a0 : Option Addr) (a1 : Int) (a2 : Int) : M (Int × Bool) :=
 M.bind (nn a0) fun x0 =>
 M.bind (ldL (li) (x0.plus 1)) fun (x1 : Int) =>
 M.bind (nn a0) fun x2 =>
 M.bind (ldL .str (x2.plus 0)) fun (x3 : ByteArray) =>
 M.bind (sliceS x3 x1 (↑(ByteArray.size x3) : Int)) fun x4 =>
 M.bind (strings_IndexByte n x4 101) fun x5 =>
 if decide (x5 < 0) then
  M.bind (nn a0) fun x6 =>
  M.bind (ldL .str (x6.plus 0)) fun (x7 : ByteArray) =>
  M.bind (bencode_parser_fail n a0 (↑(ByteArray.size x7) : Int) 4) fun x8 =>
  M.pure (0,x8)
 else
  M.bind (nn a0) fun x6 =>
  M.bind (ldL .str (x6.plus 0)) fun (x7 : ByteArray) =>
  M.bind (sliceS x7 (IntKind.i64.wrap (x1 + 1)) (IntKind.i64.wrap (x1 + x5))) fun x8 =>
  M.bind (nn a0) fun x9 =>
  M.bind (stN (x9.plus 1) [vi (IntKind.i64.wrap (IntKind.i64.wrap (x1 + x5) + 1))]) fun x10 =>
  M.bind (integer_Valid n x8) fun x11 =>
  if !x11 then
   M.bind (bencode_parser_fail n a0 x1 12) fun x12 =>
   M.pure (0,x12)
  else
   M.bind (bencode_parser_node n a0 (2,x8,false,sl0,sl0) x1 a1) fun x12 =>
   M.pure (x12.1,x12.2)
abbrev q59_E (n : Nat) : Ent:=⟨59,[tyP,tyI,tyI],[tyI,tyB],fun x=>bencode_parser_integer n (x.1) (x.2.1) (x.2.2)⟩
abbrev q59_dt (n : Nat) : List DEnt:=[]
abbrev q59_ct (n : Nat) : List Ent:=[q20_E n,⟨96,[tyS,.one (.int .u8)],[tyI],fun x=>strings_IndexByte n (x.1) (x.2)⟩,q97_E n,q98_E n]
def q59_dr (i : Nat) : Option (List (Nat × List Nat)):=none
theorem bencode_parser_integer_ok (n : Nat) : FnOK Tryz.prog (q59_E n) :=
 fn_t (q59_E n) Tryz.f59 (bodyOf Tryz.f59) [(0,tyP),(1,tyI),(2,tyI)] [] (q59_ct n) (q59_dt n) [] [] q59_dr (by kernel_rfl) (by kernel_rfl) (by kernel_rfl) (by kernel_rfl) (by kernel_rfl) ⟨.nil,(.cons (bencode_parser_fail_ok n) (.cons (strings_IndexByte_ok n) (.cons (integer_Valid_ok n) (.cons (bencode_parser_node_ok n) .nil)))),.nil,.nil,.nil⟩ (fun x=>by kernel_rfl)
def bencode_parser_text_L0_B (G : Option Addr → Int → M (Unit)) (n : Nat) (a0 : Option Addr) (a1 : Int) : M (Unit) :=
 M.bind (nn a0) fun x0 =>
 M.bind (nn a0) fun x1 =>
 M.bind (ldL (li) (x0.plus 1)) fun (x2 : Int) =>
 M.bind (ldL .str (x1.plus 0)) fun (x3 : ByteArray) =>
 if decide (x2 < (↑(ByteArray.size x3) : Int)) then
  M.bind (nn a0) fun x4 =>
  M.bind (nn a0) fun x5 =>
  M.bind (ldL .str (x4.plus 0)) fun (x6 : ByteArray) =>
  M.bind (ldL (li) (x5.plus 1)) fun (x7 : Int) =>
  M.bind (idxS x6 x7) fun x8 =>
  if decide (48 ≤ (↑x8.toNat : Int)) then
   M.bind (nn a0) fun x9 =>
   M.bind (nn a0) fun x10 =>
   M.bind (ldL .str (x9.plus 0)) fun (x11 : ByteArray) =>
   M.bind (ldL (li) (x10.plus 1)) fun (x12 : Int) =>
   M.bind (idxS x11 x12) fun x13 =>
   if decide ((↑x13.toNat : Int) ≤ 57) then
    M.bind (nn a0) fun x14 =>
    M.bind (ldL (li) (x14.plus 1)) fun (x15 : Int) =>
    M.bind (nn a0) fun x16 =>
    M.bind (stN (x16.plus 1) [vi (IntKind.i64.wrap (x15 + 1))]) fun x17 =>
    G a0 a1
   else
    M.pure ()
  else
   M.pure ()
 else
  M.pure ()
def bencode_parser_text_L0 : Nat → Option Addr → Int → M (Unit)
 | 0=>fun _ _=>M.fail
 | n + 1=>bencode_parser_text_L0_B (bencode_parser_text_L0 n) n
theorem bencode_parser_text_L0_succ (n : Nat) : bencode_parser_text_L0 (n + 1) = bencode_parser_text_L0_B (bencode_parser_text_L0 n) n:=rfl
def bencode_parser_text_J1 (n : Nat) (a0 : Option Addr) (a1 : Int) : M (ByteArray × Bool) :=
 M.bind (nn a0) fun x0 =>
 M.bind (ldL (li) (x0.plus 1)) fun (x1 : Int) =>
 M.bind (nn a0) fun x2 =>
 M.bind (stN (x2.plus 1) [vi (IntKind.i64.wrap (x1 + a1))]) fun x3 =>
 M.bind (nn a0) fun x4 =>
 M.bind (nn a0) fun x5 =>
 M.bind (nn a0) fun x6 =>
 M.bind (ldL .str (x4.plus 0)) fun (x7 : ByteArray) =>
 M.bind (ldL (li) (x5.plus 1)) fun (x8 : Int) =>
 M.bind (ldL (li) (x6.plus 1)) fun (x9 : Int) =>
 M.bind (sliceS x7 (IntKind.i64.wrap (x8 - a1)) x9) fun x10 =>
 M.pure (x10,true)
def bencode_parser_text_J0 (n : Nat) (a0 : Option Addr) (a1 : ByteArray) : M (ByteArray × Bool) :=
 M.bind (bencode_parser_more n a0) fun x0 =>
 if !x0 then
  M.pure ((ofBytes []),false)
 else
  M.bind (nn a0) fun x1 =>
  M.bind (nn a0) fun x2 =>
  M.bind (ldL .str (x1.plus 0)) fun (x3 : ByteArray) =>
  M.bind (ldL (li) (x2.plus 1)) fun (x4 : Int) =>
  M.bind (idxS x3 x4) fun x5 =>
  if !decide ((↑x5.toNat : Int) = 58) then
   M.bind (nn a0) fun x6 =>
   M.bind (ldL (li) (x6.plus 1)) fun (x7 : Int) =>
   M.bind (bencode_parser_fail n a0 x7 4) fun x8 =>
   M.pure ((ofBytes []),x8)
  else
   M.bind (nn a0) fun x6 =>
   M.bind (ldL (li) (x6.plus 1)) fun (x7 : Int) =>
   M.bind (nn a0) fun x8 =>
   M.bind (stN (x8.plus 1) [vi (IntKind.i64.wrap (x7 + 1))]) fun x9 =>
   M.bind (strconv_Atoi n a1) fun x10 =>
   M.bind (isNilI x10.2) fun x11 =>
   if !x11 then
    M.bind (nn a0) fun x12 =>
    M.bind (ldL .str (x12.plus 0)) fun (x13 : ByteArray) =>
    M.bind (bencode_parser_fail n a0 (↑(ByteArray.size x13) : Int) 4) fun x14 =>
    M.pure ((ofBytes []),x14)
   else
    M.bind (nn a0) fun x12 =>
    M.bind (nn a0) fun x13 =>
    M.bind (ldL .str (x12.plus 0)) fun (x14 : ByteArray) =>
    M.bind (ldL (li) (x13.plus 1)) fun (x15 : Int) =>
    if decide (IntKind.i64.wrap ((↑(ByteArray.size x14) : Int) - x15) < x10.1) then
     M.bind (nn a0) fun x16 =>
     M.bind (ldL .str (x16.plus 0)) fun (x17 : ByteArray) =>
     M.bind (bencode_parser_fail n a0 (↑(ByteArray.size x17) : Int) 4) fun x18 =>
     M.pure ((ofBytes []),x18)
    else
     bencode_parser_text_J1 n a0 x10.1
def bencode_parser_text (n : Nat) (a0 : Option Addr) : M (ByteArray × Bool) :=
 M.bind (nn a0) fun x0 =>
 M.bind (ldL (li) (x0.plus 1)) fun (x1 : Int) =>
 M.bind (bencode_parser_text_L0 n a0 x1) fun x2 =>
 M.bind (nn a0) fun x3 =>
 M.bind (nn a0) fun x4 =>
 M.bind (ldL .str (x3.plus 0)) fun (x5 : ByteArray) =>
 M.bind (ldL (li) (x4.plus 1)) fun (x6 : Int) =>
 M.bind (sliceS x5 x1 x6) fun x7 =>
 if eqS x7 (ofBytes []) then
  M.bind (bencode_parser_more n a0) fun x8 =>
  if x8 then
   M.bind (bencode_parser_fail n a0 x1 4) fun x9 =>
   M.pure ((ofBytes []),x9)
  else
   M.pure ((ofBytes []),false)
 else
  if decide (1 < (↑x7.size : Int)) then
   M.bind (idxS x7 0) fun x8 =>
   if decide ((↑x8.toNat : Int) = 48) then
    M.bind (bencode_parser_fail n a0 x1 12) fun x9 =>
    M.pure ((ofBytes []),x9)
   else
    bencode_parser_text_J0 n a0 x7
  else
   bencode_parser_text_J0 n a0 x7
abbrev q99_E (n : Nat) : Ent:=⟨99,[tyP],[tyS,tyB],fun x=>bencode_parser_text n x⟩
abbrev q99_L0_a : List (Nat × Ty):=[(0,tyP),(4,tyI)]
abbrev q99_L0_w : List Nat:=[12,13,14,15,16,17,18,19,20,21,22,23,24,25,26,27,28,29,30,31,32,33,34,35,36,37,38,39,40,41,42,43,44,45,46,47,48,49,50,51,52]
abbrev q99_L0_p : Path:=[0,0,1,1]
abbrev q99_L0_g (n : Nat) (x : TsDen (tys q99_L0_a)) : M (Unit):=bencode_parser_text_L0 n (x.1) (x.2)
abbrev q99_L0_l (n : Nat) : LEnt:=⟨q99_L0_p,q99_L0_a,actL1 q99_L0_a [] q99_L0_w 0 (q99_L0_g n)⟩
abbrev q99_dt (n : Nat) : List DEnt:=[]
abbrev q99_ct (n : Nat) : List Ent:=[q20_E n,q58_E n,⟨130,[tyS],[tyI,tyR],fun x=>strconv_Atoi n x⟩]
def q99_dr (i : Nat) : Option (List (Nat × List Nat)):=cond (Nat.beq i 2) (some [(0,[]),(1,[]),(2,[]),(4,[]),(5,[]),(6,[]),(3,[]),(7,[]),(8,[]),(9,[]),(10,[]),(11,[]),(12,[]),(13,[]),(15,[]),(16,[]),(17,[]),(14,[]),(18,[]),(19,[]),(20,[]),(21,[]),(22,[]),(23,[]),(24,[]),(25,[]),(27,[]),(28,[]),(29,[]),(26,[]),(30,[]),(31,[]),(32,[]),(33,[])]) (cond (Nat.beq i 4) (some [(0,[]),(1,[]),(2,[]),(4,[]),(5,[]),(6,[]),(7,[]),(3,[]),(8,[]),(9,[]),(10,[])]) (cond (Nat.beq i 11) (some [(0,[]),(1,[]),(2,[]),(4,[]),(5,[]),(6,[]),(3,[]),(7,[]),(8,[]),(9,[]),(10,[])]) (cond (Nat.beq i 15) (some [(0,[]),(1,[]),(2,[]),(3,[]),(4,[]),(5,[]),(6,[]),(9,[]),(10,[]),(11,[]),(7,[]),(8,[]),(12,[]),(13,[]),(14,[]),(15,[])]) (cond (Nat.beq i 18) (some [(0,[]),(1,[]),(2,[]),(4,[]),(5,[]),(6,[]),(8,[]),(10,[]),(11,[]),(12,[]),(3,[]),(7,[]),(9,[]),(13,[]),(14,[]),(15,[]),(16,[])]) (none)))))
abbrev q99_lt (n : Nat) : List LEnt:=[q99_L0_l n]
abbrev q99_jt2 (n : Nat) : List (JEnt (ByteArray × Bool)):=[]
abbrev q99_jt1 (n : Nat) : List (JEnt (ByteArray × Bool)):=⟨[0,1,1,1,1,1,1,1,1],[.code [1,1,1,1,1,1,1,1,1]],[(0,tyP),(6,tyI)],fun x=>bencode_parser_text_J1 n (x.1) (x.2)⟩ :: q99_jt2 n
abbrev q99_jt0 (n : Nat) : List (JEnt (ByteArray × Bool)):=⟨[0,1,1,1,1,0,0,1,1,1,1],[.code [1,1,1,1,1,0,0,1,1,1,1],.blk 2,.code [1,1,1,1,1]],[(0,tyP),(5,tyS)],fun x=>bencode_parser_text_J0 n (x.1) (x.2)⟩ :: q99_jt1 n
theorem q99_L0_ok (n : Nat) {W : Wr} (hW : subW W 164 q99_L0_w = true) : LEntOK Tryz.prog (bodyOf Tryz.f99) W (q99_L0_l n) :=
 loop1_t (bodyOf Tryz.f99) q99_L0_p q99_L0_a [] 0 164 q99_L0_w [] q99_ct q99_dt (fun _=>[]) q99_dr q99_L0_g (fun _=>[]) (by kernel_rfl) (fun _=>by kernel_rfl) (fun n x=>by kernel_rfl) n (fun m hm=>⟨.nil,(.cons (bencode_parser_fail_ok m) (.cons (bencode_parser_more_ok m) (.cons (strconv_Atoi_ok m) .nil))),.nil,.nil,.nil⟩) hW
theorem bencode_parser_text_ok (n : Nat) : FnOK Tryz.prog (q99_E n) :=
 fn_t (q99_E n) Tryz.f99 (bodyOf Tryz.f99) [(0,tyP)] [] (q99_ct n) (q99_dt n) (q99_lt n) (q99_jt0 n) q99_dr (by kernel_rfl) (by kernel_rfl) (by kernel_rfl) (by kernel_rfl) (by kernel_rfl) ⟨.nil,(.cons (bencode_parser_fail_ok n) (.cons (bencode_parser_more_ok n) (.cons (strconv_Atoi_ok n) .nil))),.nil,(.cons (q99_L0_ok n (by kernel_rfl)) .nil),(.cons (fun x=>by kernel_rfl) (.cons (fun x=>by kernel_rfl) .nil))⟩ (fun x=>by kernel_rfl)
def bencode_parser_str (n : Nat) (a0 : Option Addr) (a1 : Int) (a2 : Int) : M (Int × Bool) :=
 M.bind (nn a0) fun x0 =>
 M.bind (ldL (li) (x0.plus 1)) fun (x1 : Int) =>
 M.bind (bencode_parser_text n a0) fun x2 =>
 if !x2.2 then
  M.pure (0,false)
 else
  M.bind (codepoint_Check n x2.1) fun x3 =>
  if !decide (x3.2 = 0) then
   M.bind (bencode_parser_node n a0 (6,x2.1,false,sl0,sl0) x1 a1) fun x4 =>
   M.pure (x4.1,x4.2)
  else
   M.bind (bencode_parser_node n a0 (5,x2.1,false,sl0,sl0) x1 a1) fun x4 =>
   M.pure (x4.1,x4.2)
abbrev q62_E (n : Nat) : Ent:=⟨62,[tyP,tyI,tyI],[tyI,tyB],fun x=>bencode_parser_str n (x.1) (x.2.1) (x.2.2)⟩
abbrev q62_dt (n : Nat) : List DEnt:=[]
abbrev q62_ct (n : Nat) : List Ent:=[q98_E n,q99_E n,⟨100,[tyS],[tyI,tyI],fun x=>codepoint_Check n x⟩]
def q62_dr (i : Nat) : Option (List (Nat × List Nat)):=none
theorem bencode_parser_str_ok (n : Nat) : FnOK Tryz.prog (q62_E n) :=
 fn_t (q62_E n) Tryz.f62 (bodyOf Tryz.f62) [(0,tyP),(1,tyI),(2,tyI)] [] (q62_ct n) (q62_dt n) [] [] q62_dr (by kernel_rfl) (by kernel_rfl) (by kernel_rfl) (by kernel_rfl) (by kernel_rfl) ⟨.nil,(.cons (bencode_parser_node_ok n) (.cons (bencode_parser_text_ok n) (.cons (codepoint_Check_ok n) .nil))),.nil,.nil,.nil⟩ (fun x=>by kernel_rfl)
structure Cl_bencode_parser_value where
 bencode_parser_value : Option Addr → (Int × Int × Int × Int × Int × Int × Int × Bool × Bool) → Int → M (Int × Bool)
 bencode_parser_list_L0 : Option Addr → Int → Int → Int → Bool → Int → M (Bool)
 bencode_parser_list : Option Addr → Int → Int → M (Int × Bool)
 bencode_parser_dictionary_L0 : Option Addr → Int → Int → Int → Bool → ByteArray → Int → M ((Bool) ⊕ (Int × Bool))
 bencode_parser_dictionary : Option Addr → Int → Int → M (Int × Bool)
def bencode_parser_value_J0_B (G : Cl_bencode_parser_value) (n : Nat) (a0 : Option Addr) (a1 : Int) (a2 : Int) : M (Int × Bool) :=
 M.bind (nn a0) fun x0 =>
 M.bind (nn a0) fun x1 =>
 M.bind (nn a0) fun x2 =>
 M.bind (ldL .sl ((x0.plus 2).plus 4)) fun (x3 : Sl) =>
 M.bind (ldL .sl ((x1.plus 2).plus 4)) fun (x4 : Sl) =>
 M.bind (ldL (li) (x2.plus 1)) fun (x5 : Int) =>
 M.bind (idxA x3 a1 9) fun x6 =>
 M.bind (stN (x6.plus 0) [vi a2]) fun x7 =>
 M.bind (idxA x4 a1 9) fun x8 =>
 M.bind (stN (x8.plus 4) [vi x5]) fun x9 =>
 M.pure (a2,true)
def bencode_parser_value_B (G : Cl_bencode_parser_value) (n : Nat) (a0 : Option Addr) (a1 : Int × Int × Int × Int × Int × Int × Int × Bool × Bool) (a2 : Int) : M (Int × Bool) :=
 M.bind (newB none T_api_Span [vi a1.1,vi a1.2.1,vi a1.2.2.1,vi a1.2.2.2.1,vi a1.2.2.2.2.1,vi a1.2.2.2.2.2.1,vi a1.2.2.2.2.2.2.1,Value.bool a1.2.2.2.2.2.2.2.1,Value.bool a1.2.2.2.2.2.2.2.2]) fun x0 =>
 M.bind (bencode_parser_more n a0) fun x1 =>
 if !x1 then
  M.pure (0,false)
 else
  M.bind (nn a0) fun x2 =>
  M.bind (ldL (li) (x2.plus 1)) fun (x3 : Int) =>
  M.bind (stN ((adr x0).plus 3) [vi x3]) fun x4 =>
  M.bind (stN ((adr x0).plus 8) [Value.bool true]) fun x5 =>
  M.bind (nn a0) fun x6 =>
  M.bind (ldL .sl ((x6.plus 2).plus 4)) fun (x7 : Sl) =>
  M.bind (nn a0) fun x8 =>
  M.bind (ldL .sl ((x8.plus 2).plus 4)) fun (x9 : Sl) =>
  M.bind (ldLs [li,li,li,li,li,li,li,.bool,.bool] (adr x0)) fun (x10 : Int × Int × Int × Int × Int × Int × Int × Bool × Bool) =>
  M.bind (app true x9 9 T_api_Span 1 [vi x10.1,vi x10.2.1,vi x10.2.2.1,vi x10.2.2.2.1,vi x10.2.2.2.2.1,vi x10.2.2.2.2.2.1,vi x10.2.2.2.2.2.2.1,Value.bool x10.2.2.2.2.2.2.2.1,Value.bool x10.2.2.2.2.2.2.2.2]) fun x11 =>
  M.bind (nn a0) fun x12 =>
  M.bind (stN ((x12.plus 2).plus 4) [vsl x11]) fun x13 =>
  M.bind (nn a0) fun x14 =>
  M.bind (nn a0) fun x15 =>
  M.bind (ldL .str (x14.plus 0)) fun (x16 : ByteArray) =>
  M.bind (ldL (li) (x15.plus 1)) fun (x17 : Int) =>
  M.bind (idxS x16 x17) fun x18 =>
  if decide ((↑x18.toNat : Int) = 105) then
   M.bind (bencode_parser_integer n a0 a2 (↑x7.len : Int)) fun x19 =>
   if !x19.2 then
    M.pure (0,false)
   else
    M.bind (nn a0) fun x20 =>
    M.bind (ldL (li) (x20.plus 8)) fun (x21 : Int) =>
    if !decide (x21 = 0) then
     M.pure (0,false)
    else
     bencode_parser_value_J0_B G n a0 (↑x7.len : Int) x19.1
  else
   if decide ((↑x18.toNat : Int) = 108) then
    M.bind (G.bencode_parser_list a0 a2 (↑x7.len : Int)) fun x19 =>
    if !x19.2 then
     M.pure (0,false)
    else
     M.bind (nn a0) fun x20 =>
     M.bind (ldL (li) (x20.plus 8)) fun (x21 : Int) =>
     if !decide (x21 = 0) then
      M.pure (0,false)
     else
      bencode_parser_value_J0_B G n a0 (↑x7.len : Int) x19.1
   else
    if decide ((↑x18.toNat : Int) = 100) then
     M.bind (G.bencode_parser_dictionary a0 a2 (↑x7.len : Int)) fun x19 =>
     if !x19.2 then
      M.pure (0,false)
     else
      M.bind (nn a0) fun x20 =>
      M.bind (ldL (li) (x20.plus 8)) fun (x21 : Int) =>
      if !decide (x21 = 0) then
       M.pure (0,false)
      else
       bencode_parser_value_J0_B G n a0 (↑x7.len : Int) x19.1
    else
     M.bind (bencode_parser_str n a0 a2 (↑x7.len : Int)) fun x19 =>
     if !x19.2 then
      M.pure (0,false)
     else
      M.bind (nn a0) fun x20 =>
      M.bind (ldL (li) (x20.plus 8)) fun (x21 : Int) =>
      if !decide (x21 = 0) then
       M.pure (0,false)
      else
       bencode_parser_value_J0_B G n a0 (↑x7.len : Int) x19.1
def bencode_parser_list_L0_J0_B (G : Cl_bencode_parser_value) (n : Nat) (a0 : Option Addr) (a1 : Int) (a2 : Int) (a3 : Int) (a4 : Bool) (a5 : Int) : M (Bool) :=
 M.bind (G.bencode_parser_value a0 (0,a2,a5,0,0,0,0,false,false) (IntKind.i64.wrap (a1 + 1))) fun x0 =>
 if x0.2 then
  M.bind (nn a0) fun x1 =>
  M.bind (nn a0) fun x2 =>
  M.bind (ldL .sl (((x1.plus 2).plus 2).plus 0)) fun (x3 : Sl) =>
  M.bind (ldL .sl (((x2.plus 2).plus 2).plus 0)) fun (x4 : Sl) =>
  M.bind (idxA x4 a3 5) fun x5 =>
  M.bind (ldL .sl (x5.plus 4)) fun (x6 : Sl) =>
  M.bind (app true x6 1 T_i64 1 [vi x0.1]) fun x7 =>
  M.bind (idxA x3 a3 5) fun x8 =>
  M.bind (stN (x8.plus 4) [vsl x7]) fun x9 =>
  G.bencode_parser_list_L0 a0 a1 a2 a3 x0.2 (IntKind.i64.wrap (a5 + 1))
 else
  G.bencode_parser_list_L0 a0 a1 a2 a3 x0.2 (IntKind.i64.wrap (a5 + 1))
def bencode_parser_list_L0_B (G : Cl_bencode_parser_value) (n : Nat) (a0 : Option Addr) (a1 : Int) (a2 : Int) (a3 : Int) (a4 : Bool) (a5 : Int) : M (Bool) :=
 if a4 then
  M.bind (bencode_parser_more n a0) fun x0 =>
  if x0 then
   M.bind (nn a0) fun x1 =>
   M.bind (nn a0) fun x2 =>
   M.bind (ldL .str (x1.plus 0)) fun (x3 : ByteArray) =>
   M.bind (ldL (li) (x2.plus 1)) fun (x4 : Int) =>
   M.bind (idxS x3 x4) fun x5 =>
   if !decide ((↑x5.toNat : Int) = 101) then
    bencode_parser_list_L0_J0_B G n a0 a1 a2 a3 a4 a5
   else
    M.pure a4
  else
   M.pure a4
 else
  M.pure a4
def bencode_parser_list_B (G : Cl_bencode_parser_value) (n : Nat) (a0 : Option Addr) (a1 : Int) (a2 : Int) : M (Int × Bool) :=
 M.bind (nn a0) fun x0 =>
 M.bind (ldL (li) (x0.plus 1)) fun (x1 : Int) =>
 M.bind (bencode_parser_node n a0 (9,(ofBytes []),false,sl0,sl0) x1 a1) fun x2 =>
 M.bind (nn a0) fun x3 =>
 M.bind (ldL (li) (x3.plus 1)) fun (x4 : Int) =>
 M.bind (nn a0) fun x5 =>
 M.bind (stN (x5.plus 1) [vi (IntKind.i64.wrap (x4 + 1))]) fun x6 =>
 M.bind (G.bencode_parser_list_L0 a0 a1 a2 x2.1 x2.2 0) fun x7 =>
 M.bind (nn a0) fun x8 =>
 M.bind (ldL (li) (x8.plus 1)) fun (x9 : Int) =>
 M.bind (nn a0) fun x10 =>
 M.bind (stN (x10.plus 1) [vi (IntKind.i64.wrap (x9 + 1))]) fun x11 =>
 M.pure (x2.1,x7)
def bencode_parser_dictionary_L0_J1_B (G : Cl_bencode_parser_value) (n : Nat) (a0 : Option Addr) (a1 : Int) (a2 : Int) (a3 : Int) (a4 : Bool) (a5 : ByteArray) (a6 : Int) (a7 : Int) (a8 : ByteArray) (a9 : Int) : M ((Bool) ⊕ (Int × Bool)) :=
 M.bind (nn a0) fun x0 =>
 M.bind (ldL (li) (x0.plus 1)) fun (x1 : Int) =>
 M.bind (G.bencode_parser_value a0 (0,a2,a6,0,0,a7,x1,false,false) (IntKind.i64.wrap (a1 + 1))) fun x2 =>
 if x2.2 then
  M.bind (nn a0) fun x3 =>
  M.bind (ldL .sl (((x3.plus 2).plus 2).plus 0)) fun (x4 : Sl) =>
  M.bind (idxA x4 a3 5) fun x5 =>
  M.bind (nn (some x5)) fun x6 =>
  M.bind (nn (some x5)) fun x7 =>
  M.bind (ldL .sl (x6.plus 3)) fun (x8 : Sl) =>
  M.bind (ldL .sl (x7.plus 4)) fun (x9 : Sl) =>
  M.bind (app true x8 1 T_i64 1 [vi a9]) fun x10 =>
  M.bind (app true x9 1 T_i64 1 [vi x2.1]) fun x11 =>
  M.bind (nn (some x5)) fun x12 =>
  M.bind (stN (x12.plus 3) [vsl x10]) fun x13 =>
  M.bind (nn (some x5)) fun x14 =>
  M.bind (stN (x14.plus 4) [vsl x11]) fun x15 =>
  G.bencode_parser_dictionary_L0 a0 a1 a2 a3 x2.2 a8 (IntKind.i64.wrap (a6 + 1))
 else
  G.bencode_parser_dictionary_L0 a0 a1 a2 a3 x2.2 a8 (IntKind.i64.wrap (a6 + 1))
def bencode_parser_dictionary_L0_J0_B (G : Cl_bencode_parser_value) (n : Nat) (a0 : Option Addr) (a1 : Int) (a2 : Int) (a3 : Int) (a4 : Bool) (a5 : ByteArray) (a6 : Int) : M ((Bool) ⊕ (Int × Bool)) :=
 M.bind (nn a0) fun x0 =>
 M.bind (ldL (li) (x0.plus 1)) fun (x1 : Int) =>
 M.bind (bencode_parser_text n a0) fun x2 =>
 if !x2.2 then
  M.pure (Sum.inr (0,false))
 else
  M.bind (bencode_parser_node n a0 (5,x2.1,false,sl0,sl0) x1 (IntKind.i64.wrap (a1 + 1))) fun x3 =>
  if !x3.2 then
   M.pure (Sum.inr (0,false))
  else
   M.bind (codepoint_Check n x2.1) fun x4 =>
   if !decide (x4.2 = 0) then
    M.bind (bencode_parser_fail n a0 x1 11) fun x5 =>
    M.pure (Sum.inr (0,x5))
   else
    if decide (0 < a6) then
     if ltS x2.1 a5 || eqS x2.1 a5 then
      M.bind (bencode_parser_fail n a0 x1 16) fun x5 =>
      M.pure (Sum.inr (0,x5))
     else
      bencode_parser_dictionary_L0_J1_B G n a0 a1 a2 a3 a4 a5 a6 x1 x2.1 x3.1
    else
     bencode_parser_dictionary_L0_J1_B G n a0 a1 a2 a3 a4 a5 a6 x1 x2.1 x3.1
def bencode_parser_dictionary_L0_B (G : Cl_bencode_parser_value) (n : Nat) (a0 : Option Addr) (a1 : Int) (a2 : Int) (a3 : Int) (a4 : Bool) (a5 : ByteArray) (a6 : Int) : M ((Bool) ⊕ (Int × Bool)) :=
 if a4 then
  M.bind (bencode_parser_more n a0) fun x0 =>
  if x0 then
   M.bind (nn a0) fun x1 =>
   M.bind (nn a0) fun x2 =>
   M.bind (ldL .str (x1.plus 0)) fun (x3 : ByteArray) =>
   M.bind (ldL (li) (x2.plus 1)) fun (x4 : Int) =>
   M.bind (idxS x3 x4) fun x5 =>
   if !decide ((↑x5.toNat : Int) = 101) then
    bencode_parser_dictionary_L0_J0_B G n a0 a1 a2 a3 a4 a5 a6
   else
    M.pure (Sum.inl a4)
  else
   M.pure (Sum.inl a4)
 else
  M.pure (Sum.inl a4)
def bencode_parser_dictionary_B (G : Cl_bencode_parser_value) (n : Nat) (a0 : Option Addr) (a1 : Int) (a2 : Int) : M (Int × Bool) :=
 M.bind (nn a0) fun x0 =>
 M.bind (ldL (li) (x0.plus 1)) fun (x1 : Int) =>
 M.bind (bencode_parser_node n a0 (10,(ofBytes []),false,sl0,sl0) x1 a1) fun x2 =>
 M.bind (nn a0) fun x3 =>
 M.bind (ldL (li) (x3.plus 1)) fun (x4 : Int) =>
 M.bind (nn a0) fun x5 =>
 M.bind (stN (x5.plus 1) [vi (IntKind.i64.wrap (x4 + 1))]) fun x6 =>
 M.bind (G.bencode_parser_dictionary_L0 a0 a1 a2 x2.1 x2.2 (ofBytes []) 0) (sumElim (fun x7 =>
  M.bind (nn a0) fun x8 =>
  M.bind (ldL (li) (x8.plus 1)) fun (x9 : Int) =>
  M.bind (nn a0) fun x10 =>
  M.bind (stN (x10.plus 1) [vi (IntKind.i64.wrap (x9 + 1))]) fun x11 =>
  M.pure (x2.1,x7))
 (fun x7 =>
  M.pure (x7.1,x7.2)))
def Cl_bencode_parser_value.at : Nat → Cl_bencode_parser_value
 | 0=>⟨fun _ _ _=>M.fail,fun _ _ _ _ _ _=>M.fail,fun _ _ _=>M.fail,fun _ _ _ _ _ _ _=>M.fail,fun _ _ _=>M.fail⟩
 | n + 1=>⟨bencode_parser_value_B (Cl_bencode_parser_value.at n) n,bencode_parser_list_L0_B (Cl_bencode_parser_value.at n) n,bencode_parser_list_B (Cl_bencode_parser_value.at n) n,bencode_parser_dictionary_L0_B (Cl_bencode_parser_value.at n) n,bencode_parser_dictionary_B (Cl_bencode_parser_value.at n) n⟩
def bencode_parser_value (n : Nat) (a0 : Option Addr) (a1 : Int × Int × Int × Int × Int × Int × Int × Bool × Bool) (a2 : Int) : M (Int × Bool):=(Cl_bencode_parser_value.at n).bencode_parser_value a0 a1 a2
theorem bencode_parser_value_succ (n : Nat) (a0 : Option Addr) (a1 : Int × Int × Int × Int × Int × Int × Int × Bool × Bool) (a2 : Int) : bencode_parser_value (n + 1) a0 a1 a2 = bencode_parser_value_B (Cl_bencode_parser_value.at n) n a0 a1 a2:=rfl
def bencode_parser_list_L0 (n : Nat) (a0 : Option Addr) (a1 : Int) (a2 : Int) (a3 : Int) (a4 : Bool) (a5 : Int) : M (Bool):=(Cl_bencode_parser_value.at n).bencode_parser_list_L0 a0 a1 a2 a3 a4 a5
theorem bencode_parser_list_L0_succ (n : Nat) (a0 : Option Addr) (a1 : Int) (a2 : Int) (a3 : Int) (a4 : Bool) (a5 : Int) : bencode_parser_list_L0 (n + 1) a0 a1 a2 a3 a4 a5 = bencode_parser_list_L0_B (Cl_bencode_parser_value.at n) n a0 a1 a2 a3 a4 a5:=rfl
def bencode_parser_list (n : Nat) (a0 : Option Addr) (a1 : Int) (a2 : Int) : M (Int × Bool):=(Cl_bencode_parser_value.at n).bencode_parser_list a0 a1 a2
theorem bencode_parser_list_succ (n : Nat) (a0 : Option Addr) (a1 : Int) (a2 : Int) : bencode_parser_list (n + 1) a0 a1 a2 = bencode_parser_list_B (Cl_bencode_parser_value.at n) n a0 a1 a2:=rfl
def bencode_parser_dictionary_L0 (n : Nat) (a0 : Option Addr) (a1 : Int) (a2 : Int) (a3 : Int) (a4 : Bool) (a5 : ByteArray) (a6 : Int) : M ((Bool) ⊕ (Int × Bool)):=(Cl_bencode_parser_value.at n).bencode_parser_dictionary_L0 a0 a1 a2 a3 a4 a5 a6
theorem bencode_parser_dictionary_L0_succ (n : Nat) (a0 : Option Addr) (a1 : Int) (a2 : Int) (a3 : Int) (a4 : Bool) (a5 : ByteArray) (a6 : Int) : bencode_parser_dictionary_L0 (n + 1) a0 a1 a2 a3 a4 a5 a6 = bencode_parser_dictionary_L0_B (Cl_bencode_parser_value.at n) n a0 a1 a2 a3 a4 a5 a6:=rfl
def bencode_parser_dictionary (n : Nat) (a0 : Option Addr) (a1 : Int) (a2 : Int) : M (Int × Bool):=(Cl_bencode_parser_value.at n).bencode_parser_dictionary a0 a1 a2
theorem bencode_parser_dictionary_succ (n : Nat) (a0 : Option Addr) (a1 : Int) (a2 : Int) : bencode_parser_dictionary (n + 1) a0 a1 a2 = bencode_parser_dictionary_B (Cl_bencode_parser_value.at n) n a0 a1 a2:=rfl
def bencode_parser_value_J0 (n : Nat) (a0 : Option Addr) (a1 : Int) (a2 : Int) : M (Int × Bool):=bencode_parser_value_J0_B (Cl_bencode_parser_value.at n) n a0 a1 a2
def bencode_parser_list_L0_J0 (n : Nat) (a0 : Option Addr) (a1 : Int) (a2 : Int) (a3 : Int) (a4 : Bool) (a5 : Int) : M (Bool):=bencode_parser_list_L0_J0_B (Cl_bencode_parser_value.at n) n a0 a1 a2 a3 a4 a5
def bencode_parser_dictionary_L0_J0 (n : Nat) (a0 : Option Addr) (a1 : Int) (a2 : Int) (a3 : Int) (a4 : Bool) (a5 : ByteArray) (a6 : Int) : M ((Bool) ⊕ (Int × Bool)):=bencode_parser_dictionary_L0_J0_B (Cl_bencode_parser_value.at n) n a0 a1 a2 a3 a4 a5 a6
def bencode_parser_dictionary_L0_J1 (n : Nat) (a0 : Option Addr) (a1 : Int) (a2 : Int) (a3 : Int) (a4 : Bool) (a5 : ByteArray) (a6 : Int) (a7 : Int) (a8 : ByteArray) (a9 : Int) : M ((Bool) ⊕ (Int × Bool)):=bencode_parser_dictionary_L0_J1_B (Cl_bencode_parser_value.at n) n a0 a1 a2 a3 a4 a5 a6 a7 a8 a9
abbrev q19_E (n : Nat) : Ent:=⟨19,[tyP,.agg [.int .i64,.int .i64,.int .i64,.int .i64,.int .i64,.int .i64,.int .i64,.bool,.bool],tyI],[tyI,tyB],fun x=>bencode_parser_value n (x.1) (x.2.1) (x.2.2)⟩
abbrev q60_E (n : Nat) : Ent:=⟨60,[tyP,tyI,tyI],[tyI,tyB],fun x=>bencode_parser_list n (x.1) (x.2.1) (x.2.2)⟩
abbrev q60_L0_a : List (Nat × Ty):=[(0,tyP),(1,tyI),(2,tyI),(8,tyI),(9,tyB),(10,tyI)]
abbrev q60_L0_w : List Nat:=[9,10,11,30,31,32,33,34,35,36,37,38,39,40,41,42,43,44,45,46,47,48,49,50,51,52,53,54,55,56,57,58,59,60,61,62,63,64,65,66,67,68,69,70,71,72,73,74,75,76,77,78,79,80,81]
abbrev q60_L0_p : Path:=[0,1,0,1,1,1]
abbrev q60_L0_g (n : Nat) (x : TsDen (tys q60_L0_a)) : M (Bool):=bencode_parser_list_L0 n (x.1) (x.2.1) (x.2.2.1) (x.2.2.2.1) (x.2.2.2.2.1) (x.2.2.2.2.2)
abbrev q60_L0_l (n : Nat) : LEnt:=⟨q60_L0_p,q60_L0_a,actL1 q60_L0_a [(9,tyB)] q60_L0_w 0 (q60_L0_g n)⟩
abbrev q61_E (n : Nat) : Ent:=⟨61,[tyP,tyI,tyI],[tyI,tyB],fun x=>bencode_parser_dictionary n (x.1) (x.2.1) (x.2.2)⟩
abbrev q61_L0_a : List (Nat × Ty):=[(0,tyP),(1,tyI),(2,tyI),(8,tyI),(9,tyB),(10,tyS),(11,tyI)]
abbrev q61_L0_w : List Nat:=[6,7,9,10,11,12,13,14,15,16,17,18,19,20,39,40,41,42,43,44,45,46,47,48,49,50,51,52,53,54,55,56,57,58,59,60,61,62,63,64,65,66,67,68,69,70,71,72,73,74,75,76,77,78,79,80,81,82,83,84,85,86,87,88,89,90,91,92,93,94,95,96,97,98,99,100,101,102,103,104,105,106,107,108,109,110,111,112,113,114,115,116,117,118,119,120,121,122,123,124,125,126,127,128,129,130,131,132,133,134,135,136,137,138,139,140,141,142,143,144,145]
abbrev q61_L0_p : Path:=[0,1,0,1,1,1,1]
abbrev q61_L0_g (n : Nat) (x : TsDen (tys q61_L0_a)) : M ((Bool) ⊕ (Int × Bool)):=bencode_parser_dictionary_L0 n (x.1) (x.2.1) (x.2.2.1) (x.2.2.2.1) (x.2.2.2.2.1) (x.2.2.2.2.2.1) (x.2.2.2.2.2.2)
abbrev q61_L0_l (n : Nat) : LEnt:=⟨q61_L0_p,q61_L0_a,actL2 q61_L0_a [(9,tyB)] [(6,tyI),(7,tyB)] q61_L0_w 0 .ret (q61_L0_g n)⟩
abbrev q19_dt (n : Nat) : List DEnt:=[]
abbrev q19_ct (n : Nat) : List Ent:=[q58_E n,q59_E n,q60_E n,q61_E n,q62_E n]
def q19_dr (i : Nat) : Option (List (Nat × List Nat)):=cond (Nat.beq i 5) (some [(0,[]),(1,[]),(2,[]),(3,[]),(4,[]),(5,[]),(6,[]),(7,[]),(8,[]),(9,[]),(10,[]),(11,[]),(12,[])]) (cond (Nat.beq i 7) (some [(0,[]),(1,[]),(2,[]),(4,[]),(5,[]),(6,[]),(3,[]),(7,[]),(8,[])]) (cond (Nat.beq i 18) (some [(0,[]),(1,[]),(2,[]),(3,[]),(5,[]),(6,[]),(7,[]),(8,[]),(9,[]),(11,[]),(12,[]),(13,[]),(14,[]),(15,[]),(4,[]),(10,[]),(16,[]),(17,[]),(18,[]),(19,[]),(20,[]),(21,[]),(22,[])]) (none)))
abbrev q19_jt1 (n : Nat) : List (JEnt (Int × Bool)):=[]
abbrev q19_jt0 (n : Nat) : List (JEnt (Int × Bool)):=⟨[0,1,1,1,1,1,1,1,1,1],[.code [1,1,1,1,1,1,1,1,1,1]],[(0,tyP),(8,tyI),(10,tyI)],fun x=>bencode_parser_value_J0 n (x.1) (x.2.1) (x.2.2)⟩ :: q19_jt1 n
abbrev q60_dt (n : Nat) : List DEnt:=[]
abbrev q60_ct (n : Nat) : List Ent:=[q19_E n,q58_E n,q98_E n]
def q60_dr (i : Nat) : Option (List (Nat × List Nat)):=cond (Nat.beq i 4) (some [(0,[]),(1,[]),(2,[]),(3,[]),(4,[]),(5,[]),(6,[]),(7,[]),(8,[]),(10,[]),(11,[]),(12,[]),(9,[]),(13,[]),(14,[]),(15,[]),(16,[])]) (cond (Nat.beq i 9) (some [(0,[]),(1,[]),(2,[]),(3,[]),(4,[]),(6,[]),(7,[]),(8,[]),(9,[]),(10,[]),(11,[]),(13,[]),(17,[]),(18,[]),(5,[]),(12,[]),(14,[]),(15,[]),(16,[]),(19,[]),(20,[]),(21,[]),(22,[])]) (none))
abbrev q60_L0_jt1 (n : Nat) : List (JEnt (Bool)):=[]
abbrev q60_L0_jt0 (n : Nat) : List (JEnt (Bool)):=⟨[0,0,0,1,0,0,1,0,1,1,1],[.code [1,0,0,1,0,0,1,0,1,1,1],.blk 1,.code [1,1,0,0,1,0,1,1,1]],[(0,tyP),(1,tyI),(2,tyI),(8,tyI),(9,tyB),(10,tyI)],fun x=>bencode_parser_list_L0_J0 n (x.1) (x.2.1) (x.2.2.1) (x.2.2.2.1) (x.2.2.2.2.1) (x.2.2.2.2.2)⟩ :: q60_L0_jt1 n
abbrev q60_lt (n : Nat) : List LEnt:=[q60_L0_l n]
abbrev q61_dt (n : Nat) : List DEnt:=[]
abbrev q61_ct (n : Nat) : List Ent:=[q19_E n,q20_E n,q58_E n,q98_E n,q99_E n,⟨100,[tyS],[tyI,tyI],fun x=>codepoint_Check n x⟩]
def q61_dr (i : Nat) : Option (List (Nat × List Nat)):=cond (Nat.beq i 5) (some [(0,[]),(1,[]),(2,[]),(3,[]),(4,[]),(5,[]),(6,[]),(7,[]),(8,[]),(10,[]),(11,[]),(12,[]),(9,[]),(13,[]),(14,[]),(15,[]),(16,[])]) (cond (Nat.beq i 24) (some [(0,[]),(1,[]),(2,[]),(3,[]),(4,[]),(6,[]),(7,[]),(9,[]),(10,[]),(11,[]),(13,[]),(14,[]),(5,[]),(12,[]),(8,[]),(15,[]),(16,[]),(17,[]),(18,[]),(19,[]),(20,[]),(21,[])]) (none))
abbrev q61_L0_jt2 (n : Nat) : List (JEnt ((Bool) ⊕ (Int × Bool))):=[]
abbrev q61_L0_jt1 (n : Nat) : List (JEnt ((Bool) ⊕ (Int × Bool))):=⟨[0,1,1,1,1,1,1,1,0,0,1,0,0,1,0,1,1,1,1],[.code [1,1,1,1,1,1,1,1,0,0,1,0,0,1,0,1,1,1,1],.blk 1,.code [1,1,0,0,1,0,1,1,1,1]],[(0,tyP),(1,tyI),(2,tyI),(8,tyI),(9,tyB),(10,tyS),(11,tyI),(12,tyI),(13,tyS),(15,tyI)],fun x=>bencode_parser_dictionary_L0_J1 n (x.1) (x.2.1) (x.2.2.1) (x.2.2.2.1) (x.2.2.2.2.1) (x.2.2.2.2.2.1) (x.2.2.2.2.2.2.1) (x.2.2.2.2.2.2.2.1) (x.2.2.2.2.2.2.2.2.1) (x.2.2.2.2.2.2.2.2.2)⟩ :: q61_L0_jt2 n
abbrev q61_L0_jt0 (n : Nat) : List (JEnt ((Bool) ⊕ (Int × Bool))):=⟨[0,0,0,1,0,0,1,0,1,1,1,1],[.code [1,0,0,1,0,0,1,0,1,1,1,1],.blk 1,.code [1,1,0,0,1,0,1,1,1,1]],[(0,tyP),(1,tyI),(2,tyI),(8,tyI),(9,tyB),(10,tyS),(11,tyI)],fun x=>bencode_parser_dictionary_L0_J0 n (x.1) (x.2.1) (x.2.2.1) (x.2.2.2.1) (x.2.2.2.2.1) (x.2.2.2.2.2.1) (x.2.2.2.2.2.2)⟩ :: q61_L0_jt1 n
abbrev q61_lt (n : Nat) : List LEnt:=[q61_L0_l n]
def P_bencode_parser_value (n : Nat) : Prop:=FnOK Tryz.prog (q19_E n)∧FnOK Tryz.prog (q60_E n)∧FnOK Tryz.prog (q61_E n)
theorem bencode_parser_value_ok_step (n : Nat) (H : ∀ m,m < n + 1 → P_bencode_parser_value m) : FnOK Tryz.prog (q19_E (n + 1)) :=
 fn_t (q19_E (n + 1)) Tryz.f19 (bodyOf Tryz.f19) [(0,tyP),(1,.agg [.int .i64,.int .i64,.int .i64,.int .i64,.int .i64,.int .i64,.int .i64,.bool,.bool]),(2,tyI)] [] (q19_ct n) (q19_dt n) [] (q19_jt0 n) q19_dr (by kernel_rfl) (by kernel_rfl) (by kernel_rfl) (by kernel_rfl) (by kernel_rfl) ⟨.nil,(.cons (bencode_parser_more_ok n) (.cons (bencode_parser_integer_ok n) (.cons (H n (Nat.lt_succ_self n)).2.1 (.cons (H n (Nat.lt_succ_self n)).2.2 (.cons (bencode_parser_str_ok n) .nil))))),.nil,.nil,(.cons (fun x=>by kernel_rfl) .nil)⟩ (fun x=>by kernel_rfl)
theorem q60_L0_ok (n : Nat) (H : ∀ m,m < n → P_bencode_parser_value m) {W : Wr} (hW : subW W 91 q60_L0_w = true) : LEntOK Tryz.prog (bodyOf Tryz.f60) W (q60_L0_l n) :=
 loop1_t (bodyOf Tryz.f60) q60_L0_p q60_L0_a [(9,tyB)] 0 91 q60_L0_w [] q60_ct q60_dt (fun _=>[]) q60_dr q60_L0_g q60_L0_jt0 (by kernel_rfl) (fun _=>by kernel_rfl) (fun n x=>by kernel_rfl) n (fun m hm=>⟨.nil,(.cons (H m hm).1 (.cons (bencode_parser_more_ok m) (.cons (bencode_parser_node_ok m) .nil))),.nil,.nil,(.cons (fun x=>by kernel_rfl) .nil)⟩) hW
theorem bencode_parser_list_ok_step (n : Nat) (H : ∀ m,m < n + 1 → P_bencode_parser_value m) : FnOK Tryz.prog (q60_E (n + 1)) :=
 fn_t (q60_E (n + 1)) Tryz.f60 (bodyOf Tryz.f60) [(0,tyP),(1,tyI),(2,tyI)] [] (q60_ct n) (q60_dt n) (q60_lt n) [] q60_dr (by kernel_rfl) (by kernel_rfl) (by kernel_rfl) (by kernel_rfl) (by kernel_rfl) ⟨.nil,(.cons (H n (Nat.lt_succ_self n)).1 (.cons (bencode_parser_more_ok n) (.cons (bencode_parser_node_ok n) .nil))),.nil,(.cons (q60_L0_ok n (fun k hk=>H k (Nat.lt_succ_of_lt hk)) (by kernel_rfl)) .nil),.nil⟩ (fun x=>by kernel_rfl)
theorem q61_L0_ok (n : Nat) (H : ∀ m,m < n → P_bencode_parser_value m) {W : Wr} (hW : subW W 155 q61_L0_w = true) : LEntOK Tryz.prog (bodyOf Tryz.f61) W (q61_L0_l n) :=
 loop2_t (bodyOf Tryz.f61) q61_L0_p q61_L0_a [(9,tyB)] [(6,tyI),(7,tyB)] 0 .ret 155 q61_L0_w [] q61_ct q61_dt (fun _=>[]) q61_dr q61_L0_g q61_L0_jt0 (by kernel_rfl) (fun _=>by kernel_rfl) (fun n x=>by kernel_rfl) n (fun m hm=>⟨.nil,(.cons (H m hm).1 (.cons (bencode_parser_fail_ok m) (.cons (bencode_parser_more_ok m) (.cons (bencode_parser_node_ok m) (.cons (bencode_parser_text_ok m) (.cons (codepoint_Check_ok m) .nil)))))),.nil,.nil,(.cons (fun x=>by kernel_rfl) (.cons (fun x=>by kernel_rfl) .nil))⟩) hW
theorem bencode_parser_dictionary_ok_step (n : Nat) (H : ∀ m,m < n + 1 → P_bencode_parser_value m) : FnOK Tryz.prog (q61_E (n + 1)) :=
 fn_t (q61_E (n + 1)) Tryz.f61 (bodyOf Tryz.f61) [(0,tyP),(1,tyI),(2,tyI)] [] (q61_ct n) (q61_dt n) (q61_lt n) [] q61_dr (by kernel_rfl) (by kernel_rfl) (by kernel_rfl) (by kernel_rfl) (by kernel_rfl) ⟨.nil,(.cons (H n (Nat.lt_succ_self n)).1 (.cons (bencode_parser_fail_ok n) (.cons (bencode_parser_more_ok n) (.cons (bencode_parser_node_ok n) (.cons (bencode_parser_text_ok n) (.cons (codepoint_Check_ok n) .nil)))))),.nil,(.cons (q61_L0_ok n (fun k hk=>H k (Nat.lt_succ_of_lt hk)) (by kernel_rfl)) .nil),.nil⟩ (fun x=>by kernel_rfl)
theorem P_bencode_parser_value_all : ∀ n m,m < n → P_bencode_parser_value m:=by
 intro n
 induction n with
 | zero=>intro m hm;exact absurd hm (Nat.not_lt_zero m)
 | succ n ih =>
  intro m hm
  cases m with
  | zero=>exact ⟨fn_zero (fn:=Tryz.f19) (by kernel_rfl) (by kernel_rfl) (by kernel_rfl) (fun _=>rfl),fn_zero (fn:=Tryz.f60) (by kernel_rfl) (by kernel_rfl) (by kernel_rfl) (fun _=>rfl),fn_zero (fn:=Tryz.f61) (by kernel_rfl) (by kernel_rfl) (by kernel_rfl) (fun _=>rfl)⟩
  | succ k=>exact ⟨bencode_parser_value_ok_step k fun m hm=>ih m (by omega),bencode_parser_list_ok_step k fun m hm=>ih m (by omega),bencode_parser_dictionary_ok_step k fun m hm=>ih m (by omega)⟩
theorem bencode_parser_value_ok (n : Nat) : FnOK Tryz.prog (q19_E n):=(P_bencode_parser_value_all (n + 1) n (Nat.lt_succ_self n)).1
def bencode_Parse_J0 (n : Nat) (a0 : Addr) (a1 : Option Addr) : M ((Int × ByteArray × Sl × Int × Sl × Sl) × Int × Int) :=
 M.bind (nn a1) fun x0 =>
 M.bind (ldL (li) (x0.plus 8)) fun (x1 : Int) =>
 if !decide (x1 = 0) then
  M.bind (nn a1) fun x2 =>
  M.bind (nn a1) fun x3 =>
  M.bind (ldL (li) (x2.plus 9)) fun (x4 : Int) =>
  M.bind (ldL (li) (x3.plus 8)) fun (x5 : Int) =>
  M.bind (chk [some (x2.plus 9),some (x3.plus 8)] (stN a0 [vi 0,Value.string (ofBytes []),vsl0,vi 0,vsl0,vsl0])) fun x6 =>
  M.bind (ldLs [li,.str,.sl,li,.sl,.sl] a0) fun (x7 : Int × ByteArray × Sl × Int × Sl × Sl) =>
  M.pure ((x7.1,x7.2.1,x7.2.2.1,x7.2.2.2.1,x7.2.2.2.2.1,x7.2.2.2.2.2),x4,x5)
 else
  M.bind (nn a1) fun x2 =>
  M.bind (ldLs [li,.str,.sl,li,.sl,.sl] (x2.plus 2)) fun (x3 : Int × ByteArray × Sl × Int × Sl × Sl) =>
  M.bind (stN a0 [vi x3.1,Value.string x3.2.1,vsl x3.2.2.1,vi x3.2.2.2.1,vsl x3.2.2.2.2.1,vsl x3.2.2.2.2.2]) fun x4 =>
  M.bind (ldLs [li,.str,.sl,li,.sl,.sl] a0) fun (x5 : Int × ByteArray × Sl × Int × Sl × Sl) =>
  M.pure ((x5.1,x5.2.1,x5.2.2.1,x5.2.2.2.1,x5.2.2.2.2.1,x5.2.2.2.2.2),0,0)
def bencode_Parse (n : Nat) (a0 : ByteArray) : M ((Int × ByteArray × Sl × Int × Sl × Sl) × Int × Int) :=
 M.bind (newB none T_api_Doc [vi 0,Value.string (ofBytes []),vsl0,vi 0,vsl0,vsl0]) fun x0 =>
 if decide (65536 < (↑a0.size : Int)) then
  M.bind (stN (adr x0) [vi 0,Value.string (ofBytes []),vsl0,vi 0,vsl0,vsl0]) fun x1 =>
  M.bind (ldLs [li,.str,.sl,li,.sl,.sl] (adr x0)) fun (x2 : Int × ByteArray × Sl × Int × Sl × Sl) =>
  M.pure ((x2.1,x2.2.1,x2.2.2.1,x2.2.2.2.1,x2.2.2.2.2.1,x2.2.2.2.2.2),0,6)
 else
  M.bind (newB none T_bencode_parser [Value.string a0,vi 0,vi 5,Value.string a0,vsl0,vi 0,vsl0,vsl0,vi 0,vi 0]) fun x1 =>
  M.bind (bencode_parser_value n (some (adr x1)) (0,-1,0,0,0,0,0,false,false) 0) fun x2 =>
  if x2.2 then
   M.bind (nn (some (adr x1))) fun x3 =>
   M.bind (ldL (li) (x3.plus 1)) fun (x4 : Int) =>
   if decide (x4 < (↑a0.size : Int)) then
    M.bind (nn (some (adr x1))) fun x5 =>
    M.bind (ldL (li) (x5.plus 1)) fun (x6 : Int) =>
    M.bind (bencode_parser_fail n (some (adr x1)) x6 4) fun x7 =>
    bencode_Parse_J0 n (adr x0) (some (adr x1))
   else
    bencode_Parse_J0 n (adr x0) (some (adr x1))
  else
   bencode_Parse_J0 n (adr x0) (some (adr x1))
abbrev q8_E (n : Nat) : Ent:=⟨8,[tyS],[.agg [.int .i64,.str,.sl,.int .i64,.sl,.sl],tyI,tyI],fun x=>bencode_Parse n x⟩
abbrev q8_dt (n : Nat) : List DEnt:=[]
abbrev q8_ct (n : Nat) : List Ent:=[q19_E n,q20_E n]
def q8_dr (i : Nat) : Option (List (Nat × List Nat)):=cond (Nat.beq i 8) (some [(0,[]),(1,[]),(2,[]),(3,[]),(5,[]),(6,[]),(7,[]),(4,[]),(8,[]),(9,[4,8]),(10,[]),(11,[])]) (none)
abbrev q8_jt1 (n : Nat) : List (JEnt ((Int × ByteArray × Sl × Int × Sl × Sl) × Int × Int)):=[]
abbrev q8_jt0 (n : Nat) : List (JEnt ((Int × ByteArray × Sl × Int × Sl × Sl) × Int × Int)):=⟨[0,0,1,1,1,1],[.code [1,0,1,1,1,1],.code [1,1,1,1,1]],[(2,tyA),(5,tyP)],fun x=>bencode_Parse_J0 n (x.1) (x.2)⟩ :: q8_jt1 n
theorem bencode_Parse_ok (n : Nat) : FnOK Tryz.prog (q8_E n) :=
 fn_t (q8_E n) Tryz.f8 (bodyOf Tryz.f8) [(0,tyS)] [] (q8_ct n) (q8_dt n) [] (q8_jt0 n) q8_dr (by kernel_rfl) (by kernel_rfl) (by kernel_rfl) (by kernel_rfl) (by kernel_rfl) ⟨.nil,(.cons (bencode_parser_value_ok n) (.cons (bencode_parser_fail_ok n) .nil)),.nil,.nil,(.cons (fun x=>by kernel_rfl) .nil)⟩ (fun x=>by kernel_rfl)
def rosettalaw34_awake (n : Nat) : M (Bool) :=
 M.bind (bencode_Parse n (ofBytes [100,49,58,97,48,58,49,58,98,108,105,49,101,105,45,50,101,101,101])) fun x0 =>
 M.bind (newB none T_api_Doc [vi 0,Value.string (ofBytes []),vsl0,vi 0,vsl0,vsl0]) fun x1 =>
 M.bind (stN (adr x1) [vi x0.1.1,Value.string x0.1.2.1,vsl x0.1.2.2.1,vi x0.1.2.2.2.1,vsl x0.1.2.2.2.2.1,vsl x0.1.2.2.2.2.2]) fun x2 =>
 M.bind (bencode_Parse n (ofBytes [105,48,49,101])) fun x3 =>
 M.bind (newB none T_api_Doc [vi 0,Value.string (ofBytes []),vsl0,vi 0,vsl0,vsl0]) fun x4 =>
 M.bind (stN (adr x4) [vi x3.1.1,Value.string x3.1.2.1,vsl x3.1.2.2.1,vi x3.1.2.2.2.1,vsl x3.1.2.2.2.2.1,vsl x3.1.2.2.2.2.2]) fun x5 =>
 M.bind (bencode_Parse n (ofBytes [51,58,97,98])) fun x6 =>
 M.bind (newB none T_api_Doc [vi 0,Value.string (ofBytes []),vsl0,vi 0,vsl0,vsl0]) fun x7 =>
 M.bind (stN (adr x7) [vi x6.1.1,Value.string x6.1.2.1,vsl x6.1.2.2.1,vi x6.1.2.2.2.1,vsl x6.1.2.2.2.2.1,vsl x6.1.2.2.2.2.2]) fun x8 =>
 if decide (x0.2.1 = 0) then
  if decide (x0.2.2 = 0) then
   M.bind (ldL .sl ((adr x1).plus 4)) fun (x9 : Sl) =>
   if decide ((↑x9.len : Int) = 5) then
    M.bind (ldL .sl ((adr x1).plus 4)) fun (x10 : Sl) =>
    M.bind (idxA x10 2 9) fun x11 =>
    M.bind (ldL (li) (x11.plus 3)) fun (x12 : Int) =>
    if decide (x12 = 9) then
     M.bind (ldL .sl ((adr x1).plus 4)) fun (x13 : Sl) =>
     M.bind (idxA x13 2 9) fun x14 =>
     M.bind (ldL (li) (x14.plus 4)) fun (x15 : Int) =>
     if decide (x15 = 18) then
      M.bind (ldL .sl ((adr x1).plus 4)) fun (x16 : Sl) =>
      M.bind (idxA x16 2 9) fun x17 =>
      M.bind (ldL (li) (x17.plus 5)) fun (x18 : Int) =>
      if decide (x18 = 6) then
       if decide (x3.2.1 = 0) then
        if decide (x3.2.2 = 12) then
         if decide (x6.2.1 = 4) then
          M.pure (decide (x6.2.2 = 4))
         else
          M.pure false
        else
         M.pure false
       else
        M.pure false
      else
       M.pure false
     else
      M.pure false
    else
     M.pure false
   else
    M.pure false
  else
   M.pure false
 else
  M.pure false
abbrev q7_E (n : Nat) : Ent:=⟨7,[],[tyB],fun _=>rosettalaw34_awake n⟩
abbrev q7_dt (n : Nat) : List DEnt:=[]
abbrev q7_ct (n : Nat) : List Ent:=[q8_E n]
def q7_dr (i : Nat) : Option (List (Nat × List Nat)):=none
theorem rosettalaw34_awake_ok (n : Nat) : FnOK Tryz.prog (q7_E n) :=
 fn_t (q7_E n) Tryz.f7 (bodyOf Tryz.f7) [] [] (q7_ct n) (q7_dt n) [] [] q7_dr (by kernel_rfl) (by kernel_rfl) (by kernel_rfl) (by kernel_rfl) (by kernel_rfl) ⟨.nil,(.cons (bencode_Parse_ok n) .nil),.nil,.nil,.nil⟩ (fun x=>by kernel_rfl)
def graph_indices_L2_B (G : Addr → Bool → Sl → Int → Int → Sl → Int → Int → Sl → Int → Int → M (Bool)) (n : Nat) (a0 : Addr) (a1 : Bool) (a2 : Sl) (a3 : Int) (a4 : Int) (a5 : Sl) (a6 : Int) (a7 : Int) (a8 : Sl) (a9 : Int) (a10 : Int) : M (Bool) :=
 if decide (a10 < a9) then
  M.bind (idxA a8 a10 1) fun x0 =>
  M.bind (ldL (li) x0) fun (x1 : Int) =>
  if a1 then
   if decide (0 ≤ x1) then
    M.bind (ldL .sl (a0.plus 0)) fun (x2 : Sl) =>
    G a0 (decide (x1 < (↑x2.len : Int))) a2 a3 a4 a5 a6 a7 a8 a9 (IntKind.i64.wrap (a10 + 1))
   else
    G a0 false a2 a3 a4 a5 a6 a7 a8 a9 (IntKind.i64.wrap (a10 + 1))
  else
   G a0 false a2 a3 a4 a5 a6 a7 a8 a9 (IntKind.i64.wrap (a10 + 1))
 else
  M.pure a1
def graph_indices_L2 : Nat → Addr → Bool → Sl → Int → Int → Sl → Int → Int → Sl → Int → Int → M (Bool)
 | 0=>fun _ _ _ _ _ _ _ _ _ _ _=>M.fail
 | n + 1=>graph_indices_L2_B (graph_indices_L2 n) n
theorem graph_indices_L2_succ (n : Nat) : graph_indices_L2 (n + 1) = graph_indices_L2_B (graph_indices_L2 n) n:=rfl
def graph_indices_L1_B (G : Addr → Bool → Sl → Int → Int → Sl → Int → Int → M (Bool)) (n : Nat) (a0 : Addr) (a1 : Bool) (a2 : Sl) (a3 : Int) (a4 : Int) (a5 : Sl) (a6 : Int) (a7 : Int) : M (Bool) :=
 if decide (a7 < a6) then
  M.bind (idxA a5 a7 1) fun x0 =>
  M.bind (ldL .sl x0) fun (x1 : Sl) =>
  M.bind (graph_indices_L2 n a0 a1 a2 a3 a4 a5 a6 a7 x1 (↑x1.len : Int) 0) fun x2 =>
  G a0 x2 a2 a3 a4 a5 a6 (IntKind.i64.wrap (a7 + 1))
 else
  M.pure a1
def graph_indices_L1 : Nat → Addr → Bool → Sl → Int → Int → Sl → Int → Int → M (Bool)
 | 0=>fun _ _ _ _ _ _ _ _=>M.fail
 | n + 1=>graph_indices_L1_B (graph_indices_L1 n) n
theorem graph_indices_L1_succ (n : Nat) : graph_indices_L1 (n + 1) = graph_indices_L1_B (graph_indices_L1 n) n:=rfl
def graph_indices_L0_B (G : Addr → Bool → Sl → Int → Int → M (Bool)) (n : Nat) (a0 : Addr) (a1 : Bool) (a2 : Sl) (a3 : Int) (a4 : Int) : M (Bool) :=
 if decide (a4 < a3) then
  M.bind (idxA a2 a4 5) fun x0 =>
  M.bind (ldLs [li,.str,.bool,.sl,.sl] x0) fun (x1 : Int × ByteArray × Bool × Sl × Sl) =>
  M.bind (newB none T_api_Node [vi 0,Value.string (ofBytes []),Value.bool false,vsl0,vsl0]) fun x2 =>
  M.bind (stN (adr x2) [vi x1.1,Value.string x1.2.1,Value.bool x1.2.2.1,vsl x1.2.2.2.1,vsl x1.2.2.2.2]) fun x3 =>
  M.bind (ldL .sl ((adr x2).plus 3)) fun (x4 : Sl) =>
  M.bind (ldL .sl ((adr x2).plus 4)) fun (x5 : Sl) =>
  M.bind (newB none T_sl_i64 [vsl x4,vsl x5]) fun x6 =>
  M.bind (graph_indices_L1 n a0 a1 a2 a3 a4 { a:=some (adr x6),len:=2,cap:=3 } (↑2 : Int) 0) fun x7 =>
  G a0 x7 a2 a3 (IntKind.i64.wrap (a4 + 1))
 else
  M.pure a1
def graph_indices_L0 : Nat → Addr → Bool → Sl → Int → Int → M (Bool)
 | 0=>fun _ _ _ _ _=>M.fail
 | n + 1=>graph_indices_L0_B (graph_indices_L0 n) n
theorem graph_indices_L0_succ (n : Nat) : graph_indices_L0 (n + 1) = graph_indices_L0_B (graph_indices_L0 n) n:=rfl
def graph_indices_J0 (n : Nat) (a0 : Addr) (a1 : Bool) : M (Bool) :=
 M.bind (ldL .sl (a0.plus 0)) fun (x0 : Sl) =>
 M.bind (graph_indices_L0 n a0 a1 x0 (↑x0.len : Int) 0) fun x1 =>
 M.pure x1
def graph_indices (n : Nat) (a0 : Sl × Int) : M (Bool) :=
 M.bind (newB none T_api_Graph [vsl a0.1,vi a0.2]) fun x0 =>
 M.bind (ldL (li) ((adr x0).plus 1)) fun (x1 : Int) =>
 if decide (0 ≤ x1) then
  M.bind (ldL (li) ((adr x0).plus 1)) fun (x2 : Int) =>
  M.bind (ldL .sl ((adr x0).plus 0)) fun (x3 : Sl) =>
  graph_indices_J0 n (adr x0) (decide (x2 < (↑x3.len : Int)))
 else
  graph_indices_J0 n (adr x0) false
abbrev q42_E (n : Nat) : Ent:=⟨42,[.agg [.sl,.int .i64]],[tyB],fun x=>graph_indices n x⟩
abbrev q42_L0_a : List (Nat × Ty):=[(1,tyA),(3,tyB),(22,tyL),(23,tyI),(24,tyI)]
abbrev q42_L0_w : List Nat:=[3,5,7,9,24,25,26,27,28,29,30,31,32,33,34,35,36,37,38,39,40,41,42,43,44,45,46,47,48,49,50,51,52,53,54,55,56,57,58]
abbrev q42_L0_p : Path:=[0,1,0,1,1]
abbrev q42_L0_g (n : Nat) (x : TsDen (tys q42_L0_a)) : M (Bool):=graph_indices_L0 n (x.1) (x.2.1) (x.2.2.1) (x.2.2.2.1) (x.2.2.2.2)
abbrev q42_L0_l (n : Nat) : LEnt:=⟨q42_L0_p,q42_L0_a,actL1 q42_L0_a [(3,tyB)] q42_L0_w 0 (q42_L0_g n)⟩
abbrev q42_L1_a : List (Nat × Ty):=[(1,tyA),(3,tyB),(22,tyL),(23,tyI),(24,tyI),(32,tyL),(33,tyI),(34,tyI)]
abbrev q42_L1_w : List Nat:=[3,7,9,34,35,36,37,38,39,40,41,42,43,44,45,46,47,48,49,50,51,52,53,54,55,56,57]
abbrev q42_L1_p : Path:=[0,1,1,0,0,1,1,0,0,1,0,1,1]
abbrev q42_L1_g (n : Nat) (x : TsDen (tys q42_L1_a)) : M (Bool):=graph_indices_L1 n (x.1) (x.2.1) (x.2.2.1) (x.2.2.2.1) (x.2.2.2.2.1) (x.2.2.2.2.2.1) (x.2.2.2.2.2.2.1) (x.2.2.2.2.2.2.2)
abbrev q42_L1_l (n : Nat) : LEnt:=⟨q42_L1_p,q42_L1_a,actL1 q42_L1_a [(3,tyB)] q42_L1_w 2 (q42_L1_g n)⟩
abbrev q42_L2_a : List (Nat × Ty):=[(1,tyA),(3,tyB),(22,tyL),(23,tyI),(24,tyI),(32,tyL),(33,tyI),(34,tyI),(38,tyL),(39,tyI),(40,tyI)]
abbrev q42_L2_w : List Nat:=[3,9,40,41,42,43,44,45,46,47,48,49,50,51,52,53,54,55,56]
abbrev q42_L2_p : Path:=[0,1,1,0,0,1,1,0,0,1,1,0,0,1,1,0,0,1,0,1,1]
abbrev q42_L2_g (n : Nat) (x : TsDen (tys q42_L2_a)) : M (Bool):=graph_indices_L2 n (x.1) (x.2.1) (x.2.2.1) (x.2.2.2.1) (x.2.2.2.2.1) (x.2.2.2.2.2.1) (x.2.2.2.2.2.2.1) (x.2.2.2.2.2.2.2.1) (x.2.2.2.2.2.2.2.2.1) (x.2.2.2.2.2.2.2.2.2.1) (x.2.2.2.2.2.2.2.2.2.2)
abbrev q42_L2_l (n : Nat) : LEnt:=⟨q42_L2_p,q42_L2_a,actL1 q42_L2_a [(3,tyB)] q42_L2_w 4 (q42_L2_g n)⟩
abbrev q42_dt (n : Nat) : List DEnt:=[]
abbrev q42_ct (n : Nat) : List Ent:=[]
def q42_dr (i : Nat) : Option (List (Nat × List Nat)):=none
abbrev q42_L1_lt (n : Nat) : List LEnt:=[q42_L2_l n]
abbrev q42_L0_lt (n : Nat) : List LEnt:=[q42_L1_l n]
abbrev q42_lt (n : Nat) : List LEnt:=[q42_L0_l n]
abbrev q42_jt1 (n : Nat) : List (JEnt (Bool)):=[]
abbrev q42_jt0 (n : Nat) : List (JEnt (Bool)):=⟨[0,0,1,1],[.code [1,0,1,1],.code [1,1,1]],[(1,tyA),(3,tyB)],fun x=>graph_indices_J0 n (x.1) (x.2)⟩ :: q42_jt1 n
theorem q42_L2_ok (n : Nat) {W : Wr} (hW : subW W 60 q42_L2_w = true) : LEntOK Tryz.prog (bodyOf Tryz.f42) W (q42_L2_l n) :=
 loop1_t (bodyOf Tryz.f42) q42_L2_p q42_L2_a [(3,tyB)] 4 60 q42_L2_w [] q42_ct q42_dt (fun _=>[]) q42_dr q42_L2_g (fun _=>[]) (by kernel_rfl) (fun _=>by kernel_rfl) (fun n x=>by kernel_rfl) n (fun m hm=>⟨.nil,.nil,.nil,.nil,.nil⟩) hW
theorem q42_L1_ok (n : Nat) {W : Wr} (hW : subW W 60 q42_L1_w = true) : LEntOK Tryz.prog (bodyOf Tryz.f42) W (q42_L1_l n) :=
 loop1_t (bodyOf Tryz.f42) q42_L1_p q42_L1_a [(3,tyB)] 2 60 q42_L1_w [] q42_ct q42_dt q42_L1_lt q42_dr q42_L1_g (fun _=>[]) (by kernel_rfl) (fun _=>by kernel_rfl) (fun n x=>by kernel_rfl) n (fun m hm=>⟨.nil,.nil,.nil,(.cons (q42_L2_ok m (by kernel_rfl)) .nil),.nil⟩) hW
theorem q42_L0_ok (n : Nat) {W : Wr} (hW : subW W 60 q42_L0_w = true) : LEntOK Tryz.prog (bodyOf Tryz.f42) W (q42_L0_l n) :=
 loop1_t (bodyOf Tryz.f42) q42_L0_p q42_L0_a [(3,tyB)] 0 60 q42_L0_w [] q42_ct q42_dt q42_L0_lt q42_dr q42_L0_g (fun _=>[]) (by kernel_rfl) (fun _=>by kernel_rfl) (fun n x=>by kernel_rfl) n (fun m hm=>⟨.nil,.nil,.nil,(.cons (q42_L1_ok m (by kernel_rfl)) .nil),.nil⟩) hW
theorem graph_indices_ok (n : Nat) : FnOK Tryz.prog (q42_E n) :=
 fn_t (q42_E n) Tryz.f42 (bodyOf Tryz.f42) [(0,.agg [.sl,.int .i64])] [] (q42_ct n) (q42_dt n) (q42_lt n) (q42_jt0 n) q42_dr (by kernel_rfl) (by kernel_rfl) (by kernel_rfl) (by kernel_rfl) (by kernel_rfl) ⟨.nil,.nil,.nil,(.cons (q42_L0_ok n (by kernel_rfl)) .nil),(.cons (fun x=>by kernel_rfl) .nil)⟩ (fun x=>by kernel_rfl)
structure Cl_graph_reached_1 where
 graph_reached_1_L0 : Int → Addr → Addr → Sl → Int → Int → M (Unit)
 graph_reached_1_L1 : Addr → Sl → Int → Int → M (Unit)
 graph_reached_1 : Int → Addr → Addr → Addr → M (Unit)
def graph_reached_1_D27_B (G : Cl_graph_reached_1) (n : Nat) (x : Value) (a0 : Int) : M (Unit) :=
 if isFn F_graph_reached_1 x then
  M.bind (asFn [tyA,tyA,tyA] x) fun (c : Addr × Addr × Addr)=>G.graph_reached_1 a0 (c.1) (c.2.1) (c.2.2)
 else M.fail
def graph_reached_1_D42_B (G : Cl_graph_reached_1) (n : Nat) (x : Value) (a0 : Int) : M (Unit) :=
 if isFn F_graph_reached_1 x then
  M.bind (asFn [tyA,tyA,tyA] x) fun (c : Addr × Addr × Addr)=>G.graph_reached_1 a0 (c.1) (c.2.1) (c.2.2)
 else M.fail
def graph_reached_1_L0_B (G : Cl_graph_reached_1) (n : Nat) (a0 : Int) (a1 : Addr) (a2 : Addr) (a3 : Sl) (a4 : Int) (a5 : Int) : M (Unit) :=
 if decide (a5 < a4) then
  M.bind (idxA a3 a5 1) fun x0 =>
  M.bind (ldL (li) x0) fun (x1 : Int) =>
  M.bind (ldL .raw a2) fun (x2 : Value) =>
  M.bind (graph_reached_1_D27_B G n x2 x1) fun x3 =>
  G.graph_reached_1_L0 a0 a1 a2 a3 a4 (IntKind.i64.wrap (a5 + 1))
 else
  M.pure ()
def graph_reached_1_L1_B (G : Cl_graph_reached_1) (n : Nat) (a0 : Addr) (a1 : Sl) (a2 : Int) (a3 : Int) : M (Unit) :=
 if decide (a3 < a2) then
  M.bind (idxA a1 a3 1) fun x0 =>
  M.bind (ldL (li) x0) fun (x1 : Int) =>
  M.bind (ldL .raw a0) fun (x2 : Value) =>
  M.bind (graph_reached_1_D42_B G n x2 x1) fun x3 =>
  G.graph_reached_1_L1 a0 a1 a2 (IntKind.i64.wrap (a3 + 1))
 else
  M.pure ()
def graph_reached_1_B (G : Cl_graph_reached_1) (n : Nat) (a0 : Int) (a1 : Addr) (a2 : Addr) (a3 : Addr) : M (Unit) :=
 M.bind (ldL .sl a1) fun (x0 : Sl) =>
 M.bind (idxA x0 a0 1) fun x1 =>
 M.bind (ldL .bool x1) fun (x2 : Bool) =>
 if x2 then
  M.pure ()
 else
  M.bind (ldL .sl a1) fun (x3 : Sl) =>
  M.bind (idxA x3 a0 1) fun x4 =>
  M.bind (stN x4 [Value.bool true]) fun x5 =>
  M.bind (ldL .sl (a2.plus 0)) fun (x6 : Sl) =>
  M.bind (idxA x6 a0 5) fun x7 =>
  M.bind (ldL .sl (x7.plus 3)) fun (x8 : Sl) =>
  M.bind (G.graph_reached_1_L0 a0 a2 a3 x8 (↑x8.len : Int) 0) fun x9 =>
  M.bind (ldL .sl (a2.plus 0)) fun (x10 : Sl) =>
  M.bind (idxA x10 a0 5) fun x11 =>
  M.bind (ldL .sl (x11.plus 4)) fun (x12 : Sl) =>
  M.bind (G.graph_reached_1_L1 a3 x12 (↑x12.len : Int) 0) fun x13 =>
  M.pure ()
def Cl_graph_reached_1.at : Nat → Cl_graph_reached_1
 | 0=>⟨fun _ _ _ _ _ _=>M.fail,fun _ _ _ _=>M.fail,fun _ _ _ _=>M.fail⟩
 | n + 1=>⟨graph_reached_1_L0_B (Cl_graph_reached_1.at n) n,graph_reached_1_L1_B (Cl_graph_reached_1.at n) n,graph_reached_1_B (Cl_graph_reached_1.at n) n⟩
def graph_reached_1_L0 (n : Nat) (a0 : Int) (a1 : Addr) (a2 : Addr) (a3 : Sl) (a4 : Int) (a5 : Int) : M (Unit):=(Cl_graph_reached_1.at n).graph_reached_1_L0 a0 a1 a2 a3 a4 a5
theorem graph_reached_1_L0_succ (n : Nat) (a0 : Int) (a1 : Addr) (a2 : Addr) (a3 : Sl) (a4 : Int) (a5 : Int) : graph_reached_1_L0 (n + 1) a0 a1 a2 a3 a4 a5 = graph_reached_1_L0_B (Cl_graph_reached_1.at n) n a0 a1 a2 a3 a4 a5:=rfl
def graph_reached_1_L1 (n : Nat) (a0 : Addr) (a1 : Sl) (a2 : Int) (a3 : Int) : M (Unit):=(Cl_graph_reached_1.at n).graph_reached_1_L1 a0 a1 a2 a3
theorem graph_reached_1_L1_succ (n : Nat) (a0 : Addr) (a1 : Sl) (a2 : Int) (a3 : Int) : graph_reached_1_L1 (n + 1) a0 a1 a2 a3 = graph_reached_1_L1_B (Cl_graph_reached_1.at n) n a0 a1 a2 a3:=rfl
def graph_reached_1 (n : Nat) (a0 : Int) (a1 : Addr) (a2 : Addr) (a3 : Addr) : M (Unit):=(Cl_graph_reached_1.at n).graph_reached_1 a0 a1 a2 a3
theorem graph_reached_1_succ (n : Nat) (a0 : Int) (a1 : Addr) (a2 : Addr) (a3 : Addr) : graph_reached_1 (n + 1) a0 a1 a2 a3 = graph_reached_1_B (Cl_graph_reached_1.at n) n a0 a1 a2 a3:=rfl
def graph_reached_1_D27 (n : Nat) (x : Value) (a0 : Int) : M (Unit):=graph_reached_1_D27_B (Cl_graph_reached_1.at n) n x a0
def graph_reached_1_D42 (n : Nat) (x : Value) (a0 : Int) : M (Unit):=graph_reached_1_D42_B (Cl_graph_reached_1.at n) n x a0
abbrev q76_E (n : Nat) : Ent:=⟨76,[tyI,tyA,tyA,tyA],[],fun x=>graph_reached_1 n (x.1) (x.2.1) (x.2.2.1) (x.2.2.2)⟩
abbrev q76_L0_a : List (Nat × Ty):=[(0,tyI),(2,tyA),(3,tyA),(21,tyL),(22,tyI),(23,tyI)]
abbrev q76_L0_w : List Nat:=[6,23,24,25,26,27,28,29,30]
abbrev q76_L0_p : Path:=[0,1,0,1,1]
abbrev q76_L0_g (n : Nat) (x : TsDen (tys q76_L0_a)) : M (Unit):=graph_reached_1_L0 n (x.1) (x.2.1) (x.2.2.1) (x.2.2.2.1) (x.2.2.2.2.1) (x.2.2.2.2.2)
abbrev q76_L0_l (n : Nat) : LEnt:=⟨q76_L0_p,q76_L0_a,actL1 q76_L0_a [] q76_L0_w 0 (q76_L0_g n)⟩
abbrev q76_L1_a : List (Nat × Ty):=[(3,tyA),(36,tyL),(37,tyI),(38,tyI)]
abbrev q76_L1_w : List Nat:=[8,38,39,40,41,42,43,44,45]
abbrev q76_L1_p : Path:=[0,1,1,1,1]
abbrev q76_L1_g (n : Nat) (x : TsDen (tys q76_L1_a)) : M (Unit):=graph_reached_1_L1 n (x.1) (x.2.1) (x.2.2.1) (x.2.2.2)
abbrev q76_L1_l (n : Nat) : LEnt:=⟨q76_L1_p,q76_L1_a,actL1 q76_L1_a [] q76_L1_w 2 (q76_L1_g n)⟩
abbrev q76_dt (n : Nat) : List DEnt:=[⟨27,[tyI],[],fun x a=>graph_reached_1_D27 n x (a)⟩,
 ⟨42,[tyI],[],fun x a=>graph_reached_1_D42 n x (a)⟩]
abbrev q76_ct (n : Nat) : List Ent:=[]
def q76_dr (i : Nat) : Option (List (Nat × List Nat)):=none
abbrev q76_lt (n : Nat) : List LEnt:=[q76_L0_l n,q76_L1_l n]
def P_graph_reached_1 (n : Nat) : Prop:=FnOK Tryz.prog (q76_E n)
theorem q76_L0_ok (n : Nat) (H : ∀ m,m < n → P_graph_reached_1 m) {W : Wr} (hW : subW W 46 q76_L0_w = true) : LEntOK Tryz.prog (bodyOf Tryz.f76) W (q76_L0_l n) :=
 loop1_t (bodyOf Tryz.f76) q76_L0_p q76_L0_a [] 0 46 q76_L0_w [] q76_ct q76_dt (fun _=>[]) q76_dr q76_L0_g (fun _=>[]) (by kernel_rfl) (fun _=>by kernel_rfl) (fun n x=>by kernel_rfl) n (fun m hm=>⟨.nil,.nil,(.cons (dent_ok (l:=[⟨76,[tyA,tyA,tyA],fun a c=>graph_reached_1 m (a) (c.1) (c.2.1) (c.2.2)⟩]) (.cons (fun a c=>callOK_cast (by kernel_rfl) ((H m hm) (a,c.1,c.2.1,c.2.2))) .nil) (fun x a=>by kernel_rfl)) (.cons (dent_ok (l:=[⟨76,[tyA,tyA,tyA],fun a c=>graph_reached_1 m (a) (c.1) (c.2.1) (c.2.2)⟩]) (.cons (fun a c=>callOK_cast (by kernel_rfl) ((H m hm) (a,c.1,c.2.1,c.2.2))) .nil) (fun x a=>by kernel_rfl)) .nil)),.nil,.nil⟩) hW
theorem q76_L1_ok (n : Nat) (H : ∀ m,m < n → P_graph_reached_1 m) {W : Wr} (hW : subW W 46 q76_L1_w = true) : LEntOK Tryz.prog (bodyOf Tryz.f76) W (q76_L1_l n) :=
 loop1_t (bodyOf Tryz.f76) q76_L1_p q76_L1_a [] 2 46 q76_L1_w [] q76_ct q76_dt (fun _=>[]) q76_dr q76_L1_g (fun _=>[]) (by kernel_rfl) (fun _=>by kernel_rfl) (fun n x=>by kernel_rfl) n (fun m hm=>⟨.nil,.nil,(.cons (dent_ok (l:=[⟨76,[tyA,tyA,tyA],fun a c=>graph_reached_1 m (a) (c.1) (c.2.1) (c.2.2)⟩]) (.cons (fun a c=>callOK_cast (by kernel_rfl) ((H m hm) (a,c.1,c.2.1,c.2.2))) .nil) (fun x a=>by kernel_rfl)) (.cons (dent_ok (l:=[⟨76,[tyA,tyA,tyA],fun a c=>graph_reached_1 m (a) (c.1) (c.2.1) (c.2.2)⟩]) (.cons (fun a c=>callOK_cast (by kernel_rfl) ((H m hm) (a,c.1,c.2.1,c.2.2))) .nil) (fun x a=>by kernel_rfl)) .nil)),.nil,.nil⟩) hW
theorem graph_reached_1_ok_step (n : Nat) (H : ∀ m,m < n + 1 → P_graph_reached_1 m) : FnOK Tryz.prog (q76_E (n + 1)) :=
 fn_t (q76_E (n + 1)) Tryz.f76 (bodyOf Tryz.f76) [(0,tyI),(1,tyA),(2,tyA),(3,tyA)] [] (q76_ct n) (q76_dt n) (q76_lt n) [] q76_dr (by kernel_rfl) (by kernel_rfl) (by kernel_rfl) (by kernel_rfl) (by kernel_rfl) ⟨.nil,.nil,(.cons (dent_ok (l:=[⟨76,[tyA,tyA,tyA],fun a c=>graph_reached_1 n (a) (c.1) (c.2.1) (c.2.2)⟩]) (.cons (fun a c=>callOK_cast (by kernel_rfl) ((H n (Nat.lt_succ_self n)) (a,c.1,c.2.1,c.2.2))) .nil) (fun x a=>by kernel_rfl)) (.cons (dent_ok (l:=[⟨76,[tyA,tyA,tyA],fun a c=>graph_reached_1 n (a) (c.1) (c.2.1) (c.2.2)⟩]) (.cons (fun a c=>callOK_cast (by kernel_rfl) ((H n (Nat.lt_succ_self n)) (a,c.1,c.2.1,c.2.2))) .nil) (fun x a=>by kernel_rfl)) .nil)),(.cons (q76_L0_ok n (fun k hk=>H k (Nat.lt_succ_of_lt hk)) (by kernel_rfl)) (.cons (q76_L1_ok n (fun k hk=>H k (Nat.lt_succ_of_lt hk)) (by kernel_rfl)) .nil)),.nil⟩ (fun x=>by kernel_rfl)
theorem P_graph_reached_1_all : ∀ n m,m < n → P_graph_reached_1 m:=by
 intro n
 induction n with
 | zero=>intro m hm;exact absurd hm (Nat.not_lt_zero m)
 | succ n ih =>
  intro m hm
  cases m with
  | zero=>exact fn_zero (fn:=Tryz.f76) (by kernel_rfl) (by kernel_rfl) (by kernel_rfl) (fun _=>rfl)
  | succ k=>exact graph_reached_1_ok_step k fun m hm=>ih m (by omega)
theorem graph_reached_1_ok (n : Nat) : FnOK Tryz.prog (q76_E n):=(P_graph_reached_1_all (n + 1) n (Nat.lt_succ_self n))
def graph_reached_D8 (n : Nat) (x : Value) (a0 : Int) : M (Unit) :=
 if isFn F_graph_reached_1 x then
  M.bind (asFn [tyA,tyA,tyA] x) fun (c : Addr × Addr × Addr)=>graph_reached_1 n a0 (c.1) (c.2.1) (c.2.2)
 else M.fail
def graph_reached (n : Nat) (a0 : Sl × Int) (a1 : Int) (a2 : Sl) : M (Unit) :=
 M.bind (newB none T_api_Graph [vsl a0.1,vi a0.2]) fun x0 =>
 M.bind (newB none T_sl_bool [vsl a2]) fun x1 =>
 M.bind (newB none T_fn_i64__ [Value.nilFunc]) fun x2 =>
 M.bind (stN (adr x2) [Value.func (Fn.func F_graph_reached_1) #[] #[Value.pointer (some (adr x1)),Value.pointer (some (adr x0)),Value.pointer (some (adr x2))]]) fun x3 =>
 M.bind (ldL .raw (adr x2)) fun (x4 : Value) =>
 M.bind (graph_reached_D8 n x4 a1) fun x5 =>
 M.pure ()
abbrev q43_E (n : Nat) : Ent:=⟨43,[.agg [.sl,.int .i64],tyI,tyL],[],fun x=>graph_reached n (x.1) (x.2.1) (x.2.2)⟩
abbrev q43_dt (n : Nat) : List DEnt:=[⟨8,[tyI],[],fun x a=>graph_reached_D8 n x (a)⟩]
abbrev q43_ct (n : Nat) : List Ent:=[]
def q43_dr (i : Nat) : Option (List (Nat × List Nat)):=none
theorem graph_reached_ok (n : Nat) : FnOK Tryz.prog (q43_E n) :=
 fn_t (q43_E n) Tryz.f43 (bodyOf Tryz.f43) [(0,.agg [.sl,.int .i64]),(1,tyI),(2,tyL)] [] (q43_ct n) (q43_dt n) [] [] q43_dr (by kernel_rfl) (by kernel_rfl) (by kernel_rfl) (by kernel_rfl) (by kernel_rfl) ⟨.nil,.nil,(.cons (dent_ok (l:=[⟨76,[tyA,tyA,tyA],fun a c=>graph_reached_1 n (a) (c.1) (c.2.1) (c.2.2)⟩]) (.cons (fun a c=>callOK_cast (by kernel_rfl) ((graph_reached_1_ok n) (a,c.1,c.2.1,c.2.2))) .nil) (fun x a=>by kernel_rfl)) .nil),.nil,.nil⟩ (fun x=>by kernel_rfl)
def graph_name_L0_B (G : ByteArray → Int → Int → M ((Unit) ⊕ (Bool))) (n : Nat) (a0 : ByteArray) (a1 : Int) (a2 : Int) : M ((Unit) ⊕ (Bool)) :=
 if decide (a2 < a1) then
  M.bind (idxS a0 a2) fun x0 =>
  if decide (97 ≤ (↑x0.toNat : Int)) then
   if decide ((↑x0.toNat : Int) ≤ 122) then
    G a0 a1 (IntKind.i64.wrap (a2 + 1))
   else
    if decide (65 ≤ (↑x0.toNat : Int)) then
     if decide ((↑x0.toNat : Int) ≤ 90) then
      G a0 a1 (IntKind.i64.wrap (a2 + 1))
     else
      if decide (48 ≤ (↑x0.toNat : Int)) then
       if decide ((↑x0.toNat : Int) ≤ 57) then
        G a0 a1 (IntKind.i64.wrap (a2 + 1))
       else
        if decide ((↑x0.toNat : Int) = 95) then
         G a0 a1 (IntKind.i64.wrap (a2 + 1))
        else
         if decide ((↑x0.toNat : Int) = 45) then
          G a0 a1 (IntKind.i64.wrap (a2 + 1))
         else
          if decide ((↑x0.toNat : Int) = 46) then
           G a0 a1 (IntKind.i64.wrap (a2 + 1))
          else
           if !decide ((↑x0.toNat : Int) = 58) then
            M.pure (Sum.inr false)
           else
            G a0 a1 (IntKind.i64.wrap (a2 + 1))
      else
       if decide ((↑x0.toNat : Int) = 95) then
        G a0 a1 (IntKind.i64.wrap (a2 + 1))
       else
        if decide ((↑x0.toNat : Int) = 45) then
         G a0 a1 (IntKind.i64.wrap (a2 + 1))
        else
         if decide ((↑x0.toNat : Int) = 46) then
          G a0 a1 (IntKind.i64.wrap (a2 + 1))
         else
          if !decide ((↑x0.toNat : Int) = 58) then
           M.pure (Sum.inr false)
          else
           G a0 a1 (IntKind.i64.wrap (a2 + 1))
    else
     if decide (48 ≤ (↑x0.toNat : Int)) then
      if decide ((↑x0.toNat : Int) ≤ 57) then
       G a0 a1 (IntKind.i64.wrap (a2 + 1))
      else
       if decide ((↑x0.toNat : Int) = 95) then
        G a0 a1 (IntKind.i64.wrap (a2 + 1))
       else
        if decide ((↑x0.toNat : Int) = 45) then
         G a0 a1 (IntKind.i64.wrap (a2 + 1))
        else
         if decide ((↑x0.toNat : Int) = 46) then
          G a0 a1 (IntKind.i64.wrap (a2 + 1))
         else
          if !decide ((↑x0.toNat : Int) = 58) then
           M.pure (Sum.inr false)
          else
           G a0 a1 (IntKind.i64.wrap (a2 + 1))
     else
      if decide ((↑x0.toNat : Int) = 95) then
       G a0 a1 (IntKind.i64.wrap (a2 + 1))
      else
       if decide ((↑x0.toNat : Int) = 45) then
        G a0 a1 (IntKind.i64.wrap (a2 + 1))
       else
        if decide ((↑x0.toNat : Int) = 46) then
         G a0 a1 (IntKind.i64.wrap (a2 + 1))
        else
         if !decide ((↑x0.toNat : Int) = 58) then
          M.pure (Sum.inr false)
         else
          G a0 a1 (IntKind.i64.wrap (a2 + 1))
  else
   if decide (65 ≤ (↑x0.toNat : Int)) then
    if decide ((↑x0.toNat : Int) ≤ 90) then
     G a0 a1 (IntKind.i64.wrap (a2 + 1))
    else
     if decide (48 ≤ (↑x0.toNat : Int)) then
      if decide ((↑x0.toNat : Int) ≤ 57) then
       G a0 a1 (IntKind.i64.wrap (a2 + 1))
      else
       if decide ((↑x0.toNat : Int) = 95) then
        G a0 a1 (IntKind.i64.wrap (a2 + 1))
       else
        if decide ((↑x0.toNat : Int) = 45) then
         G a0 a1 (IntKind.i64.wrap (a2 + 1))
        else
         if decide ((↑x0.toNat : Int) = 46) then
          G a0 a1 (IntKind.i64.wrap (a2 + 1))
         else
          if !decide ((↑x0.toNat : Int) = 58) then
           M.pure (Sum.inr false)
          else
           G a0 a1 (IntKind.i64.wrap (a2 + 1))
     else
      if decide ((↑x0.toNat : Int) = 95) then
       G a0 a1 (IntKind.i64.wrap (a2 + 1))
      else
       if decide ((↑x0.toNat : Int) = 45) then
        G a0 a1 (IntKind.i64.wrap (a2 + 1))
       else
        if decide ((↑x0.toNat : Int) = 46) then
         G a0 a1 (IntKind.i64.wrap (a2 + 1))
        else
         if !decide ((↑x0.toNat : Int) = 58) then
          M.pure (Sum.inr false)
         else
          G a0 a1 (IntKind.i64.wrap (a2 + 1))
   else
    if decide (48 ≤ (↑x0.toNat : Int)) then
     if decide ((↑x0.toNat : Int) ≤ 57) then
      G a0 a1 (IntKind.i64.wrap (a2 + 1))
     else
      if decide ((↑x0.toNat : Int) = 95) then
       G a0 a1 (IntKind.i64.wrap (a2 + 1))
      else
       if decide ((↑x0.toNat : Int) = 45) then
        G a0 a1 (IntKind.i64.wrap (a2 + 1))
       else
        if decide ((↑x0.toNat : Int) = 46) then
         G a0 a1 (IntKind.i64.wrap (a2 + 1))
        else
         if !decide ((↑x0.toNat : Int) = 58) then
          M.pure (Sum.inr false)
         else
          G a0 a1 (IntKind.i64.wrap (a2 + 1))
    else
     if decide ((↑x0.toNat : Int) = 95) then
      G a0 a1 (IntKind.i64.wrap (a2 + 1))
     else
      if decide ((↑x0.toNat : Int) = 45) then
       G a0 a1 (IntKind.i64.wrap (a2 + 1))
      else
       if decide ((↑x0.toNat : Int) = 46) then
        G a0 a1 (IntKind.i64.wrap (a2 + 1))
       else
        if !decide ((↑x0.toNat : Int) = 58) then
         M.pure (Sum.inr false)
        else
         G a0 a1 (IntKind.i64.wrap (a2 + 1))
 else
  M.pure (Sum.inl ())
def graph_name_L0 : Nat → ByteArray → Int → Int → M ((Unit) ⊕ (Bool))
 | 0=>fun _ _ _=>M.fail
 | n + 1=>graph_name_L0_B (graph_name_L0 n) n
def graph_name (n : Nat) (a0 : ByteArray) : M (Bool) :=
 M.bind (graph_name_L0 n a0 (↑a0.size : Int) 0) (sumElim (fun x0 =>
  if decide (1 ≤ (↑a0.size : Int)) then
   M.pure (decide ((↑a0.size : Int) ≤ 64))
  else
   M.pure false)
 (fun x0 =>
  M.pure x0))
abbrev q77_E (n : Nat) : Ent:=⟨77,[tyS],[tyB],fun x=>graph_name n x⟩
abbrev q77_L0_a : List (Nat × Ty):=[(0,tyS),(6,tyI),(7,tyI)]
abbrev q77_L0_w : List Nat:=[2,3,4,7,8,9,10,11,12,13,14,15,16,17,18,19,20,21,22,23,24,25,26,27,28,29,30,31,32,33,34,35,36,37,38,39,40,41,42,43,44,45,46,47,48,49,50,51,52]
abbrev q77_L0_p : Path:=[0,1,0,1]
abbrev q77_L0_g (n : Nat) (x : TsDen (tys q77_L0_a)) : M ((Unit) ⊕ (Bool)):=graph_name_L0 n (x.1) (x.2.1) (x.2.2)
abbrev q77_L0_l (n : Nat) : LEnt:=⟨q77_L0_p,q77_L0_a,actL2 q77_L0_a [] [(2,tyB)] q77_L0_w 0 .ret (q77_L0_g n)⟩
abbrev q77_dt (n : Nat) : List DEnt:=[]
abbrev q77_ct (n : Nat) : List Ent:=[]
def q77_dr (i : Nat) : Option (List (Nat × List Nat)):=none
abbrev q77_lt (n : Nat) : List LEnt:=[q77_L0_l n]
theorem q77_L0_ok (n : Nat) {W : Wr} (hW : subW W 61 q77_L0_w = true) : LEntOK Tryz.prog (bodyOf Tryz.f77) W (q77_L0_l n) :=
 loop2_t (bodyOf Tryz.f77) q77_L0_p q77_L0_a [] [(2,tyB)] 0 .ret 61 q77_L0_w [] q77_ct q77_dt (fun _=>[]) q77_dr q77_L0_g (fun _=>[]) (by kernel_rfl) (fun _=>by kernel_rfl) (fun n x=>by kernel_rfl) n (fun m hm=>⟨.nil,.nil,.nil,.nil,.nil⟩) hW
theorem graph_name_ok (n : Nat) : FnOK Tryz.prog (q77_E n) :=
 fn_t (q77_E n) Tryz.f77 (bodyOf Tryz.f77) [(0,tyS)] [] (q77_ct n) (q77_dt n) (q77_lt n) [] q77_dr (by kernel_rfl) (by kernel_rfl) (by kernel_rfl) (by kernel_rfl) (by kernel_rfl) ⟨.nil,.nil,.nil,(.cons (q77_L0_ok n (by kernel_rfl)) .nil),.nil⟩ (fun x=>by kernel_rfl)
def graph_scalar (n : Nat) (a0 : Int) (a1 : ByteArray) : M (Bool) :=
 if decide (a0 = 0) then
  M.pure (eqS a1 (ofBytes []))
 else
  if decide (a0 = 1) then
   if eqS a1 (ofBytes [116,114,117,101]) then
    M.pure true
   else
    M.pure (eqS a1 (ofBytes [102,97,108,115,101]))
  else
   if decide (a0 = 2) then
    M.bind (integer_Valid n a1) fun x0 =>
    M.pure x0
   else
    if decide (a0 = 3) then
     M.fail
    else
     if decide (a0 = 4) then
      M.fail
     else
      if decide (a0 = 5) then
       M.bind (codepoint_Check n a1) fun x0 =>
       M.pure (decide (x0.2 = 0))
      else
       if decide (a0 = 6) then
        M.pure true
       else
        if decide (a0 = 7) then
         M.fail
        else
         if decide (a0 = 8) then
          M.fail
         else
          M.pure false
abbrev q78_E (n : Nat) : Ent:=⟨78,[tyI,tyS],[tyB],fun x=>graph_scalar n (x.1) (x.2)⟩
abbrev q78_dt (n : Nat) : List DEnt:=[]
abbrev q78_ct (n : Nat) : List Ent:=[q97_E n,⟨100,[tyS],[tyI,tyI],fun x=>codepoint_Check n x⟩]
def q78_dr (i : Nat) : Option (List (Nat × List Nat)):=none
theorem graph_scalar_ok (n : Nat) : FnOK Tryz.prog (q78_E n) :=
 fn_t (q78_E n) Tryz.f78 (bodyOf Tryz.f78) [(0,tyI),(1,tyS)] [] (q78_ct n) (q78_dt n) [] [] q78_dr (by kernel_rfl) (by kernel_rfl) (by kernel_rfl) (by kernel_rfl) (by kernel_rfl) ⟨.nil,(.cons (integer_Valid_ok n) (.cons (codepoint_Check_ok n) .nil)),.nil,.nil,.nil⟩ (fun x=>by kernel_rfl)
def graph_form (n : Nat) (a0 : Int × ByteArray × Bool × Sl × Sl) : M (Bool) :=
 M.bind (newB none T_api_Node [vi a0.1,Value.string a0.2.1,Value.bool a0.2.2.1,vsl a0.2.2.2.1,vsl a0.2.2.2.2]) fun x0 =>
 M.bind (ldL (li) ((adr x0).plus 0)) fun (x1 : Int) =>
 if decide (x1 = 9) then
  M.bind (ldL .str ((adr x0).plus 1)) fun (x2 : ByteArray) =>
  if eqS x2 (ofBytes []) then
   M.bind (ldL .bool ((adr x0).plus 2)) fun (x3 : Bool) =>
   if !x3 then
    M.bind (ldL .sl ((adr x0).plus 3)) fun (x4 : Sl) =>
    M.pure (decide ((↑x4.len : Int) = 0))
   else
    M.pure false
  else
   M.pure false
 else
  if decide (x1 = 10) then
   M.bind (ldL .str ((adr x0).plus 1)) fun (x2 : ByteArray) =>
   if eqS x2 (ofBytes []) then
    M.bind (ldL .sl ((adr x0).plus 3)) fun (x3 : Sl) =>
    M.bind (ldL .sl ((adr x0).plus 4)) fun (x4 : Sl) =>
    M.pure (decide ((↑x3.len : Int) = (↑x4.len : Int)))
   else
    M.pure false
  else
   if decide (x1 = 11) then
    M.bind (ldL .str ((adr x0).plus 1)) fun (x2 : ByteArray) =>
    M.bind (graph_name n x2) fun x3 =>
    if x3 then
     M.bind (ldL .bool ((adr x0).plus 2)) fun (x4 : Bool) =>
     if !x4 then
      M.bind (ldL .sl ((adr x0).plus 3)) fun (x5 : Sl) =>
      if decide ((↑x5.len : Int) = 0) then
       M.bind (ldL .sl ((adr x0).plus 4)) fun (x6 : Sl) =>
       M.pure (decide ((↑x6.len : Int) = 1))
      else
       M.pure false
     else
      M.pure false
    else
     M.pure false
   else
    M.bind (ldL .bool ((adr x0).plus 2)) fun (x2 : Bool) =>
    if !x2 then
     M.bind (ldL .sl ((adr x0).plus 3)) fun (x3 : Sl) =>
     if decide ((↑x3.len : Int) = 0) then
      M.bind (ldL .sl ((adr x0).plus 4)) fun (x4 : Sl) =>
      if decide ((↑x4.len : Int) = 0) then
       M.bind (ldL (li) ((adr x0).plus 0)) fun (x5 : Int) =>
       M.bind (ldL .str ((adr x0).plus 1)) fun (x6 : ByteArray) =>
       M.bind (graph_scalar n x5 x6) fun x7 =>
       M.pure x7
      else
       M.pure false
     else
      M.pure false
    else
     M.pure false
abbrev q44_E (n : Nat) : Ent:=⟨44,[.agg [.int .i64,.str,.bool,.sl,.sl]],[tyB],fun x=>graph_form n x⟩
abbrev q44_dt (n : Nat) : List DEnt:=[]
abbrev q44_ct (n : Nat) : List Ent:=[q77_E n,q78_E n]
def q44_dr (i : Nat) : Option (List (Nat × List Nat)):=none
theorem graph_form_ok (n : Nat) : FnOK Tryz.prog (q44_E n) :=
 fn_t (q44_E n) Tryz.f44 (bodyOf Tryz.f44) [(0,.agg [.int .i64,.str,.bool,.sl,.sl])] [] (q44_ct n) (q44_dt n) [] [] q44_dr (by kernel_rfl) (by kernel_rfl) (by kernel_rfl) (by kernel_rfl) (by kernel_rfl) ⟨.nil,(.cons (graph_name_ok n) (.cons (graph_scalar_ok n) .nil)),.nil,.nil,.nil⟩ (fun x=>by kernel_rfl)
def graph_counts_L1_B (G : Sl → Addr → Sl → Int → Int → Sl → Int → Int → M (Unit)) (n : Nat) (a0 : Sl) (a1 : Addr) (a2 : Sl) (a3 : Int) (a4 : Int) (a5 : Sl) (a6 : Int) (a7 : Int) : M (Unit) :=
 if decide (a7 < a6) then
  M.bind (idxA a5 a7 1) fun x0 =>
  M.bind (ldL (li) x0) fun (x1 : Int) =>
  M.bind (idxA a0 x1 1) fun x2 =>
  M.bind (ldL (li) x2) fun (x3 : Int) =>
  M.bind (idxA a0 x1 1) fun x4 =>
  M.bind (stN x4 [vi (IntKind.i64.wrap (x3 + 1))]) fun x5 =>
  G a0 a1 a2 a3 a4 a5 a6 (IntKind.i64.wrap (a7 + 1))
 else
  M.pure ()
def graph_counts_L1 : Nat → Sl → Addr → Sl → Int → Int → Sl → Int → Int → M (Unit)
 | 0=>fun _ _ _ _ _ _ _ _=>M.fail
 | n + 1=>graph_counts_L1_B (graph_counts_L1 n) n
theorem graph_counts_L1_succ (n : Nat) : graph_counts_L1 (n + 1) = graph_counts_L1_B (graph_counts_L1 n) n:=rfl
def graph_counts_L2_B (G : Sl → Sl → Int → Int → Sl → Int → Int → M (Unit)) (n : Nat) (a0 : Sl) (a1 : Sl) (a2 : Int) (a3 : Int) (a4 : Sl) (a5 : Int) (a6 : Int) : M (Unit) :=
 if decide (a6 < a5) then
  M.bind (idxA a4 a6 1) fun x0 =>
  M.bind (ldL (li) x0) fun (x1 : Int) =>
  M.bind (idxA a0 x1 1) fun x2 =>
  M.bind (ldL (li) x2) fun (x3 : Int) =>
  M.bind (idxA a0 x1 1) fun x4 =>
  M.bind (stN x4 [vi (IntKind.i64.wrap (x3 + 1))]) fun x5 =>
  G a0 a1 a2 a3 a4 a5 (IntKind.i64.wrap (a6 + 1))
 else
  M.pure ()
def graph_counts_L2 : Nat → Sl → Sl → Int → Int → Sl → Int → Int → M (Unit)
 | 0=>fun _ _ _ _ _ _ _=>M.fail
 | n + 1=>graph_counts_L2_B (graph_counts_L2 n) n
theorem graph_counts_L2_succ (n : Nat) : graph_counts_L2 (n + 1) = graph_counts_L2_B (graph_counts_L2 n) n:=rfl
def graph_counts_L0_B (G : Sl → Sl → Int → Int → M (Unit)) (n : Nat) (a0 : Sl) (a1 : Sl) (a2 : Int) (a3 : Int) : M (Unit) :=
 if decide (a3 < a2) then
  M.bind (idxA a1 a3 5) fun x0 =>
  M.bind (ldLs [li,.str,.bool,.sl,.sl] x0) fun (x1 : Int × ByteArray × Bool × Sl × Sl) =>
  M.bind (newB none T_api_Node [vi 0,Value.string (ofBytes []),Value.bool false,vsl0,vsl0]) fun x2 =>
  M.bind (stN (adr x2) [vi x1.1,Value.string x1.2.1,Value.bool x1.2.2.1,vsl x1.2.2.2.1,vsl x1.2.2.2.2]) fun x3 =>
  M.bind (ldL .sl ((adr x2).plus 3)) fun (x4 : Sl) =>
  M.bind (graph_counts_L1 n a0 (adr x2) a1 a2 a3 x4 (↑x4.len : Int) 0) fun x5 =>
  M.bind (ldL .sl ((adr x2).plus 4)) fun (x6 : Sl) =>
  M.bind (graph_counts_L2 n a0 a1 a2 a3 x6 (↑x6.len : Int) 0) fun x7 =>
  G a0 a1 a2 (IntKind.i64.wrap (a3 + 1))
 else
  M.pure ()
def graph_counts_L0 : Nat → Sl → Sl → Int → Int → M (Unit)
 | 0=>fun _ _ _ _=>M.fail
 | n + 1=>graph_counts_L0_B (graph_counts_L0 n) n
theorem graph_counts_L0_succ (n : Nat) : graph_counts_L0 (n + 1) = graph_counts_L0_B (graph_counts_L0 n) n:=rfl
def graph_counts (n : Nat) (a0 : Sl × Int) : M (Sl) :=
 M.bind (newB none T_api_Graph [vsl a0.1,vi a0.2]) fun x0 =>
 M.bind (ldL .sl ((adr x0).plus 0)) fun (x1 : Sl) =>
 M.bind (mkS none T_i64 [vi 0] (↑x1.len : Int) (↑x1.len : Int)) fun x2 =>
 M.bind (ldL (li) ((adr x0).plus 1)) fun (x3 : Int) =>
 M.bind (idxA x2 x3 1) fun x4 =>
 M.bind (ldL (li) x4) fun (x5 : Int) =>
 M.bind (idxA x2 x3 1) fun x6 =>
 M.bind (stN x6 [vi (IntKind.i64.wrap (x5 + 1))]) fun x7 =>
 M.bind (ldL .sl ((adr x0).plus 0)) fun (x8 : Sl) =>
 M.bind (graph_counts_L0 n x2 x8 (↑x8.len : Int) 0) fun x9 =>
 M.pure x2
abbrev q45_E (n : Nat) : Ent:=⟨45,[.agg [.sl,.int .i64]],[tyL],fun x=>graph_counts n x⟩
abbrev q45_L0_a : List (Nat × Ty):=[(3,tyL),(22,tyL),(23,tyI),(24,tyI)]
abbrev q45_L0_w : List Nat:=[5,7,9,24,25,26,27,28,29,30,31,32,33,34,35,36,37,38,39,40,41,42,43,44,45,46,47,48,49,50,51,52,53,54,55,56]
abbrev q45_L0_p : Path:=[0,1,0,1,1,1]
abbrev q45_L0_g (n : Nat) (x : TsDen (tys q45_L0_a)) : M (Unit):=graph_counts_L0 n (x.1) (x.2.1) (x.2.2.1) (x.2.2.2)
abbrev q45_L0_l (n : Nat) : LEnt:=⟨q45_L0_p,q45_L0_a,actL1 q45_L0_a [] q45_L0_w 0 (q45_L0_g n)⟩
abbrev q45_L1_a : List (Nat × Ty):=[(3,tyL),(5,tyA),(22,tyL),(23,tyI),(24,tyI),(29,tyL),(30,tyI),(31,tyI)]
abbrev q45_L1_w : List Nat:=[7,31,32,33,34,35,36,37,38,39,40,41]
abbrev q45_L1_p : Path:=[0,1,0,1,0,0,1,1,0,0,1,0,1,1,1]
abbrev q45_L1_g (n : Nat) (x : TsDen (tys q45_L1_a)) : M (Unit):=graph_counts_L1 n (x.1) (x.2.1) (x.2.2.1) (x.2.2.2.1) (x.2.2.2.2.1) (x.2.2.2.2.2.1) (x.2.2.2.2.2.2.1) (x.2.2.2.2.2.2.2)
abbrev q45_L1_l (n : Nat) : LEnt:=⟨q45_L1_p,q45_L1_a,actL1 q45_L1_a [] q45_L1_w 2 (q45_L1_g n)⟩
abbrev q45_L2_a : List (Nat × Ty):=[(3,tyL),(22,tyL),(23,tyI),(24,tyI),(43,tyL),(44,tyI),(45,tyI)]
abbrev q45_L2_w : List Nat:=[9,45,46,47,48,49,50,51,52,53,54,55]
abbrev q45_L2_p : Path:=[0,1,1,1,0,0,1,1,0,0,1,0,1,1,1]
abbrev q45_L2_g (n : Nat) (x : TsDen (tys q45_L2_a)) : M (Unit):=graph_counts_L2 n (x.1) (x.2.1) (x.2.2.1) (x.2.2.2.1) (x.2.2.2.2.1) (x.2.2.2.2.2.1) (x.2.2.2.2.2.2)
abbrev q45_L2_l (n : Nat) : LEnt:=⟨q45_L2_p,q45_L2_a,actL1 q45_L2_a [] q45_L2_w 4 (q45_L2_g n)⟩
abbrev q45_dt (n : Nat) : List DEnt:=[]
abbrev q45_ct (n : Nat) : List Ent:=[]
def q45_dr (i : Nat) : Option (List (Nat × List Nat)):=none
abbrev q45_L0_lt (n : Nat) : List LEnt:=[q45_L1_l n,q45_L2_l n]
abbrev q45_lt (n : Nat) : List LEnt:=[q45_L0_l n]
theorem q45_L1_ok (n : Nat) {W : Wr} (hW : subW W 58 q45_L1_w = true) : LEntOK Tryz.prog (bodyOf Tryz.f45) W (q45_L1_l n) :=
 loop1_t (bodyOf Tryz.f45) q45_L1_p q45_L1_a [] 2 58 q45_L1_w [] q45_ct q45_dt (fun _=>[]) q45_dr q45_L1_g (fun _=>[]) (by kernel_rfl) (fun _=>by kernel_rfl) (fun n x=>by kernel_rfl) n (fun m hm=>⟨.nil,.nil,.nil,.nil,.nil⟩) hW
theorem q45_L2_ok (n : Nat) {W : Wr} (hW : subW W 58 q45_L2_w = true) : LEntOK Tryz.prog (bodyOf Tryz.f45) W (q45_L2_l n) :=
 loop1_t (bodyOf Tryz.f45) q45_L2_p q45_L2_a [] 4 58 q45_L2_w [] q45_ct q45_dt (fun _=>[]) q45_dr q45_L2_g (fun _=>[]) (by kernel_rfl) (fun _=>by kernel_rfl) (fun n x=>by kernel_rfl) n (fun m hm=>⟨.nil,.nil,.nil,.nil,.nil⟩) hW
theorem q45_L0_ok (n : Nat) {W : Wr} (hW : subW W 58 q45_L0_w = true) : LEntOK Tryz.prog (bodyOf Tryz.f45) W (q45_L0_l n) :=
 loop1_t (bodyOf Tryz.f45) q45_L0_p q45_L0_a [] 0 58 q45_L0_w [] q45_ct q45_dt q45_L0_lt q45_dr q45_L0_g (fun _=>[]) (by kernel_rfl) (fun _=>by kernel_rfl) (fun n x=>by kernel_rfl) n (fun m hm=>⟨.nil,.nil,.nil,(.cons (q45_L1_ok m (by kernel_rfl)) (.cons (q45_L2_ok m (by kernel_rfl)) .nil)),.nil⟩) hW
theorem graph_counts_ok (n : Nat) : FnOK Tryz.prog (q45_E n) :=
 fn_t (q45_E n) Tryz.f45 (bodyOf Tryz.f45) [(0,.agg [.sl,.int .i64])] [] (q45_ct n) (q45_dt n) (q45_lt n) [] q45_dr (by kernel_rfl) (by kernel_rfl) (by kernel_rfl) (by kernel_rfl) (by kernel_rfl) ⟨.nil,.nil,.nil,(.cons (q45_L0_ok n (by kernel_rfl)) .nil),.nil⟩ (fun x=>by kernel_rfl)
def graph_inKeys_L1_B (G : Addr → Sl → Sl → Int → Int → Sl → Int → Int → M (Unit)) (n : Nat) (a0 : Addr) (a1 : Sl) (a2 : Sl) (a3 : Int) (a4 : Int) (a5 : Sl) (a6 : Int) (a7 : Int) : M (Unit) :=
 if decide (a7 < a6) then
  M.bind (idxA a5 a7 1) fun x0 =>
  M.bind (ldL (li) x0) fun (x1 : Int) =>
  M.bind (ldLs [.sl,li] a0) fun (x2 : Sl × Int) =>
  M.bind (graph_reached n (x2.1,x2.2) x1 a1) fun x3 =>
  G a0 a1 a2 a3 a4 a5 a6 (IntKind.i64.wrap (a7 + 1))
 else
  M.pure ()
def graph_inKeys_L1 : Nat → Addr → Sl → Sl → Int → Int → Sl → Int → Int → M (Unit)
 | 0=>fun _ _ _ _ _ _ _ _=>M.fail
 | n + 1=>graph_inKeys_L1_B (graph_inKeys_L1 n) n
theorem graph_inKeys_L1_succ (n : Nat) : graph_inKeys_L1 (n + 1) = graph_inKeys_L1_B (graph_inKeys_L1 n) n:=rfl
def graph_inKeys_L0_B (G : Addr → Sl → Sl → Int → Int → M (Unit)) (n : Nat) (a0 : Addr) (a1 : Sl) (a2 : Sl) (a3 : Int) (a4 : Int) : M (Unit) :=
 if decide (a4 < a3) then
  M.bind (idxA a2 a4 5) fun x0 =>
  M.bind (ldLs [li,.str,.bool,.sl,.sl] x0) fun (x1 : Int × ByteArray × Bool × Sl × Sl) =>
  M.bind (newB none T_api_Node [vi 0,Value.string (ofBytes []),Value.bool false,vsl0,vsl0]) fun x2 =>
  M.bind (stN (adr x2) [vi x1.1,Value.string x1.2.1,Value.bool x1.2.2.1,vsl x1.2.2.2.1,vsl x1.2.2.2.2]) fun x3 =>
  M.bind (ldL .sl ((adr x2).plus 3)) fun (x4 : Sl) =>
  M.bind (graph_inKeys_L1 n a0 a1 a2 a3 a4 x4 (↑x4.len : Int) 0) fun x5 =>
  G a0 a1 a2 a3 (IntKind.i64.wrap (a4 + 1))
 else
  M.pure ()
def graph_inKeys_L0 : Nat → Addr → Sl → Sl → Int → Int → M (Unit)
 | 0=>fun _ _ _ _ _=>M.fail
 | n + 1=>graph_inKeys_L0_B (graph_inKeys_L0 n) n
theorem graph_inKeys_L0_succ (n : Nat) : graph_inKeys_L0 (n + 1) = graph_inKeys_L0_B (graph_inKeys_L0 n) n:=rfl
def graph_inKeys (n : Nat) (a0 : Sl × Int) : M (Sl) :=
 M.bind (newB none T_api_Graph [vsl a0.1,vi a0.2]) fun x0 =>
 M.bind (ldL .sl ((adr x0).plus 0)) fun (x1 : Sl) =>
 M.bind (mkS none T_bool [Value.bool false] (↑x1.len : Int) (↑x1.len : Int)) fun x2 =>
 M.bind (ldL .sl ((adr x0).plus 0)) fun (x3 : Sl) =>
 M.bind (graph_inKeys_L0 n (adr x0) x2 x3 (↑x3.len : Int) 0) fun x4 =>
 M.pure x2
abbrev q46_E (n : Nat) : Ent:=⟨46,[.agg [.sl,.int .i64]],[tyL],fun x=>graph_inKeys n x⟩
abbrev q46_L0_a : List (Nat × Ty):=[(1,tyA),(3,tyL),(13,tyL),(14,tyI),(15,tyI)]
abbrev q46_L0_w : List Nat:=[5,7,15,16,17,18,19,20,21,22,23,24,25,26,27,28,29,30,31]
abbrev q46_L0_p : Path:=[0,1,0,1,1]
abbrev q46_L0_g (n : Nat) (x : TsDen (tys q46_L0_a)) : M (Unit):=graph_inKeys_L0 n (x.1) (x.2.1) (x.2.2.1) (x.2.2.2.1) (x.2.2.2.2)
abbrev q46_L0_l (n : Nat) : LEnt:=⟨q46_L0_p,q46_L0_a,actL1 q46_L0_a [] q46_L0_w 0 (q46_L0_g n)⟩
abbrev q46_L1_a : List (Nat × Ty):=[(1,tyA),(3,tyL),(13,tyL),(14,tyI),(15,tyI),(20,tyL),(21,tyI),(22,tyI)]
abbrev q46_L1_w : List Nat:=[7,22,23,24,25,26,27,28,29,30]
abbrev q46_L1_p : Path:=[0,1,1,0,0,1,1,0,0,1,0,1,1]
abbrev q46_L1_g (n : Nat) (x : TsDen (tys q46_L1_a)) : M (Unit):=graph_inKeys_L1 n (x.1) (x.2.1) (x.2.2.1) (x.2.2.2.1) (x.2.2.2.2.1) (x.2.2.2.2.2.1) (x.2.2.2.2.2.2.1) (x.2.2.2.2.2.2.2)
abbrev q46_L1_l (n : Nat) : LEnt:=⟨q46_L1_p,q46_L1_a,actL1 q46_L1_a [] q46_L1_w 2 (q46_L1_g n)⟩
abbrev q46_dt (n : Nat) : List DEnt:=[]
abbrev q46_ct (n : Nat) : List Ent:=[q43_E n]
def q46_dr (i : Nat) : Option (List (Nat × List Nat)):=none
abbrev q46_L0_lt (n : Nat) : List LEnt:=[q46_L1_l n]
abbrev q46_lt (n : Nat) : List LEnt:=[q46_L0_l n]
theorem q46_L1_ok (n : Nat) {W : Wr} (hW : subW W 33 q46_L1_w = true) : LEntOK Tryz.prog (bodyOf Tryz.f46) W (q46_L1_l n) :=
 loop1_t (bodyOf Tryz.f46) q46_L1_p q46_L1_a [] 2 33 q46_L1_w [] q46_ct q46_dt (fun _=>[]) q46_dr q46_L1_g (fun _=>[]) (by kernel_rfl) (fun _=>by kernel_rfl) (fun n x=>by kernel_rfl) n (fun m hm=>⟨.nil,(.cons (graph_reached_ok m) .nil),.nil,.nil,.nil⟩) hW
theorem q46_L0_ok (n : Nat) {W : Wr} (hW : subW W 33 q46_L0_w = true) : LEntOK Tryz.prog (bodyOf Tryz.f46) W (q46_L0_l n) :=
 loop1_t (bodyOf Tryz.f46) q46_L0_p q46_L0_a [] 0 33 q46_L0_w [] q46_ct q46_dt q46_L0_lt q46_dr q46_L0_g (fun _=>[]) (by kernel_rfl) (fun _=>by kernel_rfl) (fun n x=>by kernel_rfl) n (fun m hm=>⟨.nil,(.cons (graph_reached_ok m) .nil),.nil,(.cons (q46_L1_ok m (by kernel_rfl)) .nil),.nil⟩) hW
theorem graph_inKeys_ok (n : Nat) : FnOK Tryz.prog (q46_E n) :=
 fn_t (q46_E n) Tryz.f46 (bodyOf Tryz.f46) [(0,.agg [.sl,.int .i64])] [] (q46_ct n) (q46_dt n) (q46_lt n) [] q46_dr (by kernel_rfl) (by kernel_rfl) (by kernel_rfl) (by kernel_rfl) (by kernel_rfl) ⟨.nil,(.cons (graph_reached_ok n) .nil),.nil,(.cons (q46_L0_ok n (by kernel_rfl)) .nil),.nil⟩ (fun x=>by kernel_rfl)
structure Cl_graph_same where
 graph_same_L1 : Addr → Addr → Addr → Int → Int → Bool → Sl → Int → Int → Sl → Int → Int → M (Bool)
 graph_same_L0 : Addr → Addr → Addr → Sl → Int → Int → M ((Unit) ⊕ (Bool))
 graph_same_L2 : Addr → Addr → Addr → Int → Int → M ((Unit) ⊕ (Bool))
 graph_same : (Sl × Int) → Int → Int → M (Bool)
def graph_same_L1_B (G : Cl_graph_same) (n : Nat) (a0 : Addr) (a1 : Addr) (a2 : Addr) (a3 : Int) (a4 : Int) (a5 : Bool) (a6 : Sl) (a7 : Int) (a8 : Int) (a9 : Sl) (a10 : Int) (a11 : Int) : M (Bool) :=
 if decide (a11 < a10) then
  M.bind (idxA a9 a11 1) fun x0 =>
  M.bind (ldL (li) x0) fun (x1 : Int) =>
  if a5 then
   G.graph_same_L1 a0 a1 a2 a3 a4 true a6 a7 a8 a9 a10 (IntKind.i64.wrap (a11 + 1))
  else
   M.bind (ldLs [.sl,li] a0) fun (x2 : Sl × Int) =>
   M.bind (G.graph_same (x2.1,x2.2) a4 x1) fun x3 =>
   if x3 then
    M.bind (ldLs [.sl,li] a0) fun (x4 : Sl × Int) =>
    M.bind (ldL .sl (a1.plus 4)) fun (x5 : Sl) =>
    M.bind (idxA x5 a3 1) fun x6 =>
    M.bind (ldL (li) x6) fun (x7 : Int) =>
    M.bind (ldL .sl (a2.plus 4)) fun (x8 : Sl) =>
    M.bind (idxA x8 a11 1) fun x9 =>
    M.bind (ldL (li) x9) fun (x10 : Int) =>
    M.bind (G.graph_same (x4.1,x4.2) x7 x10) fun x11 =>
    G.graph_same_L1 a0 a1 a2 a3 a4 x11 a6 a7 a8 a9 a10 (IntKind.i64.wrap (a11 + 1))
   else
    G.graph_same_L1 a0 a1 a2 a3 a4 false a6 a7 a8 a9 a10 (IntKind.i64.wrap (a11 + 1))
 else
  M.pure a5
def graph_same_L0_B (G : Cl_graph_same) (n : Nat) (a0 : Addr) (a1 : Addr) (a2 : Addr) (a3 : Sl) (a4 : Int) (a5 : Int) : M ((Unit) ⊕ (Bool)) :=
 if decide (a5 < a4) then
  M.bind (idxA a3 a5 1) fun x0 =>
  M.bind (ldL (li) x0) fun (x1 : Int) =>
  M.bind (ldL .sl (a2.plus 3)) fun (x2 : Sl) =>
  M.bind (G.graph_same_L1 a0 a1 a2 a5 x1 false a3 a4 a5 x2 (↑x2.len : Int) 0) fun x3 =>
  if !x3 then
   M.pure (Sum.inr false)
  else
   G.graph_same_L0 a0 a1 a2 a3 a4 (IntKind.i64.wrap (a5 + 1))
 else
  M.pure (Sum.inl ())
def graph_same_L2_B (G : Cl_graph_same) (n : Nat) (a0 : Addr) (a1 : Addr) (a2 : Addr) (a3 : Int) (a4 : Int) : M ((Unit) ⊕ (Bool)) :=
 if decide (a4 < a3) then
  M.bind (ldL (li) (a1.plus 0)) fun (x0 : Int) =>
  if decide (x0 = 10) then
   M.bind (ldLs [.sl,li] a0) fun (x1 : Sl × Int) =>
   M.bind (ldL .sl (a1.plus 3)) fun (x2 : Sl) =>
   M.bind (idxA x2 a4 1) fun x3 =>
   M.bind (ldL (li) x3) fun (x4 : Int) =>
   M.bind (ldL .sl (a2.plus 3)) fun (x5 : Sl) =>
   M.bind (idxA x5 a4 1) fun x6 =>
   M.bind (ldL (li) x6) fun (x7 : Int) =>
   M.bind (G.graph_same (x1.1,x1.2) x4 x7) fun x8 =>
   if !x8 then
    M.pure (Sum.inr false)
   else
    M.bind (ldLs [.sl,li] a0) fun (x9 : Sl × Int) =>
    M.bind (ldL .sl (a1.plus 4)) fun (x10 : Sl) =>
    M.bind (idxA x10 a4 1) fun x11 =>
    M.bind (ldL (li) x11) fun (x12 : Int) =>
    M.bind (ldL .sl (a2.plus 4)) fun (x13 : Sl) =>
    M.bind (idxA x13 a4 1) fun x14 =>
    M.bind (ldL (li) x14) fun (x15 : Int) =>
    M.bind (G.graph_same (x9.1,x9.2) x12 x15) fun x16 =>
    if !x16 then
     M.pure (Sum.inr false)
    else
     G.graph_same_L2 a0 a1 a2 a3 (IntKind.i64.wrap (a4 + 1))
  else
   M.bind (ldLs [.sl,li] a0) fun (x1 : Sl × Int) =>
   M.bind (ldL .sl (a1.plus 4)) fun (x2 : Sl) =>
   M.bind (idxA x2 a4 1) fun x3 =>
   M.bind (ldL (li) x3) fun (x4 : Int) =>
   M.bind (ldL .sl (a2.plus 4)) fun (x5 : Sl) =>
   M.bind (idxA x5 a4 1) fun x6 =>
   M.bind (ldL (li) x6) fun (x7 : Int) =>
   M.bind (G.graph_same (x1.1,x1.2) x4 x7) fun x8 =>
   if !x8 then
    M.pure (Sum.inr false)
   else
    G.graph_same_L2 a0 a1 a2 a3 (IntKind.i64.wrap (a4 + 1))
 else
  M.pure (Sum.inl ())
def graph_same_J0_B (G : Cl_graph_same) (n : Nat) (a0 : Addr) (a1 : Addr) (a2 : Addr) : M (Bool) :=
 M.bind (ldL (li) (a1.plus 0)) fun (x0 : Int) =>
 if decide (x0 = 10) then
  M.bind (ldL .bool (a1.plus 2)) fun (x1 : Bool) =>
  if !x1 then
   M.bind (ldL .sl (a1.plus 3)) fun (x2 : Sl) =>
   M.bind (G.graph_same_L0 a0 a1 a2 x2 (↑x2.len : Int) 0) (sumElim (fun x3 =>
    M.pure true)
   (fun x3 =>
    M.pure x3))
  else
   M.bind (ldL .sl (a1.plus 4)) fun (x2 : Sl) =>
   M.bind (G.graph_same_L2 a0 a1 a2 (↑x2.len : Int) 0) (sumElim (fun x3 =>
    M.pure true)
   (fun x3 =>
    M.pure x3))
 else
  M.bind (ldL .sl (a1.plus 4)) fun (x1 : Sl) =>
  M.bind (G.graph_same_L2 a0 a1 a2 (↑x1.len : Int) 0) (sumElim (fun x2 =>
   M.pure true)
  (fun x2 =>
   M.pure x2))
def graph_same_B (G : Cl_graph_same) (n : Nat) (a0 : Sl × Int) (a1 : Int) (a2 : Int) : M (Bool) :=
 M.bind (newB none T_api_Graph [vsl a0.1,vi a0.2]) fun x0 =>
 M.bind (reserve 14) fun x1 =>
 M.bind (ldL .sl ((adr x0).plus 0)) fun (x2 : Sl) =>
 M.bind (idxA x2 a1 5) fun x3 =>
 M.bind (ldLs [li,.str,.bool,.sl,.sl] x3) fun (x4 : Int × ByteArray × Bool × Sl × Sl) =>
 M.bind (ldL .sl ((adr x0).plus 0)) fun (x5 : Sl) =>
 M.bind (idxA x5 a2 5) fun x6 =>
 M.bind (ldLs [li,.str,.bool,.sl,.sl] x6) fun (x7 : Int × ByteArray × Bool × Sl × Sl) =>
 M.bind (newB (some (x1 + 10)) T_api_Node [vi 0,Value.string (ofBytes []),Value.bool false,vsl0,vsl0]) fun x8 =>
 M.bind (newB (some (x1 + 11)) T_api_Node [vi 0,Value.string (ofBytes []),Value.bool false,vsl0,vsl0]) fun x9 =>
 M.bind (chk [some ((adr x0).plus 0),some x6] (stN (adr x8) [vi x4.1,Value.string x4.2.1,Value.bool x4.2.2.1,vsl x4.2.2.2.1,vsl x4.2.2.2.2])) fun x10 =>
 M.bind (stN (adr x9) [vi x7.1,Value.string x7.2.1,Value.bool x7.2.2.1,vsl x7.2.2.2.1,vsl x7.2.2.2.2]) fun x11 =>
 M.bind (ldL (li) ((adr x8).plus 0)) fun (x12 : Int) =>
 M.bind (ldL (li) ((adr x9).plus 0)) fun (x13 : Int) =>
 if !decide (x12 = x13) then
  M.pure false
 else
  M.bind (ldL .str ((adr x8).plus 1)) fun (x14 : ByteArray) =>
  M.bind (ldL .str ((adr x9).plus 1)) fun (x15 : ByteArray) =>
  if !eqS x14 x15 then
   M.pure false
  else
   M.bind (ldL .bool ((adr x8).plus 2)) fun (x16 : Bool) =>
   M.bind (ldL .bool ((adr x9).plus 2)) fun (x17 : Bool) =>
   if !x16 == x17 then
    M.pure false
   else
    M.bind (ldL .sl ((adr x8).plus 4)) fun (x18 : Sl) =>
    M.bind (ldL .sl ((adr x9).plus 4)) fun (x19 : Sl) =>
    if !decide ((↑x18.len : Int) = (↑x19.len : Int)) then
     M.pure false
    else
     graph_same_J0_B G n (adr x0) (adr x8) (adr x9)
def Cl_graph_same.at : Nat → Cl_graph_same
 | 0=>⟨fun _ _ _ _ _ _ _ _ _ _ _ _=>M.fail,fun _ _ _ _ _ _=>M.fail,fun _ _ _ _ _=>M.fail,fun _ _ _=>M.fail⟩
 | n + 1=>⟨graph_same_L1_B (Cl_graph_same.at n) n,graph_same_L0_B (Cl_graph_same.at n) n,graph_same_L2_B (Cl_graph_same.at n) n,graph_same_B (Cl_graph_same.at n) n⟩
def graph_same_L1 (n : Nat) (a0 : Addr) (a1 : Addr) (a2 : Addr) (a3 : Int) (a4 : Int) (a5 : Bool) (a6 : Sl) (a7 : Int) (a8 : Int) (a9 : Sl) (a10 : Int) (a11 : Int) : M (Bool):=(Cl_graph_same.at n).graph_same_L1 a0 a1 a2 a3 a4 a5 a6 a7 a8 a9 a10 a11
theorem graph_same_L1_succ (n : Nat) (a0 : Addr) (a1 : Addr) (a2 : Addr) (a3 : Int) (a4 : Int) (a5 : Bool) (a6 : Sl) (a7 : Int) (a8 : Int) (a9 : Sl) (a10 : Int) (a11 : Int) : graph_same_L1 (n + 1) a0 a1 a2 a3 a4 a5 a6 a7 a8 a9 a10 a11 = graph_same_L1_B (Cl_graph_same.at n) n a0 a1 a2 a3 a4 a5 a6 a7 a8 a9 a10 a11:=rfl
def graph_same_L0 (n : Nat) (a0 : Addr) (a1 : Addr) (a2 : Addr) (a3 : Sl) (a4 : Int) (a5 : Int) : M ((Unit) ⊕ (Bool)):=(Cl_graph_same.at n).graph_same_L0 a0 a1 a2 a3 a4 a5
theorem graph_same_L0_succ (n : Nat) (a0 : Addr) (a1 : Addr) (a2 : Addr) (a3 : Sl) (a4 : Int) (a5 : Int) : graph_same_L0 (n + 1) a0 a1 a2 a3 a4 a5 = graph_same_L0_B (Cl_graph_same.at n) n a0 a1 a2 a3 a4 a5:=rfl
def graph_same_L2 (n : Nat) (a0 : Addr) (a1 : Addr) (a2 : Addr) (a3 : Int) (a4 : Int) : M ((Unit) ⊕ (Bool)):=(Cl_graph_same.at n).graph_same_L2 a0 a1 a2 a3 a4
theorem graph_same_L2_succ (n : Nat) (a0 : Addr) (a1 : Addr) (a2 : Addr) (a3 : Int) (a4 : Int) : graph_same_L2 (n + 1) a0 a1 a2 a3 a4 = graph_same_L2_B (Cl_graph_same.at n) n a0 a1 a2 a3 a4:=rfl
def graph_same (n : Nat) (a0 : Sl × Int) (a1 : Int) (a2 : Int) : M (Bool):=(Cl_graph_same.at n).graph_same a0 a1 a2
theorem graph_same_succ (n : Nat) (a0 : Sl × Int) (a1 : Int) (a2 : Int) : graph_same (n + 1) a0 a1 a2 = graph_same_B (Cl_graph_same.at n) n a0 a1 a2:=rfl
def graph_same_J0 (n : Nat) (a0 : Addr) (a1 : Addr) (a2 : Addr) : M (Bool):=graph_same_J0_B (Cl_graph_same.at n) n a0 a1 a2
abbrev q79_E (n : Nat) : Ent:=⟨79,[.agg [.sl,.int .i64],tyI,tyI],[tyB],fun x=>graph_same n (x.1) (x.2.1) (x.2.2)⟩
abbrev q79_L0_a : List (Nat × Ty):=[(3,tyA),(7,tyA),(8,tyA),(62,tyL),(63,tyI),(64,tyI)]
abbrev q79_L0_w : List Nat:=[6,9,10,11,12,13,64,65,66,67,68,69,70,71,72,73,74,75,76,77,78,79,80,81,82,83,84,85,86,87,88,89,90,91,92,93,94,95,96,97,98,99,100,101]
abbrev q79_L0_p : Path:=[0,1,0,0,1,0,1,1,1]
abbrev q79_L0_g (n : Nat) (x : TsDen (tys q79_L0_a)) : M ((Unit) ⊕ (Bool)):=graph_same_L0 n (x.1) (x.2.1) (x.2.2.1) (x.2.2.2.1) (x.2.2.2.2.1) (x.2.2.2.2.2)
abbrev q79_L0_l (n : Nat) : LEnt:=⟨q79_L0_p,q79_L0_a,actL2 q79_L0_a [] [(6,tyB)] q79_L0_w 0 .ret (q79_L0_g n)⟩
abbrev q79_L1_a : List (Nat × Ty):=[(3,tyA),(7,tyA),(8,tyA),(9,tyI),(10,tyI),(11,tyB),(62,tyL),(63,tyI),(64,tyI),(70,tyL),(71,tyI),(72,tyI)]
abbrev q79_L1_w : List Nat:=[11,12,13,72,73,74,75,76,77,78,79,80,81,82,83,84,85,86,87,88,89,90,91,92,93,94,95,96,97,98]
abbrev q79_L1_p : Path:=[0,1,0,1,1,0,0,1,1,0,0,1,0,0,1,0,1,1,1]
abbrev q79_L1_g (n : Nat) (x : TsDen (tys q79_L1_a)) : M (Bool):=graph_same_L1 n (x.1) (x.2.1) (x.2.2.1) (x.2.2.2.1) (x.2.2.2.2.1) (x.2.2.2.2.2.1) (x.2.2.2.2.2.2.1) (x.2.2.2.2.2.2.2.1) (x.2.2.2.2.2.2.2.2.1) (x.2.2.2.2.2.2.2.2.2.1) (x.2.2.2.2.2.2.2.2.2.2.1) (x.2.2.2.2.2.2.2.2.2.2.2)
abbrev q79_L1_l (n : Nat) : LEnt:=⟨q79_L1_p,q79_L1_a,actL1 q79_L1_a [(11,tyB)] q79_L1_w 2 (q79_L1_g n)⟩
abbrev q79_L2_a : List (Nat × Ty):=[(3,tyA),(7,tyA),(8,tyA),(104,tyI),(105,tyI)]
abbrev q79_L2_w : List Nat:=[6,14,105,106,107,108,109,110,111,112,113,114,115,116,117,118,119,120,121,122,123,124,125,126,127,128,129,130,131,132,133,134,135,136,137,138,139,140,141]
abbrev q79_L2_p : Path:=[0,1,0,1,1,1,1]
abbrev q79_L2_g (n : Nat) (x : TsDen (tys q79_L2_a)) : M ((Unit) ⊕ (Bool)):=graph_same_L2 n (x.1) (x.2.1) (x.2.2.1) (x.2.2.2.1) (x.2.2.2.2)
abbrev q79_L2_l (n : Nat) : LEnt:=⟨q79_L2_p,q79_L2_a,actL2 q79_L2_a [] [(6,tyB)] q79_L2_w 4 .ret (q79_L2_g n)⟩
abbrev q79_dt (n : Nat) : List DEnt:=[]
abbrev q79_ct (n : Nat) : List Ent:=[q79_E n]
def q79_dr (i : Nat) : Option (List (Nat × List Nat)):=cond (Nat.beq i 1) (some [(0,[]),(2,[]),(5,[]),(7,[]),(1,[]),(3,[]),(4,[]),(6,[]),(8,[]),(9,[]),(10,[]),(11,[]),(12,[6,9]),(13,[])]) (cond (Nat.beq i 12) (some [(0,[]),(1,[]),(3,[]),(4,[]),(2,[]),(5,[]),(6,[]),(8,[]),(10,[]),(13,[]),(15,[]),(7,[]),(9,[]),(11,[]),(12,[]),(14,[]),(16,[]),(17,[]),(18,[]),(19,[]),(20,[]),(21,[])]) (cond (Nat.beq i 21) (some [(0,[]),(1,[]),(2,[]),(3,[]),(5,[]),(7,[]),(10,[]),(12,[]),(4,[]),(6,[]),(8,[]),(9,[]),(11,[]),(13,[]),(14,[]),(15,[]),(16,[]),(17,[]),(18,[]),(20,[]),(22,[]),(25,[]),(27,[]),(19,[]),(21,[]),(23,[]),(24,[]),(26,[]),(28,[]),(29,[]),(30,[]),(31,[]),(32,[])]) (none)))
abbrev q79_L0_lt (n : Nat) : List LEnt:=[q79_L1_l n]
abbrev q79_lt (n : Nat) : List LEnt:=[q79_L0_l n,q79_L2_l n]
abbrev q79_jt1 (n : Nat) : List (JEnt (Bool)):=[]
abbrev q79_jt0 (n : Nat) : List (JEnt (Bool)):=⟨[0,0,1,1,1],[.code [1,0,1,1,1],.code [1,1,1,1]],[(3,tyA),(7,tyA),(8,tyA)],fun x=>graph_same_J0 n (x.1) (x.2.1) (x.2.2)⟩ :: q79_jt1 n
def P_graph_same (n : Nat) : Prop:=FnOK Tryz.prog (q79_E n)
theorem q79_L1_ok (n : Nat) (H : ∀ m,m < n → P_graph_same m) {W : Wr} (hW : subW W 142 q79_L1_w = true) : LEntOK Tryz.prog (bodyOf Tryz.f79) W (q79_L1_l n) :=
 loop1_t (bodyOf Tryz.f79) q79_L1_p q79_L1_a [(11,tyB)] 2 142 q79_L1_w [] q79_ct q79_dt (fun _=>[]) q79_dr q79_L1_g (fun _=>[]) (by kernel_rfl) (fun _=>by kernel_rfl) (fun n x=>by kernel_rfl) n (fun m hm=>⟨.nil,(.cons (H m hm) .nil),.nil,.nil,.nil⟩) hW
theorem q79_L0_ok (n : Nat) (H : ∀ m,m < n → P_graph_same m) {W : Wr} (hW : subW W 142 q79_L0_w = true) : LEntOK Tryz.prog (bodyOf Tryz.f79) W (q79_L0_l n) :=
 loop2_t (bodyOf Tryz.f79) q79_L0_p q79_L0_a [] [(6,tyB)] 0 .ret 142 q79_L0_w [] q79_ct q79_dt q79_L0_lt q79_dr q79_L0_g (fun _=>[]) (by kernel_rfl) (fun _=>by kernel_rfl) (fun n x=>by kernel_rfl) n (fun m hm=>⟨.nil,(.cons (H m hm) .nil),.nil,(.cons (q79_L1_ok m (fun k hk=>H k (Nat.lt_trans hk hm)) (by kernel_rfl)) .nil),.nil⟩) hW
theorem q79_L2_ok (n : Nat) (H : ∀ m,m < n → P_graph_same m) {W : Wr} (hW : subW W 142 q79_L2_w = true) : LEntOK Tryz.prog (bodyOf Tryz.f79) W (q79_L2_l n) :=
 loop2_t (bodyOf Tryz.f79) q79_L2_p q79_L2_a [] [(6,tyB)] 4 .ret 142 q79_L2_w [] q79_ct q79_dt (fun _=>[]) q79_dr q79_L2_g (fun _=>[]) (by kernel_rfl) (fun _=>by kernel_rfl) (fun n x=>by kernel_rfl) n (fun m hm=>⟨.nil,(.cons (H m hm) .nil),.nil,.nil,.nil⟩) hW
theorem graph_same_ok_step (n : Nat) (H : ∀ m,m < n + 1 → P_graph_same m) : FnOK Tryz.prog (q79_E (n + 1)) :=
 fn_t (q79_E (n + 1)) Tryz.f79 (bodyOf Tryz.f79) [(0,.agg [.sl,.int .i64]),(1,tyI),(2,tyI)] [] (q79_ct n) (q79_dt n) (q79_lt n) (q79_jt0 n) q79_dr (by kernel_rfl) (by kernel_rfl) (by kernel_rfl) (by kernel_rfl) (by kernel_rfl) ⟨.nil,(.cons (H n (Nat.lt_succ_self n)) .nil),.nil,(.cons (q79_L0_ok n (fun k hk=>H k (Nat.lt_succ_of_lt hk)) (by kernel_rfl)) (.cons (q79_L2_ok n (fun k hk=>H k (Nat.lt_succ_of_lt hk)) (by kernel_rfl)) .nil)),(.cons (fun x=>by kernel_rfl) .nil)⟩ (fun x=>by kernel_rfl)
theorem P_graph_same_all : ∀ n m,m < n → P_graph_same m:=by
 intro n
 induction n with
 | zero=>intro m hm;exact absurd hm (Nat.not_lt_zero m)
 | succ n ih =>
  intro m hm
  cases m with
  | zero=>exact fn_zero (fn:=Tryz.f79) (by kernel_rfl) (by kernel_rfl) (by kernel_rfl) (fun _=>rfl)
  | succ k=>exact graph_same_ok_step k fun m hm=>ih m (by omega)
theorem graph_same_ok (n : Nat) : FnOK Tryz.prog (q79_E n):=(P_graph_same_all (n + 1) n (Nat.lt_succ_self n))
end Go.Sh
