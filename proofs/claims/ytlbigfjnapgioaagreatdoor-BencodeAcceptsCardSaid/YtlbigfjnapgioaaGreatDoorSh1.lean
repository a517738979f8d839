
import Derived.Test.YtlbigfjnapgioaaGreatDoorSh0
set_option maxRecDepth 100000
set_option maxHeartbeats 0
set_option linter.all false
namespace Go.Sh
open Go Go.Ago Go.Proofs
def graph_twice_L2_B (G : Addr → Option Nat → Int → Addr → Sl → Int → Int → Sl → Int → Int → Sl → Int → Int → M ((Unit) ⊕ (Bool))) (n : Nat) (a0 : Addr) (a1 : Option Nat) (a2 : Int) (a3 : Addr) (a4 : Sl) (a5 : Int) (a6 : Int) (a7 : Sl) (a8 : Int) (a9 : Int) (a10 : Sl) (a11 : Int) (a12 : Int) : M ((Unit) ⊕ (Bool)) :=
 if decide (a12 < a11) then
  M.bind (idxA a10 a12 1) fun x0 =>
  M.bind (ldL (li) x0) fun (x1 : Int) =>
  M.bind (ldLs [.sl,li] a0) fun (x2 : Sl × Int) =>
  M.bind (graph_same n (x2.1,x2.2) a2 x1) fun x3 =>
  if x3 then
   M.pure (Sum.inr true)
  else
   G a0 a1 a2 a3 a4 a5 a6 a7 a8 a9 a10 a11 (IntKind.i64.wrap (a12 + 1))
 else
  M.pure (Sum.inl ())
def graph_twice_L2 : Nat → Addr → Option Nat → Int → Addr → Sl → Int → Int → Sl → Int → Int → Sl → Int → Int → M ((Unit) ⊕ (Bool))
 | 0=>fun _ _ _ _ _ _ _ _ _ _ _ _ _=>M.fail
 | n + 1=>graph_twice_L2_B (graph_twice_L2 n) n
theorem graph_twice_L2_succ (n : Nat) : graph_twice_L2 (n + 1) = graph_twice_L2_B (graph_twice_L2 n) n:=rfl
def graph_twice_L1_B (G : Addr → Option Nat → Sl → Int → Int → Sl → Int → Int → M ((Unit) ⊕ (Bool))) (n : Nat) (a0 : Addr) (a1 : Option Nat) (a2 : Sl) (a3 : Int) (a4 : Int) (a5 : Sl) (a6 : Int) (a7 : Int) : M ((Unit) ⊕ (Bool)) :=
 if decide (a7 < a6) then
  M.bind (idxA a5 a7 1) fun x0 =>
  M.bind (ldL (li) x0) fun (x1 : Int) =>
  M.bind (reserve 15) fun x2 =>
  M.bind (ldL .sl (a0.plus 0)) fun (x3 : Sl) =>
  M.bind (idxA x3 x1 5) fun x4 =>
  M.bind (ldL (li) (x4.plus 0)) fun (x5 : Int) =>
  M.bind (ldL .sl (a0.plus 0)) fun (x6 : Sl) =>
  M.bind (idxA x6 x1 5) fun x7 =>
  M.bind (ldL .str (x7.plus 1)) fun (x8 : ByteArray) =>
  M.bind (newB (some (x2 + 13)) T_api_Step [vi 0,Value.string (ofBytes [])]) fun x9 =>
  M.bind (stN (adr x9) [vi x5,Value.string x8]) fun x10 =>
  M.bind (ldLs [li,.str] (adr x9)) fun (x11 : Int × ByteArray) =>
  M.bind (mpGet T_api_Step (Ty.one .sl) sl0 a1 (Value.agg #[vi x11.1,Value.string x11.2])) fun (x12 : Bool × Sl) =>
  M.bind (graph_twice_L2 n a0 a1 x1 (adr x9) a2 a3 a4 a5 a6 a7 x12.2 (↑x12.2.len : Int) 0) (sumElim (fun x13 =>
   M.bind (ldLs [li,.str] (adr x9)) fun (x14 : Int × ByteArray) =>
   M.bind (mpEntry T_api_Step (Ty.one .sl) sl0 a1 (Value.agg #[vi x14.1,Value.string x14.2])) fun x15 =>
   M.bind (app false x15.1 1 T_i64 1 [vi x1]) fun x16 =>
   M.bind (mpStore a1 (↑x15.2 : Int) (vsl x16)) fun x17 =>
   G a0 a1 a2 a3 a4 a5 a6 (IntKind.i64.wrap (a7 + 1)))
  (fun x13 =>
   M.pure (Sum.inr x13)))
 else
  M.pure (Sum.inl ())
def graph_twice_L1 : Nat → Addr → Option Nat → Sl → Int → Int → Sl → Int → Int → M ((Unit) ⊕ (Bool))
 | 0=>fun _ _ _ _ _ _ _ _=>M.fail
 | n + 1=>graph_twice_L1_B (graph_twice_L1 n) n
theorem graph_twice_L1_succ (n : Nat) : graph_twice_L1 (n + 1) = graph_twice_L1_B (graph_twice_L1 n) n:=rfl
def graph_twice_L0_B (G : Addr → Sl → Int → Int → M ((Unit) ⊕ (Bool))) (n : Nat) (a0 : Addr) (a1 : Sl) (a2 : Int) (a3 : Int) : M ((Unit) ⊕ (Bool)) :=
 if decide (a3 < a2) then
  M.bind (idxA a1 a3 5) fun x0 =>
  M.bind (ldLs [li,.str,.bool,.sl,.sl] x0) fun (x1 : Int × ByteArray × Bool × Sl × Sl) =>
  M.bind (newB none T_api_Node [vi 0,Value.string (ofBytes []),Value.bool false,vsl0,vsl0]) fun x2 =>
  M.bind (stN (adr x2) [vi x1.1,Value.string x1.2.1,Value.bool x1.2.2.1,vsl x1.2.2.2.1,vsl x1.2.2.2.2]) fun x3 =>
  M.bind (mpNew T_api_Step) fun x4 =>
  M.bind (ldL .sl ((adr x2).plus 3)) fun (x5 : Sl) =>
  M.bind (graph_twice_L1 n a0 (some x4) a1 a2 a3 x5 (↑x5.len : Int) 0) (sumElim (fun x6 =>
   G a0 a1 a2 (IntKind.i64.wrap (a3 + 1)))
  (fun x6 =>
   M.pure (Sum.inr x6)))
 else
  M.pure (Sum.inl ())
def graph_twice_L0 : Nat → Addr → Sl → Int → Int → M ((Unit) ⊕ (Bool))
 | 0=>fun _ _ _ _=>M.fail
 | n + 1=>graph_twice_L0_B (graph_twice_L0 n) n
theorem graph_twice_L0_succ (n : Nat) : graph_twice_L0 (n + 1) = graph_twice_L0_B (graph_twice_L0 n) n:=rfl
def graph_twice (n : Nat) (a0 : Sl × Int) : M (Bool) :=
 M.bind (newB none T_api_Graph [vsl a0.1,vi a0.2]) fun x0 =>
 M.bind (ldL .sl ((adr x0).plus 0)) fun (x1 : Sl) =>
 M.bind (graph_twice_L0 n (adr x0) x1 (↑x1.len : Int) 0) (sumElim (fun x2 =>
  M.pure false)
 (fun x2 =>
  M.pure x2))
abbrev q47_E (n : Nat) : Ent:=⟨47,[.agg [.sl,.int .i64]],[tyB],fun x=>graph_twice n x⟩
abbrev q47_L0_a : List (Nat × Ty):=[(1,tyA),(12,tyL),(13,tyI),(14,tyI)]
abbrev q47_L0_w : List Nat:=[2,4,5,7,8,10,14,15,16,17,18,19,20,21,22,23,24,25,26,27,28,29,30,31,32,33,34,35,36,37,38,39,40,41,42,43,44,45,46,47,48,49,50,51,52,53,54,55,56,57,58,59,60,61]
abbrev q47_L0_p : Path:=[0,1,0,1]
abbrev q47_L0_g (n : Nat) (x : TsDen (tys q47_L0_a)) : M ((Unit) ⊕ (Bool)):=graph_twice_L0 n (x.1) (x.2.1) (x.2.2.1) (x.2.2.2)
abbrev q47_L0_l (n : Nat) : LEnt:=⟨q47_L0_p,q47_L0_a,actL2 q47_L0_a [] [(2,tyB)] q47_L0_w 0 .ret (q47_L0_g n)⟩
abbrev q47_L1_a : List (Nat × Ty):=[(1,tyA),(5,tyM),(12,tyL),(13,tyI),(14,tyI),(20,tyL),(21,tyI),(22,tyI)]
abbrev q47_L1_w : List Nat:=[2,7,8,10,22,23,24,25,26,27,28,29,30,31,32,33,34,35,36,37,38,39,40,41,42,43,44,45,46,47,48,49,50,51,52,53,54,55,56,57,58,59,60]
abbrev q47_L1_p : Path:=[0,1,1,1,0,0,1,1,0,0,1,0,1]
abbrev q47_L1_g (n : Nat) (x : TsDen (tys q47_L1_a)) : M ((Unit) ⊕ (Bool)):=graph_twice_L1 n (x.1) (x.2.1) (x.2.2.1) (x.2.2.2.1) (x.2.2.2.2.1) (x.2.2.2.2.2.1) (x.2.2.2.2.2.2.1) (x.2.2.2.2.2.2.2)
abbrev q47_L1_l (n : Nat) : LEnt:=⟨q47_L1_p,q47_L1_a,actL2 q47_L1_a [] [(2,tyB)] q47_L1_w 2 .ret (q47_L1_g n)⟩
abbrev q47_L2_a : List (Nat × Ty):=[(1,tyA),(5,tyM),(7,tyI),(8,tyA),(12,tyL),(13,tyI),(14,tyI),(20,tyL),(21,tyI),(22,tyI),(41,tyL),(42,tyI),(43,tyI)]
abbrev q47_L2_w : List Nat:=[2,10,43,44,45,46,47,48,49,50,51]
abbrev q47_L2_p : Path:=[0,1,0,1,1,0,0,1,1,0,0,1,1,1,0,0,1,1,0,0,1,0,1]
abbrev q47_L2_g (n : Nat) (x : TsDen (tys q47_L2_a)) : M ((Unit) ⊕ (Bool)):=graph_twice_L2 n (x.1) (x.2.1) (x.2.2.1) (x.2.2.2.1) (x.2.2.2.2.1) (x.2.2.2.2.2.1) (x.2.2.2.2.2.2.1) (x.2.2.2.2.2.2.2.1) (x.2.2.2.2.2.2.2.2.1) (x.2.2.2.2.2.2.2.2.2.1) (x.2.2.2.2.2.2.2.2.2.2.1) (x.2.2.2.2.2.2.2.2.2.2.2.1) (x.2.2.2.2.2.2.2.2.2.2.2.2)
abbrev q47_L2_l (n : Nat) : LEnt:=⟨q47_L2_p,q47_L2_a,actL2 q47_L2_a [] [(2,tyB)] q47_L2_w 4 .ret (q47_L2_g n)⟩
abbrev q47_dt (n : Nat) : List DEnt:=[]
abbrev q47_ct (n : Nat) : List Ent:=[q79_E n]
def q47_dr (i : Nat) : Option (List (Nat × List Nat)):=cond (Nat.beq i 8) (some [(0,[]),(2,[]),(6,[]),(8,[]),(1,[]),(3,[]),(4,[]),(5,[]),(7,[]),(9,[]),(10,[]),(11,[]),(12,[]),(13,[]),(14,[])]) (none)
abbrev q47_L1_lt (n : Nat) : List LEnt:=[q47_L2_l n]
abbrev q47_L0_lt (n : Nat) : List LEnt:=[q47_L1_l n]
abbrev q47_lt (n : Nat) : List LEnt:=[q47_L0_l n]
theorem q47_L2_ok (n : Nat) {W : Wr} (hW : subW W 62 q47_L2_w = true) : LEntOK Tryz.prog (bodyOf Tryz.f47) W (q47_L2_l n) :=
 loop2_t (bodyOf Tryz.f47) q47_L2_p q47_L2_a [] [(2,tyB)] 4 .ret 62 q47_L2_w [] q47_ct q47_dt (fun _=>[]) q47_dr q47_L2_g (fun _=>[]) (by kernel_rfl) (fun _=>by kernel_rfl) (fun n x=>by kernel_rfl) n (fun m hm=>⟨.nil,(.cons (graph_same_ok m) .nil),.nil,.nil,.nil⟩) hW
theorem q47_L1_ok (n : Nat) {W : Wr} (hW : subW W 62 q47_L1_w = true) : LEntOK Tryz.prog (bodyOf Tryz.f47) W (q47_L1_l n) :=
 loop2_t (bodyOf Tryz.f47) q47_L1_p q47_L1_a [] [(2,tyB)] 2 .ret 62 q47_L1_w [] q47_ct q47_dt q47_L1_lt q47_dr q47_L1_g (fun _=>[]) (by kernel_rfl) (fun _=>by kernel_rfl) (fun n x=>by kernel_rfl) n (fun m hm=>⟨.nil,(.cons (graph_same_ok m) .nil),.nil,(.cons (q47_L2_ok m (by kernel_rfl)) .nil),.nil⟩) hW
theorem q47_L0_ok (n : Nat) {W : Wr} (hW : subW W 62 q47_L0_w = true) : LEntOK Tryz.prog (bodyOf Tryz.f47) W (q47_L0_l n) :=
 loop2_t (bodyOf Tryz.f47) q47_L0_p q47_L0_a [] [(2,tyB)] 0 .ret 62 q47_L0_w [] q47_ct q47_dt q47_L0_lt q47_dr q47_L0_g (fun _=>[]) (by kernel_rfl) (fun _=>by kernel_rfl) (fun n x=>by kernel_rfl) n (fun m hm=>⟨.nil,(.cons (graph_same_ok m) .nil),.nil,(.cons (q47_L1_ok m (by kernel_rfl)) .nil),.nil⟩) hW
theorem graph_twice_ok (n : Nat) : FnOK Tryz.prog (q47_E n) :=
 fn_t (q47_E n) Tryz.f47 (bodyOf Tryz.f47) [(0,.agg [.sl,.int .i64])] [] (q47_ct n) (q47_dt n) (q47_lt n) [] q47_dr (by kernel_rfl) (by kernel_rfl) (by kernel_rfl) (by kernel_rfl) (by kernel_rfl) ⟨.nil,(.cons (graph_same_ok n) .nil),.nil,(.cons (q47_L0_ok n (by kernel_rfl)) .nil),.nil⟩ (fun x=>by kernel_rfl)
structure Cl_graph_components_1 where
 graph_components_1_L2 : Addr → Addr → Addr → Addr → Addr → Int → M (Int)
 graph_components_1_L1 : Addr → Addr → Addr → Addr → Addr → Addr → Addr → Value → Sl → Int → Int → M (Unit)
 graph_components_1_L0 : Addr → Addr → Addr → Addr → Addr → Addr → Addr → Addr → Value → Sl → Int → Int → M (Unit)
 graph_components_1 : Int → Addr → Addr → Addr → Addr → Addr → Addr → Addr → Addr → Addr → M (Unit)
 graph_components_1_1 : Int → Addr → Addr → Addr → Addr → Addr → M (Unit)
def graph_components_1_D47_B (G : Cl_graph_components_1) (n : Nat) (x : Value) (a0 : Int) : M (Unit) :=
 if isFn F_graph_components_1_1 x then
  M.bind (asFn [tyA,tyA,tyA,tyA,tyA] x) fun (c : Addr × Addr × Addr × Addr × Addr)=>G.graph_components_1_1 a0 (c.1) (c.2.1) (c.2.2.1) (c.2.2.2.1) (c.2.2.2.2)
 else M.fail
def graph_components_1_D62_B (G : Cl_graph_components_1) (n : Nat) (x : Value) (a0 : Int) : M (Unit) :=
 if isFn F_graph_components_1_1 x then
  M.bind (asFn [tyA,tyA,tyA,tyA,tyA] x) fun (c : Addr × Addr × Addr × Addr × Addr)=>G.graph_components_1_1 a0 (c.1) (c.2.1) (c.2.2.1) (c.2.2.2.1) (c.2.2.2.2)
 else M.fail
def graph_components_1_1_D12_B (G : Cl_graph_components_1) (n : Nat) (x : Value) (a0 : Int) : M (Unit) :=
 if isFn F_graph_components_1 x then
  M.bind (asFn [tyA,tyA,tyA,tyA,tyA,tyA,tyA,tyA,tyA] x) fun (c : Addr × Addr × Addr × Addr × Addr × Addr × Addr × Addr × Addr)=>G.graph_components_1 a0 (c.1) (c.2.1) (c.2.2.1) (c.2.2.2.1) (c.2.2.2.2.1) (c.2.2.2.2.2.1) (c.2.2.2.2.2.2.1) (c.2.2.2.2.2.2.2.1) (c.2.2.2.2.2.2.2.2)
 else M.fail
def graph_components_1_L2_B (G : Cl_graph_components_1) (n : Nat) (a0 : Addr) (a1 : Addr) (a2 : Addr) (a3 : Addr) (a4 : Addr) (a5 : Int) : M (Int) :=
 M.bind (ldL .sl a0) fun (x0 : Sl) =>
 M.bind (ldL .sl a0) fun (x1 : Sl) =>
 M.bind (idxA x0 (IntKind.i64.wrap ((↑x1.len : Int) - 1)) 1) fun x2 =>
 M.bind (ldL (li) x2) fun (x3 : Int) =>
 M.bind (ldL .sl a0) fun (x4 : Sl) =>
 M.bind (ldL .sl a0) fun (x5 : Sl) =>
 M.bind (sliceL x4 0 (IntKind.i64.wrap ((↑x5.len : Int) - 1)) T_i64 1) fun x6 =>
 M.bind (stN a0 [vsl x6]) fun x7 =>
 M.bind (ldL .sl a1) fun (x8 : Sl) =>
 M.bind (idxA x8 x3 1) fun x9 =>
 M.bind (stN x9 [Value.bool false]) fun x10 =>
 M.bind (ldL .sl a3) fun (x11 : Sl) =>
 M.bind (ldL .sl a2) fun (x12 : Sl) =>
 M.bind (idxA x11 x3 1) fun x13 =>
 M.bind (stN x13 [vi (↑x12.len : Int)]) fun x14 =>
 M.bind (ldL (li) a4) fun (x15 : Int) =>
 if decide (x3 = x15) then
  M.pure (IntKind.i64.wrap (a5 + 1))
 else
  G.graph_components_1_L2 a0 a1 a2 a3 a4 (IntKind.i64.wrap (a5 + 1))
def graph_components_1_L1_B (G : Cl_graph_components_1) (n : Nat) (a0 : Addr) (a1 : Addr) (a2 : Addr) (a3 : Addr) (a4 : Addr) (a5 : Addr) (a6 : Addr) (a7 : Value) (a8 : Sl) (a9 : Int) (a10 : Int) : M (Unit) :=
 if decide (a10 < a9) then
  M.bind (idxA a8 a10 1) fun x0 =>
  M.bind (ldL (li) x0) fun (x1 : Int) =>
  M.bind (graph_components_1_D62_B G n a7 x1) fun x2 =>
  G.graph_components_1_L1 a0 a1 a2 a3 a4 a5 a6 a7 a8 a9 (IntKind.i64.wrap (a10 + 1))
 else
  M.pure ()
def graph_components_1_L0_B (G : Cl_graph_components_1) (n : Nat) (a0 : Addr) (a1 : Addr) (a2 : Addr) (a3 : Addr) (a4 : Addr) (a5 : Addr) (a6 : Addr) (a7 : Addr) (a8 : Value) (a9 : Sl) (a10 : Int) (a11 : Int) : M (Unit) :=
 if decide (a11 < a10) then
  M.bind (idxA a9 a11 1) fun x0 =>
  M.bind (ldL (li) x0) fun (x1 : Int) =>
  M.bind (graph_components_1_D47_B G n a8 x1) fun x2 =>
  G.graph_components_1_L0 a0 a1 a2 a3 a4 a5 a6 a7 a8 a9 a10 (IntKind.i64.wrap (a11 + 1))
 else
  M.pure ()
def graph_components_1_B (G : Cl_graph_components_1) (n : Nat) (a0 : Int) (a1 : Addr) (a2 : Addr) (a3 : Addr) (a4 : Addr) (a5 : Addr) (a6 : Addr) (a7 : Addr) (a8 : Addr) (a9 : Addr) : M (Unit) :=
 M.bind (newB none T_i64 [vi a0]) fun x0 =>
 M.bind (ldL (li) a1) fun (x1 : Int) =>
 M.bind (stN a1 [vi (IntKind.i64.wrap (x1 + 1))]) fun x2 =>
 M.bind (ldL .sl a2) fun (x3 : Sl) =>
 M.bind (ldL (li) (adr x0)) fun (x4 : Int) =>
 M.bind (ldL .sl a3) fun (x5 : Sl) =>
 M.bind (ldL (li) (adr x0)) fun (x6 : Int) =>
 M.bind (ldL (li) a1) fun (x7 : Int) =>
 M.bind (idxA x3 x4 1) fun x8 =>
 M.bind (ldL (li) a1) fun (x9 : Int) =>
 M.bind (chk [some a3,some (adr x0),some a1] (stN x8 [vi x7])) fun x10 =>
 M.bind (idxA x5 x6 1) fun x11 =>
 M.bind (stN x11 [vi x9]) fun x12 =>
 M.bind (ldL .sl a4) fun (x13 : Sl) =>
 M.bind (ldL (li) (adr x0)) fun (x14 : Int) =>
 M.bind (app false x13 1 T_i64 1 [vi x14]) fun x15 =>
 M.bind (stN a4 [vsl x15]) fun x16 =>
 M.bind (ldL .sl a5) fun (x17 : Sl) =>
 M.bind (ldL (li) (adr x0)) fun (x18 : Int) =>
 M.bind (idxA x17 x18 1) fun x19 =>
 M.bind (stN x19 [Value.bool true]) fun x20 =>
 M.bind (ldL .sl (a7.plus 0)) fun (x21 : Sl) =>
 M.bind (ldL (li) (adr x0)) fun (x22 : Int) =>
 M.bind (idxA x21 x22 5) fun x23 =>
 M.bind (ldL .sl (x23.plus 3)) fun (x24 : Sl) =>
 M.bind (G.graph_components_1_L0 a2 a3 a4 a5 a7 a8 a9 (adr x0) (Value.func (Fn.func F_graph_components_1_1) #[] #[Value.pointer (some a2),Value.pointer (some a6),Value.pointer (some a3),Value.pointer (some (adr x0)),Value.pointer (some a5)]) x24 (↑x24.len : Int) 0) fun x25 =>
 M.bind (ldL .sl (a7.plus 0)) fun (x26 : Sl) =>
 M.bind (ldL (li) (adr x0)) fun (x27 : Int) =>
 M.bind (idxA x26 x27 5) fun x28 =>
 M.bind (ldL .sl (x28.plus 4)) fun (x29 : Sl) =>
 M.bind (G.graph_components_1_L1 a2 a3 a4 a5 a8 a9 (adr x0) (Value.func (Fn.func F_graph_components_1_1) #[] #[Value.pointer (some a2),Value.pointer (some a6),Value.pointer (some a3),Value.pointer (some (adr x0)),Value.pointer (some a5)]) x29 (↑x29.len : Int) 0) fun x30 =>
 M.bind (ldL .sl a3) fun (x31 : Sl) =>
 M.bind (ldL (li) (adr x0)) fun (x32 : Int) =>
 M.bind (idxA x31 x32 1) fun x33 =>
 M.bind (ldL (li) x33) fun (x34 : Int) =>
 M.bind (ldL .sl a2) fun (x35 : Sl) =>
 M.bind (ldL (li) (adr x0)) fun (x36 : Int) =>
 M.bind (idxA x35 x36 1) fun x37 =>
 M.bind (ldL (li) x37) fun (x38 : Int) =>
 if !decide (x34 = x38) then
  M.pure ()
 else
  M.bind (G.graph_components_1_L2 a4 a5 a8 a9 (adr x0) 0) fun x39 =>
  M.bind (ldL .sl a8) fun (x40 : Sl) =>
  M.bind (app false x40 1 T_i64 1 [vi x39]) fun x41 =>
  M.bind (stN a8 [vsl x41]) fun x42 =>
  M.pure ()
def graph_components_1_1_B (G : Cl_graph_components_1) (n : Nat) (a0 : Int) (a1 : Addr) (a2 : Addr) (a3 : Addr) (a4 : Addr) (a5 : Addr) : M (Unit) :=
 M.bind (ldL .sl a1) fun (x0 : Sl) =>
 M.bind (idxA x0 a0 1) fun x1 =>
 M.bind (ldL (li) x1) fun (x2 : Int) =>
 if decide (x2 = 0) then
  M.bind (ldL .raw a2) fun (x3 : Value) =>
  M.bind (graph_components_1_1_D12_B G n x3 a0) fun x4 =>
  M.bind (ldL .sl a3) fun (x5 : Sl) =>
  M.bind (ldL (li) a4) fun (x6 : Int) =>
  M.bind (ldL .sl a3) fun (x7 : Sl) =>
  M.bind (ldL (li) a4) fun (x8 : Int) =>
  M.bind (idxA x7 x8 1) fun x9 =>
  M.bind (ldL (li) x9) fun (x10 : Int) =>
  M.bind (ldL .sl a3) fun (x11 : Sl) =>
  M.bind (idxA x11 a0 1) fun x12 =>
  M.bind (ldL (li) x12) fun (x13 : Int) =>
  M.bind (idxA x5 x6 1) fun x14 =>
  M.bind (stN x14 [vi (if x13 < x10 then x13 else x10)]) fun x15 =>
  M.pure ()
 else
  M.bind (ldL .sl a5) fun (x3 : Sl) =>
  M.bind (idxA x3 a0 1) fun x4 =>
  M.bind (ldL .bool x4) fun (x5 : Bool) =>
  if x5 then
   M.bind (ldL .sl a3) fun (x6 : Sl) =>
   M.bind (ldL (li) a4) fun (x7 : Int) =>
   M.bind (ldL .sl a3) fun (x8 : Sl) =>
   M.bind (ldL (li) a4) fun (x9 : Int) =>
   M.bind (idxA x8 x9 1) fun x10 =>
   M.bind (ldL (li) x10) fun (x11 : Int) =>
   M.bind (ldL .sl a1) fun (x12 : Sl) =>
   M.bind (idxA x12 a0 1) fun x13 =>
   M.bind (ldL (li) x13) fun (x14 : Int) =>
   M.bind (idxA x6 x7 1) fun x15 =>
   M.bind (stN x15 [vi (if x14 < x11 then x14 else x11)]) fun x16 =>
   M.pure ()
  else
   M.pure ()
def Cl_graph_components_1.at : Nat → Cl_graph_components_1
 | 0=>⟨fun _ _ _ _ _ _=>M.fail,fun _ _ _ _ _ _ _ _ _ _ _=>M.fail,fun _ _ _ _ _ _ _ _ _ _ _ _=>M.fail,fun _ _ _ _ _ _ _ _ _ _=>M.fail,fun _ _ _ _ _ _=>M.fail⟩
 | n + 1=>⟨graph_components_1_L2_B (Cl_graph_components_1.at n) n,graph_components_1_L1_B (Cl_graph_components_1.at n) n,graph_components_1_L0_B (Cl_graph_components_1.at n) n,graph_components_1_B (Cl_graph_components_1.at n) n,graph_components_1_1_B (Cl_graph_components_1.at n) n⟩
def graph_components_1_L2 (n : Nat) (a0 : Addr) (a1 : Addr) (a2 : Addr) (a3 : Addr) (a4 : Addr) (a5 : Int) : M (Int):=(Cl_graph_components_1.at n).graph_components_1_L2 a0 a1 a2 a3 a4 a5
theorem graph_components_1_L2_succ (n : Nat) (a0 : Addr) (a1 : Addr) (a2 : Addr) (a3 : Addr) (a4 : Addr) (a5 : Int) : graph_components_1_L2 (n + 1) a0 a1 a2 a3 a4 a5 = graph_components_1_L2_B (Cl_graph_components_1.at n) n a0 a1 a2 a3 a4 a5:=rfl
def graph_components_1_L1 (n : Nat) (a0 : Addr) (a1 : Addr) (a2 : Addr) (a3 : Addr) (a4 : Addr) (a5 : Addr) (a6 : Addr) (a7 : Value) (a8 : Sl) (a9 : Int) (a10 : Int) : M (Unit):=(Cl_graph_components_1.at n).graph_components_1_L1 a0 a1 a2 a3 a4 a5 a6 a7 a8 a9 a10
theorem graph_components_1_L1_succ (n : Nat) (a0 : Addr) (a1 : Addr) (a2 : Addr) (a3 : Addr) (a4 : Addr) (a5 : Addr) (a6 : Addr) (a7 : Value) (a8 : Sl) (a9 : Int) (a10 : Int) : graph_components_1_L1 (n + 1) a0 a1 a2 a3 a4 a5 a6 a7 a8 a9 a10 = graph_components_1_L1_B (Cl_graph_components_1.at n) n a0 a1 a2 a3 a4 a5 a6 a7 a8 a9 a10:=rfl
def graph_components_1_L0 (n : Nat) (a0 : Addr) (a1 : Addr) (a2 : Addr) (a3 : Addr) (a4 : Addr) (a5 : Addr) (a6 : Addr) (a7 : Addr) (a8 : Value) (a9 : Sl) (a10 : Int) (a11 : Int) : M (Unit):=(Cl_graph_components_1.at n).graph_components_1_L0 a0 a1 a2 a3 a4 a5 a6 a7 a8 a9 a10 a11
theorem graph_components_1_L0_succ (n : Nat) (a0 : Addr) (a1 : Addr) (a2 : Addr) (a3 : Addr) (a4 : Addr) (a5 : Addr) (a6 : Addr) (a7 : Addr) (a8 : Value) (a9 : Sl) (a10 : Int) (a11 : Int) : graph_components_1_L0 (n + 1) a0 a1 a2 a3 a4 a5 a6 a7 a8 a9 a10 a11 = graph_components_1_L0_B (Cl_graph_components_1.at n) n a0 a1 a2 a3 a4 a5 a6 a7 a8 a9 a10 a11:=rfl
def graph_components_1 (n : Nat) (a0 : Int) (a1 : Addr) (a2 : Addr) (a3 : Addr) (a4 : Addr) (a5 : Addr) (a6 : Addr) (a7 : Addr) (a8 : Addr) (a9 : Addr) : M (Unit):=(Cl_graph_components_1.at n).graph_components_1 a0 a1 a2 a3 a4 a5 a6 a7 a8 a9
theorem graph_components_1_succ (n : Nat) (a0 : Int) (a1 : Addr) (a2 : Addr) (a3 : Addr) (a4 : Addr) (a5 : Addr) (a6 : Addr) (a7 : Addr) (a8 : Addr) (a9 : Addr) : graph_components_1 (n + 1) a0 a1 a2 a3 a4 a5 a6 a7 a8 a9 = graph_components_1_B (Cl_graph_components_1.at n) n a0 a1 a2 a3 a4 a5 a6 a7 a8 a9:=rfl
def graph_components_1_1 (n : Nat) (a0 : Int) (a1 : Addr) (a2 : Addr) (a3 : Addr) (a4 : Addr) (a5 : Addr) : M (Unit):=(Cl_graph_components_1.at n).graph_components_1_1 a0 a1 a2 a3 a4 a5
theorem graph_components_1_1_succ (n : Nat) (a0 : Int) (a1 : Addr) (a2 : Addr) (a3 : Addr) (a4 : Addr) (a5 : Addr) : graph_components_1_1 (n + 1) a0 a1 a2 a3 a4 a5 = graph_components_1_1_B (Cl_graph_components_1.at n) n a0 a1 a2 a3 a4 a5:=rfl
def graph_components_1_D47 (n : Nat) (x : Value) (a0 : Int) : M (Unit):=graph_components_1_D47_B (Cl_graph_components_1.at n) n x a0
def graph_components_1_D62 (n : Nat) (x : Value) (a0 : Int) : M (Unit):=graph_components_1_D62_B (Cl_graph_components_1.at n) n x a0
def graph_components_1_1_D12 (n : Nat) (x : Value) (a0 : Int) : M (Unit):=graph_components_1_1_D12_B (Cl_graph_components_1.at n) n x a0
abbrev q114_E (n : Nat) : Ent:=⟨114,[tyI,tyA,tyA,tyA,tyA,tyA,tyA,tyA,tyA,tyA],[],fun x=>graph_components_1 n (x.1) (x.2.1) (x.2.2.1) (x.2.2.2.1) (x.2.2.2.2.1) (x.2.2.2.2.2.1) (x.2.2.2.2.2.2.1) (x.2.2.2.2.2.2.2.1) (x.2.2.2.2.2.2.2.2.1) (x.2.2.2.2.2.2.2.2.2)⟩
abbrev q114_L0_a : List (Nat × Ty):=[(2,tyA),(3,tyA),(4,tyA),(5,tyA),(7,tyA),(8,tyA),(9,tyA),(10,tyA),(11,tyR),(41,tyL),(42,tyI),(43,tyI)]
abbrev q114_L0_w : List Nat:=[13,43,44,45,46,47,48,49,50]
abbrev q114_L0_p : Path:=[0,1,0,1,1,1,1,1,1]
abbrev q114_L0_g (n : Nat) (x : TsDen (tys q114_L0_a)) : M (Unit):=graph_components_1_L0 n (x.1) (x.2.1) (x.2.2.1) (x.2.2.2.1) (x.2.2.2.2.1) (x.2.2.2.2.2.1) (x.2.2.2.2.2.2.1) (x.2.2.2.2.2.2.2.1) (x.2.2.2.2.2.2.2.2.1) (x.2.2.2.2.2.2.2.2.2.1) (x.2.2.2.2.2.2.2.2.2.2.1) (x.2.2.2.2.2.2.2.2.2.2.2)
abbrev q114_L0_l (n : Nat) : LEnt:=⟨q114_L0_p,q114_L0_a,actL1 q114_L0_a [] q114_L0_w 0 (q114_L0_g n)⟩
abbrev q114_L1_a : List (Nat × Ty):=[(2,tyA),(3,tyA),(4,tyA),(5,tyA),(8,tyA),(9,tyA),(10,tyA),(11,tyR),(56,tyL),(57,tyI),(58,tyI)]
abbrev q114_L1_w : List Nat:=[15,58,59,60,61,62,63,64,65]
abbrev q114_L1_p : Path:=[0,1,0,1,1,1,1,1,1,1]
abbrev q114_L1_g (n : Nat) (x : TsDen (tys q114_L1_a)) : M (Unit):=graph_components_1_L1 n (x.1) (x.2.1) (x.2.2.1) (x.2.2.2.1) (x.2.2.2.2.1) (x.2.2.2.2.2.1) (x.2.2.2.2.2.2.1) (x.2.2.2.2.2.2.2.1) (x.2.2.2.2.2.2.2.2.1) (x.2.2.2.2.2.2.2.2.2.1) (x.2.2.2.2.2.2.2.2.2.2)
abbrev q114_L1_l (n : Nat) : LEnt:=⟨q114_L1_p,q114_L1_a,actL1 q114_L1_a [] q114_L1_w 2 (q114_L1_g n)⟩
abbrev q114_L2_a : List (Nat × Ty):=[(4,tyA),(5,tyA),(8,tyA),(9,tyA),(10,tyA),(16,tyI)]
abbrev q114_L2_w : List Nat:=[16,17,75,76,77,78,79,80,81,82,83,84,85,86,87,88,89,90,91,92,93,94,95,96,97,98]
abbrev q114_L2_p : Path:=[0,0,1,1,1,1,1,1,1,1,1,1]
abbrev q114_L2_g (n : Nat) (x : TsDen (tys q114_L2_a)) : M (Int):=graph_components_1_L2 n (x.1) (x.2.1) (x.2.2.1) (x.2.2.2.1) (x.2.2.2.2.1) (x.2.2.2.2.2)
abbrev q114_L2_l (n : Nat) : LEnt:=⟨q114_L2_p,q114_L2_a,actL1 q114_L2_a [(16,tyI)] q114_L2_w 4 (q114_L2_g n)⟩
abbrev q115_E (n : Nat) : Ent:=⟨115,[tyI,tyA,tyA,tyA,tyA,tyA],[],fun x=>graph_components_1_1 n (x.1) (x.2.1) (x.2.2.1) (x.2.2.2.1) (x.2.2.2.2.1) (x.2.2.2.2.2)⟩
abbrev q114_dt (n : Nat) : List DEnt:=[⟨47,[tyI],[],fun x a=>graph_components_1_D47 n x (a)⟩,
 ⟨62,[tyI],[],fun x a=>graph_components_1_D62 n x (a)⟩]
abbrev q114_ct (n : Nat) : List Ent:=[]
def q114_dr (i : Nat) : Option (List (Nat × List Nat)):=cond (Nat.beq i 2) (some [(0,[]),(1,[]),(2,[]),(3,[]),(4,[]),(6,[]),(5,[]),(7,[2,3,5]),(8,[]),(9,[])]) (cond (Nat.beq i 16) (some [(0,[]),(1,[]),(2,[]),(3,[]),(4,[]),(5,[]),(6,[]),(7,[]),(8,[])]) (none))
abbrev q114_lt (n : Nat) : List LEnt:=[q114_L0_l n,q114_L1_l n,q114_L2_l n]
abbrev q115_dt (n : Nat) : List DEnt:=[⟨12,[tyI],[],fun x a=>graph_components_1_1_D12 n x (a)⟩]
abbrev q115_ct (n : Nat) : List Ent:=[]
def q115_dr (i : Nat) : Option (List (Nat × List Nat)):=cond (Nat.beq i 2) (some [(7,[]),(0,[]),(1,[]),(2,[]),(3,[]),(4,[]),(5,[]),(6,[]),(8,[]),(9,[]),(10,[]),(11,[]),(12,[])]) (cond (Nat.beq i 4) (some [(7,[]),(0,[]),(1,[]),(2,[]),(3,[]),(4,[]),(5,[]),(6,[]),(8,[]),(9,[]),(10,[]),(11,[]),(12,[])]) (none))
def P_graph_components_1 (n : Nat) : Prop:=FnOK Tryz.prog (q114_E n)∧FnOK Tryz.prog (q115_E n)
theorem q114_L2_ok (n : Nat) (H : ∀ m,m < n → P_graph_components_1 m) {W : Wr} (hW : subW W 103 q114_L2_w = true) : LEntOK Tryz.prog (bodyOf Tryz.f114) W (q114_L2_l n) :=
 loop1_t (bodyOf Tryz.f114) q114_L2_p q114_L2_a [(16,tyI)] 4 103 q114_L2_w [] q114_ct q114_dt (fun _=>[]) q114_dr q114_L2_g (fun _=>[]) (by kernel_rfl) (fun _=>by kernel_rfl) (fun n x=>by kernel_rfl) n (fun m hm=>⟨.nil,.nil,(.cons (dent_ok (l:=[⟨115,[tyA,tyA,tyA,tyA,tyA],fun a c=>graph_components_1_1 m (a) (c.1) (c.2.1) (c.2.2.1) (c.2.2.2.1) (c.2.2.2.2)⟩]) (.cons (fun a c=>callOK_cast (by kernel_rfl) ((H m hm).2 (a,c.1,c.2.1,c.2.2.1,c.2.2.2.1,c.2.2.2.2))) .nil) (fun x a=>by kernel_rfl)) (.cons (dent_ok (l:=[⟨115,[tyA,tyA,tyA,tyA,tyA],fun a c=>graph_components_1_1 m (a) (c.1) (c.2.1) (c.2.2.1) (c.2.2.2.1) (c.2.2.2.2)⟩]) (.cons (fun a c=>callOK_cast (by kernel_rfl) ((H m hm).2 (a,c.1,c.2.1,c.2.2.1,c.2.2.2.1,c.2.2.2.2))) .nil) (fun x a=>by kernel_rfl)) .nil)),.nil,.nil⟩) hW
theorem q114_L1_ok (n : Nat) (H : ∀ m,m < n → P_graph_components_1 m) {W : Wr} (hW : subW W 103 q114_L1_w = true) : LEntOK Tryz.prog (bodyOf Tryz.f114) W (q114_L1_l n) :=
 loop1_t (bodyOf Tryz.f114) q114_L1_p q114_L1_a [] 2 103 q114_L1_w [] q114_ct q114_dt (fun _=>[]) q114_dr q114_L1_g (fun _=>[]) (by kernel_rfl) (fun _=>by kernel_rfl) (fun n x=>by kernel_rfl) n (fun m hm=>⟨.nil,.nil,(.cons (dent_ok (l:=[⟨115,[tyA,tyA,tyA,tyA,tyA],fun a c=>graph_components_1_1 m (a) (c.1) (c.2.1) (c.2.2.1) (c.2.2.2.1) (c.2.2.2.2)⟩]) (.cons (fun a c=>callOK_cast (by kernel_rfl) ((H m hm).2 (a,c.1,c.2.1,c.2.2.1,c.2.2.2.1,c.2.2.2.2))) .nil) (fun x a=>by kernel_rfl)) (.cons (dent_ok (l:=[⟨115,[tyA,tyA,tyA,tyA,tyA],fun a c=>graph_components_1_1 m (a) (c.1) (c.2.1) (c.2.2.1) (c.2.2.2.1) (c.2.2.2.2)⟩]) (.cons (fun a c=>callOK_cast (by kernel_rfl) ((H m hm).2 (a,c.1,c.2.1,c.2.2.1,c.2.2.2.1,c.2.2.2.2))) .nil) (fun x a=>by kernel_rfl)) .nil)),.nil,.nil⟩) hW
theorem q114_L0_ok (n : Nat) (H : ∀ m,m < n → P_graph_components_1 m) {W : Wr} (hW : subW W 103 q114_L0_w = true) : LEntOK Tryz.prog (bodyOf Tryz.f114) W (q114_L0_l n) :=
 loop1_t (bodyOf Tryz.f114) q114_L0_p q114_L0_a [] 0 103 q114_L0_w [] q114_ct q114_dt (fun _=>[]) q114_dr q114_L0_g (fun _=>[]) (by kernel_rfl) (fun _=>by kernel_rfl) (fun n x=>by kernel_rfl) n (fun m hm=>⟨.nil,.nil,(.cons (dent_ok (l:=[⟨115,[tyA,tyA,tyA,tyA,tyA],fun a c=>graph_components_1_1 m (a) (c.1) (c.2.1) (c.2.2.1) (c.2.2.2.1) (c.2.2.2.2)⟩]) (.cons (fun a c=>callOK_cast (by kernel_rfl) ((H m hm).2 (a,c.1,c.2.1,c.2.2.1,c.2.2.2.1,c.2.2.2.2))) .nil) (fun x a=>by kernel_rfl)) (.cons (dent_ok (l:=[⟨115,[tyA,tyA,tyA,tyA,tyA],fun a c=>graph_components_1_1 m (a) (c.1) (c.2.1) (c.2.2.1) (c.2.2.2.1) (c.2.2.2.2)⟩]) (.cons (fun a c=>callOK_cast (by kernel_rfl) ((H m hm).2 (a,c.1,c.2.1,c.2.2.1,c.2.2.2.1,c.2.2.2.2))) .nil) (fun x a=>by kernel_rfl)) .nil)),.nil,.nil⟩) hW
theorem graph_components_1_ok_step (n : Nat) (H : ∀ m,m < n + 1 → P_graph_components_1 m) : FnOK Tryz.prog (q114_E (n + 1)) :=
 fn_t (q114_E (n + 1)) Tryz.f114 (bodyOf Tryz.f114) [(0,tyI),(1,tyA),(2,tyA),(3,tyA),(4,tyA),(5,tyA),(6,tyA),(7,tyA),(8,tyA),(9,tyA)] [] (q114_ct n) (q114_dt n) (q114_lt n) [] q114_dr (by kernel_rfl) (by kernel_rfl) (by kernel_rfl) (by kernel_rfl) (by kernel_rfl) ⟨.nil,.nil,(.cons (dent_ok (l:=[⟨115,[tyA,tyA,tyA,tyA,tyA],fun a c=>graph_components_1_1 n (a) (c.1) (c.2.1) (c.2.2.1) (c.2.2.2.1) (c.2.2.2.2)⟩]) (.cons (fun a c=>callOK_cast (by kernel_rfl) ((H n (Nat.lt_succ_self n)).2 (a,c.1,c.2.1,c.2.2.1,c.2.2.2.1,c.2.2.2.2))) .nil) (fun x a=>by kernel_rfl)) (.cons (dent_ok (l:=[⟨115,[tyA,tyA,tyA,tyA,tyA],fun a c=>graph_components_1_1 n (a) (c.1) (c.2.1) (c.2.2.1) (c.2.2.2.1) (c.2.2.2.2)⟩]) (.cons (fun a c=>callOK_cast (by kernel_rfl) ((H n (Nat.lt_succ_self n)).2 (a,c.1,c.2.1,c.2.2.1,c.2.2.2.1,c.2.2.2.2))) .nil) (fun x a=>by kernel_rfl)) .nil)),(.cons (q114_L0_ok n (fun k hk=>H k (Nat.lt_succ_of_lt hk)) (by kernel_rfl)) (.cons (q114_L1_ok n (fun k hk=>H k (Nat.lt_succ_of_lt hk)) (by kernel_rfl)) (.cons (q114_L2_ok n (fun k hk=>H k (Nat.lt_succ_of_lt hk)) (by kernel_rfl)) .nil))),.nil⟩ (fun x=>by kernel_rfl)
theorem graph_components_1_1_ok_step (n : Nat) (H : ∀ m,m < n + 1 → P_graph_components_1 m) : FnOK Tryz.prog (q115_E (n + 1)) :=
 fn_t (q115_E (n + 1)) Tryz.f115 (bodyOf Tryz.f115) [(0,tyI),(1,tyA),(2,tyA),(3,tyA),(4,tyA),(5,tyA)] [] (q115_ct n) (q115_dt n) [] [] q115_dr (by kernel_rfl) (by kernel_rfl) (by kernel_rfl) (by kernel_rfl) (by kernel_rfl) ⟨.nil,.nil,(.cons (dent_ok (l:=[⟨114,[tyA,tyA,tyA,tyA,tyA,tyA,tyA,tyA,tyA],fun a c=>graph_components_1 n (a) (c.1) (c.2.1) (c.2.2.1) (c.2.2.2.1) (c.2.2.2.2.1) (c.2.2.2.2.2.1) (c.2.2.2.2.2.2.1) (c.2.2.2.2.2.2.2.1) (c.2.2.2.2.2.2.2.2)⟩]) (.cons (fun a c=>callOK_cast (by kernel_rfl) ((H n (Nat.lt_succ_self n)).1 (a,c.1,c.2.1,c.2.2.1,c.2.2.2.1,c.2.2.2.2.1,c.2.2.2.2.2.1,c.2.2.2.2.2.2.1,c.2.2.2.2.2.2.2.1,c.2.2.2.2.2.2.2.2))) .nil) (fun x a=>by kernel_rfl)) .nil),.nil,.nil⟩ (fun x=>by kernel_rfl)
theorem P_graph_components_1_all : ∀ n m,m < n → P_graph_components_1 m:=by
 intro n
 induction n with
 | zero=>intro m hm;exact absurd hm (Nat.not_lt_zero m)
 | succ n ih =>
  intro m hm
  cases m with
  | zero=>exact ⟨fn_zero (fn:=Tryz.f114) (by kernel_rfl) (by kernel_rfl) (by kernel_rfl) (fun _=>rfl),fn_zero (fn:=Tryz.f115) (by kernel_rfl) (by kernel_rfl) (by kernel_rfl) (fun _=>rfl)⟩
  | succ k=>exact ⟨graph_components_1_ok_step k fun m hm=>ih m (by omega),graph_components_1_1_ok_step k fun m hm=>ih m (by omega)⟩
theorem graph_components_1_ok (n : Nat) : FnOK Tryz.prog (q114_E n):=(P_graph_components_1_all (n + 1) n (Nat.lt_succ_self n)).1
def graph_components_D35 (n : Nat) (x : Value) (a0 : Int) : M (Unit) :=
 if isFn F_graph_components_1 x then
  M.bind (asFn [tyA,tyA,tyA,tyA,tyA,tyA,tyA,tyA,tyA] x) fun (c : Addr × Addr × Addr × Addr × Addr × Addr × Addr × Addr × Addr)=>graph_components_1 n a0 (c.1) (c.2.1) (c.2.2.1) (c.2.2.2.1) (c.2.2.2.2.1) (c.2.2.2.2.2.1) (c.2.2.2.2.2.2.1) (c.2.2.2.2.2.2.2.1) (c.2.2.2.2.2.2.2.2)
 else M.fail
def graph_components_L0_B (G : Addr → Int → Addr → Addr → Addr → Int → Int → M (Unit)) (n : Nat) (a0 : Addr) (a1 : Int) (a2 : Addr) (a3 : Addr) (a4 : Addr) (a5 : Int) (a6 : Int) : M (Unit) :=
 if decide (a6 < a5) then
  M.bind (ldL .sl a4) fun (x0 : Sl) =>
  M.bind (idxA x0 a6 1) fun x1 =>
  M.bind (stN x1 [vi (-1)]) fun x2 =>
  G a0 a1 a2 a3 a4 a5 (IntKind.i64.wrap (a6 + 1))
 else
  M.pure ()
def graph_components_L0 : Nat → Addr → Int → Addr → Addr → Addr → Int → Int → M (Unit)
 | 0=>fun _ _ _ _ _ _ _=>M.fail
 | n + 1=>graph_components_L0_B (graph_components_L0 n) n
theorem graph_components_L0_succ (n : Nat) : graph_components_L0 (n + 1) = graph_components_L0_B (graph_components_L0 n) n:=rfl
def graph_components (n : Nat) (a0 : Sl × Int) : M (Sl × Sl) :=
 M.bind (newB none T_api_Graph [vsl a0.1,vi a0.2]) fun x0 =>
 M.bind (ldL .sl ((adr x0).plus 0)) fun (x1 : Sl) =>
 M.bind (reserve 12) fun x2 =>
 M.bind (mkS (some (x2 + 1)) T_i64 [vi 0] (↑x1.len : Int) (↑x1.len : Int)) fun x3 =>
 M.bind (mkS (some (x2 + 3)) T_i64 [vi 0] (↑x1.len : Int) (↑x1.len : Int)) fun x4 =>
 M.bind (mkS (some (x2 + 5)) T_i64 [vi 0] (↑x1.len : Int) (↑x1.len : Int)) fun x5 =>
 M.bind (newB (some (x2 + 6)) T_sl_i64 [vsl0]) fun x6 =>
 M.bind (newB (some (x2 + 7)) T_sl_i64 [vsl0]) fun x7 =>
 M.bind (newB (some (x2 + 8)) T_sl_i64 [vsl0]) fun x8 =>
 M.bind (chkK [x2 + 3,x2 + 5] (adr x6) (chk [none,none] (stN (adr x6) [vsl x3]))) fun x9 =>
 M.bind (chkK [x2 + 5] (adr x7) (chk [none] (stN (adr x7) [vsl x4]))) fun x10 =>
 M.bind (stN (adr x8) [vsl x5]) fun x11 =>
 M.bind (ldL .sl (adr x8)) fun (x12 : Sl) =>
 M.bind (graph_components_L0 n (adr x0) (↑x1.len : Int) (adr x6) (adr x7) (adr x8) (↑x12.len : Int) 0) fun x13 =>
 M.bind (newB none T_sl_i64 [vsl0]) fun x14 =>
 M.bind (newB none T_sl_i64 [vsl0]) fun x15 =>
 M.bind (mkS none T_bool [Value.bool false] (↑x1.len : Int) (↑x1.len : Int)) fun x16 =>
 M.bind (newB none T_sl_bool [vsl0]) fun x17 =>
 M.bind (stN (adr x17) [vsl x16]) fun x18 =>
 M.bind (newB none T_i64 [vi 0]) fun x19 =>
 M.bind (stN (adr x19) [vi 0]) fun x20 =>
 M.bind (newB none T_fn_i64__ [Value.nilFunc]) fun x21 =>
 M.bind (stN (adr x21) [Value.func (Fn.func F_graph_components_1) #[] #[Value.pointer (some (adr x19)),Value.pointer (some (adr x6)),Value.pointer (some (adr x7)),Value.pointer (some (adr x15)),Value.pointer (some (adr x17)),Value.pointer (some (adr x21)),Value.pointer (some (adr x0)),Value.pointer (some (adr x14)),Value.pointer (some (adr x8))]]) fun x22 =>
 M.bind (ldL .raw (adr x21)) fun (x23 : Value) =>
 M.bind (ldL (li) ((adr x0).plus 1)) fun (x24 : Int) =>
 M.bind (graph_components_D35 n x23 x24) fun x25 =>
 M.bind (ldL .sl (adr x8)) fun (x26 : Sl) =>
 M.bind (ldL .sl (adr x14)) fun (x27 : Sl) =>
 M.pure (x26,x27)
abbrev q80_E (n : Nat) : Ent:=⟨80,[.agg [.sl,.int .i64]],[tyL,tyL],fun x=>graph_components n x⟩
abbrev q80_L0_a : List (Nat × Ty):=[(1,tyA),(4,tyI),(5,tyA),(6,tyA),(7,tyA),(24,tyI),(25,tyI)]
abbrev q80_L0_w : List Nat:=[8,25,26,27,28,29,30,31]
abbrev q80_L0_p : Path:=[0,1,0,1,1,1]
abbrev q80_L0_g (n : Nat) (x : TsDen (tys q80_L0_a)) : M (Unit):=graph_components_L0 n (x.1) (x.2.1) (x.2.2.1) (x.2.2.2.1) (x.2.2.2.2.1) (x.2.2.2.2.2.1) (x.2.2.2.2.2.2)
abbrev q80_L0_l (n : Nat) : LEnt:=⟨q80_L0_p,q80_L0_a,actL1 q80_L0_a [] q80_L0_w 0 (q80_L0_g n)⟩
abbrev q80_dt (n : Nat) : List DEnt:=[⟨35,[tyI],[],fun x a=>graph_components_D35 n x (a)⟩]
abbrev q80_ct (n : Nat) : List Ent:=[]
def q80_dr (i : Nat) : Option (List (Nat × List Nat)):=cond (Nat.beq i 2) (some [(0,[]),(2,[]),(4,[]),(1,[]),(3,[]),(5,[]),(6,[]),(7,[]),(8,[]),(9,[3,5]),(10,[5]),(11,[])]) (cond (Nat.beq i 14) (some [(0,[]),(2,[]),(1,[]),(3,[])]) (none))
abbrev q80_lt (n : Nat) : List LEnt:=[q80_L0_l n]
theorem q80_L0_ok (n : Nat) {W : Wr} (hW : subW W 41 q80_L0_w = true) : LEntOK Tryz.prog (bodyOf Tryz.f80) W (q80_L0_l n) :=
 loop1_t (bodyOf Tryz.f80) q80_L0_p q80_L0_a [] 0 41 q80_L0_w [] q80_ct q80_dt (fun _=>[]) q80_dr q80_L0_g (fun _=>[]) (by kernel_rfl) (fun _=>by kernel_rfl) (fun n x=>by kernel_rfl) n (fun m hm=>⟨.nil,.nil,(.cons (dent_ok (l:=[⟨114,[tyA,tyA,tyA,tyA,tyA,tyA,tyA,tyA,tyA],fun a c=>graph_components_1 m (a) (c.1) (c.2.1) (c.2.2.1) (c.2.2.2.1) (c.2.2.2.2.1) (c.2.2.2.2.2.1) (c.2.2.2.2.2.2.1) (c.2.2.2.2.2.2.2.1) (c.2.2.2.2.2.2.2.2)⟩]) (.cons (fun a c=>callOK_cast (by kernel_rfl) ((graph_components_1_ok m) (a,c.1,c.2.1,c.2.2.1,c.2.2.2.1,c.2.2.2.2.1,c.2.2.2.2.2.1,c.2.2.2.2.2.2.1,c.2.2.2.2.2.2.2.1,c.2.2.2.2.2.2.2.2))) .nil) (fun x a=>by kernel_rfl)) .nil),.nil,.nil⟩) hW
theorem graph_components_ok (n : Nat) : FnOK Tryz.prog (q80_E n) :=
 fn_t (q80_E n) Tryz.f80 (bodyOf Tryz.f80) [(0,.agg [.sl,.int .i64])] [] (q80_ct n) (q80_dt n) (q80_lt n) [] q80_dr (by kernel_rfl) (by kernel_rfl) (by kernel_rfl) (by kernel_rfl) (by kernel_rfl) ⟨.nil,.nil,(.cons (dent_ok (l:=[⟨114,[tyA,tyA,tyA,tyA,tyA,tyA,tyA,tyA,tyA],fun a c=>graph_components_1 n (a) (c.1) (c.2.1) (c.2.2.1) (c.2.2.2.1) (c.2.2.2.2.1) (c.2.2.2.2.2.1) (c.2.2.2.2.2.2.1) (c.2.2.2.2.2.2.2.1) (c.2.2.2.2.2.2.2.2)⟩]) (.cons (fun a c=>callOK_cast (by kernel_rfl) ((graph_components_1_ok n) (a,c.1,c.2.1,c.2.2.1,c.2.2.2.1,c.2.2.2.2.1,c.2.2.2.2.2.1,c.2.2.2.2.2.2.1,c.2.2.2.2.2.2.2.1,c.2.2.2.2.2.2.2.2))) .nil) (fun x a=>by kernel_rfl)) .nil),(.cons (q80_L0_ok n (by kernel_rfl)) .nil),.nil⟩ (fun x=>by kernel_rfl)
def graph_depth_L4_B (G : Addr → Sl → Sl → Bool → Sl → Sl → Int → Int → Int → Sl → Int → Int → Sl → Int → Int → Sl → Int → Int → M (Bool)) (n : Nat) (a0 : Addr) (a1 : Sl) (a2 : Sl) (a3 : Bool) (a4 : Sl) (a5 : Sl) (a6 : Int) (a7 : Int) (a8 : Int) (a9 : Sl) (a10 : Int) (a11 : Int) (a12 : Sl) (a13 : Int) (a14 : Int) (a15 : Sl) (a16 : Int) (a17 : Int) : M (Bool) :=
 if decide (a17 < a16) then
  M.bind (idxA a15 a17 1) fun x0 =>
  M.bind (ldL (li) x0) fun (x1 : Int) =>
  M.bind (idxA a1 x1 1) fun x2 =>
  M.bind (ldL (li) x2) fun (x3 : Int) =>
  if decide (x3 = a6) then
   G a0 a1 a2 false a4 a5 a6 a7 a8 a9 a10 a11 a12 a13 a14 a15 a16 (IntKind.i64.wrap (a17 + 1))
  else
   M.bind (idxA a4 a6 1) fun x4 =>
   M.bind (idxA a1 x1 1) fun x5 =>
   M.bind (ldL (li) x4) fun (x6 : Int) =>
   M.bind (ldL (li) x5) fun (x7 : Int) =>
   M.bind (idxA a4 x7 1) fun x8 =>
   M.bind (ldL (li) x8) fun (x9 : Int) =>
   M.bind (idxA a4 a6 1) fun x10 =>
   M.bind (stN x10 [vi (if x6 < x9 then x9 else x6)]) fun x11 =>
   G a0 a1 a2 a3 a4 a5 a6 a7 a8 a9 a10 a11 a12 a13 a14 a15 a16 (IntKind.i64.wrap (a17 + 1))
 else
  M.pure a3
def graph_depth_L4 : Nat → Addr → Sl → Sl → Bool → Sl → Sl → Int → Int → Int → Sl → Int → Int → Sl → Int → Int → Sl → Int → Int → M (Bool)
 | 0=>fun _ _ _ _ _ _ _ _ _ _ _ _ _ _ _ _ _ _=>M.fail
 | n + 1=>graph_depth_L4_B (graph_depth_L4 n) n
theorem graph_depth_L4_succ (n : Nat) : graph_depth_L4 (n + 1) = graph_depth_L4_B (graph_depth_L4 n) n:=rfl
def graph_depth_L3_B (G : Addr → Sl → Sl → Bool → Sl → Sl → Int → Int → Int → Sl → Int → Int → Sl → Int → Int → M (Bool)) (n : Nat) (a0 : Addr) (a1 : Sl) (a2 : Sl) (a3 : Bool) (a4 : Sl) (a5 : Sl) (a6 : Int) (a7 : Int) (a8 : Int) (a9 : Sl) (a10 : Int) (a11 : Int) (a12 : Sl) (a13 : Int) (a14 : Int) : M (Bool) :=
 if decide (a14 < a13) then
  M.bind (idxA a12 a14 1) fun x0 =>
  M.bind (ldL .sl x0) fun (x1 : Sl) =>
  M.bind (graph_depth_L4 n a0 a1 a2 a3 a4 a5 a6 a7 a8 a9 a10 a11 a12 a13 a14 x1 (↑x1.len : Int) 0) fun x2 =>
  G a0 a1 a2 x2 a4 a5 a6 a7 a8 a9 a10 a11 a12 a13 (IntKind.i64.wrap (a14 + 1))
 else
  M.pure a3
def graph_depth_L3 : Nat → Addr → Sl → Sl → Bool → Sl → Sl → Int → Int → Int → Sl → Int → Int → Sl → Int → Int → M (Bool)
 | 0=>fun _ _ _ _ _ _ _ _ _ _ _ _ _ _ _=>M.fail
 | n + 1=>graph_depth_L3_B (graph_depth_L3 n) n
theorem graph_depth_L3_succ (n : Nat) : graph_depth_L3 (n + 1) = graph_depth_L3_B (graph_depth_L3 n) n:=rfl
def graph_depth_L2_B (G : Addr → Sl → Sl → Bool → Sl → Sl → Int → Int → Int → Sl → Int → Int → M (Bool)) (n : Nat) (a0 : Addr) (a1 : Sl) (a2 : Sl) (a3 : Bool) (a4 : Sl) (a5 : Sl) (a6 : Int) (a7 : Int) (a8 : Int) (a9 : Sl) (a10 : Int) (a11 : Int) : M (Bool) :=
 if decide (a11 < a10) then
  M.bind (idxA a9 a11 1) fun x0 =>
  M.bind (ldL (li) x0) fun (x1 : Int) =>
  M.bind (reserve 15) fun x2 =>
  M.bind (ldL .sl (a0.plus 0)) fun (x3 : Sl) =>
  M.bind (idxA x3 x1 5) fun x4 =>
  M.bind (ldL .sl (x4.plus 3)) fun (x5 : Sl) =>
  M.bind (ldL .sl (a0.plus 0)) fun (x6 : Sl) =>
  M.bind (idxA x6 x1 5) fun x7 =>
  M.bind (ldL .sl (x7.plus 4)) fun (x8 : Sl) =>
  M.bind (newB (some (x2 + 12)) T_sl_i64 [vsl x5,vsl x8]) fun x9 =>
  M.bind (graph_depth_L3 n a0 a1 a2 a3 a4 a5 a6 a7 a8 a9 a10 a11 { a:=some (adr x9),len:=2,cap:=3 } (↑2 : Int) 0) fun x10 =>
  G a0 a1 a2 x10 a4 a5 a6 a7 a8 a9 a10 (IntKind.i64.wrap (a11 + 1))
 else
  M.pure a3
def graph_depth_L2 : Nat → Addr → Sl → Sl → Bool → Sl → Sl → Int → Int → Int → Sl → Int → Int → M (Bool)
 | 0=>fun _ _ _ _ _ _ _ _ _ _ _ _=>M.fail
 | n + 1=>graph_depth_L2_B (graph_depth_L2 n) n
theorem graph_depth_L2_succ (n : Nat) : graph_depth_L2 (n + 1) = graph_depth_L2_B (graph_depth_L2 n) n:=rfl
def graph_depth_L1_B (G : Addr → Sl → Sl → Bool → Sl → Sl → Int → Int → M (Bool)) (n : Nat) (a0 : Addr) (a1 : Sl) (a2 : Sl) (a3 : Bool) (a4 : Sl) (a5 : Sl) (a6 : Int) (a7 : Int) : M (Bool) :=
 if decide (a7 < a6) then
  M.bind (idxA a5 a7 1) fun x0 =>
  M.bind (ldL .sl x0) fun (x1 : Sl) =>
  M.bind (graph_depth_L2 n a0 a1 a2 a3 a4 a5 a7 a6 a7 x1 (↑x1.len : Int) 0) fun x2 =>
  M.bind (idxA a4 a7 1) fun x3 =>
  M.bind (idxA a2 a7 1) fun x4 =>
  M.bind (ldL (li) x3) fun (x5 : Int) =>
  M.bind (ldL (li) x4) fun (x6 : Int) =>
  M.bind (idxA a4 a7 1) fun x7 =>
  M.bind (stN x7 [vi (IntKind.i64.wrap (x5 + x6))]) fun x8 =>
  G a0 a1 a2 x2 a4 a5 a6 (IntKind.i64.wrap (a7 + 1))
 else
  M.pure a3
def graph_depth_L1 : Nat → Addr → Sl → Sl → Bool → Sl → Sl → Int → Int → M (Bool)
 | 0=>fun _ _ _ _ _ _ _ _=>M.fail
 | n + 1=>graph_depth_L1_B (graph_depth_L1 n) n
theorem graph_depth_L1_succ (n : Nat) : graph_depth_L1 (n + 1) = graph_depth_L1_B (graph_depth_L1 n) n:=rfl
def graph_depth_L0_B (G : Addr → Sl → Sl → Bool → Sl → Sl → Sl → Int → Int → M (Unit)) (n : Nat) (a0 : Addr) (a1 : Sl) (a2 : Sl) (a3 : Bool) (a4 : Sl) (a5 : Sl) (a6 : Sl) (a7 : Int) (a8 : Int) : M (Unit) :=
 if decide (a8 < a7) then
  M.bind (idxA a6 a8 1) fun x0 =>
  M.bind (ldL (li) x0) fun (x1 : Int) =>
  M.bind (idxA a5 x1 1) fun x2 =>
  M.bind (ldL .sl x2) fun (x3 : Sl) =>
  M.bind (app false x3 1 T_i64 1 [vi a8]) fun x4 =>
  M.bind (idxA a5 x1 1) fun x5 =>
  M.bind (stN x5 [vsl x4]) fun x6 =>
  G a0 a1 a2 a3 a4 a5 a6 a7 (IntKind.i64.wrap (a8 + 1))
 else
  M.pure ()
def graph_depth_L0 : Nat → Addr → Sl → Sl → Bool → Sl → Sl → Sl → Int → Int → M (Unit)
 | 0=>fun _ _ _ _ _ _ _ _ _=>M.fail
 | n + 1=>graph_depth_L0_B (graph_depth_L0 n) n
theorem graph_depth_L0_succ (n : Nat) : graph_depth_L0 (n + 1) = graph_depth_L0_B (graph_depth_L0 n) n:=rfl
def graph_depth (n : Nat) (a0 : Sl × Int) : M (Int × Bool) :=
 M.bind (newB none T_api_Graph [vsl a0.1,vi a0.2]) fun x0 =>
 M.bind (ldLs [.sl,li] (adr x0)) fun (x1 : Sl × Int) =>
 M.bind (graph_components n (x1.1,x1.2)) fun x2 =>
 M.bind (mkS none T_i64 [vi 0] (↑x2.2.len : Int) (↑x2.2.len : Int)) fun x3 =>
 M.bind (mkS none T_sl_i64 [vsl0] (↑x2.2.len : Int) (↑x2.2.len : Int)) fun x4 =>
 M.bind (graph_depth_L0 n (adr x0) x2.1 x2.2 true x3 x4 x2.1 (↑x2.1.len : Int) 0) fun x5 =>
 M.bind (graph_depth_L1 n (adr x0) x2.1 x2.2 true x3 x4 (↑x2.2.len : Int) 0) fun x6 =>
 M.bind (ldL (li) ((adr x0).plus 1)) fun (x7 : Int) =>
 M.bind (idxA x2.1 x7 1) fun x8 =>
 M.bind (ldL (li) x8) fun (x9 : Int) =>
 M.bind (idxA x3 x9 1) fun x10 =>
 M.bind (ldL (li) x10) fun (x11 : Int) =>
 M.pure (IntKind.i64.wrap (x11 - 1),x6)
abbrev q48_E (n : Nat) : Ent:=⟨48,[.agg [.sl,.int .i64]],[tyI,tyB],fun x=>graph_depth n x⟩
abbrev q48_L0_a : List (Nat × Ty):=[(1,tyA),(4,tyL),(5,tyL),(6,tyB),(7,tyL),(8,tyL),(29,tyL),(30,tyI),(31,tyI)]
abbrev q48_L0_w : List Nat:=[9,10,31,32,33,34,35,36,37,38,39,40,41,42,43,44,45,46]
abbrev q48_L0_p : Path:=[0,1,0,1,1,1,1,1]
abbrev q48_L0_g (n : Nat) (x : TsDen (tys q48_L0_a)) : M (Unit):=graph_depth_L0 n (x.1) (x.2.1) (x.2.2.1) (x.2.2.2.1) (x.2.2.2.2.1) (x.2.2.2.2.2.1) (x.2.2.2.2.2.2.1) (x.2.2.2.2.2.2.2.1) (x.2.2.2.2.2.2.2.2)
abbrev q48_L0_l (n : Nat) : LEnt:=⟨q48_L0_p,q48_L0_a,actL1 q48_L0_a [] q48_L0_w 0 (q48_L0_g n)⟩
abbrev q48_L1_a : List (Nat × Ty):=[(1,tyA),(4,tyL),(5,tyL),(6,tyB),(7,tyL),(8,tyL),(48,tyI),(49,tyI)]
abbrev q48_L1_w : List Nat:=[6,11,13,15,17,49,50,51,52,53,54,55,56,57,58,59,60,61,62,63,64,65,66,67,68,69,70,71,72,73,74,75,76,77,78,79,80,81,82,83,84,85,86,87,88,89,90,91,92,93,94,95,96,97,98,99,100,101,102,103,104,105,106,107,108,109,110,111,112,113,114,115,116,117,118,119]
abbrev q48_L1_p : Path:=[0,1,0,1,1,1,1,1,1]
abbrev q48_L1_g (n : Nat) (x : TsDen (tys q48_L1_a)) : M (Bool):=graph_depth_L1 n (x.1) (x.2.1) (x.2.2.1) (x.2.2.2.1) (x.2.2.2.2.1) (x.2.2.2.2.2.1) (x.2.2.2.2.2.2.1) (x.2.2.2.2.2.2.2)
abbrev q48_L1_l (n : Nat) : LEnt:=⟨q48_L1_p,q48_L1_a,actL1 q48_L1_a [(6,tyB)] q48_L1_w 2 (q48_L1_g n)⟩
abbrev q48_L2_a : List (Nat × Ty):=[(1,tyA),(4,tyL),(5,tyL),(6,tyB),(7,tyL),(8,tyL),(11,tyI),(48,tyI),(49,tyI),(55,tyL),(56,tyI),(57,tyI)]
abbrev q48_L2_w : List Nat:=[6,13,15,17,57,58,59,60,61,62,63,64,65,66,67,68,69,70,71,72,73,74,75,76,77,78,79,80,81,82,83,84,85,86,87,88,89,90,91,92,93,94,95,96,97,98,99,100,101,102,103,104,105,106,107,108]
abbrev q48_L2_p : Path:=[0,1,0,1,0,0,1,1,0,0,1,0,1,1,1,1,1,1]
abbrev q48_L2_g (n : Nat) (x : TsDen (tys q48_L2_a)) : M (Bool):=graph_depth_L2 n (x.1) (x.2.1) (x.2.2.1) (x.2.2.2.1) (x.2.2.2.2.1) (x.2.2.2.2.2.1) (x.2.2.2.2.2.2.1) (x.2.2.2.2.2.2.2.1) (x.2.2.2.2.2.2.2.2.1) (x.2.2.2.2.2.2.2.2.2.1) (x.2.2.2.2.2.2.2.2.2.2.1) (x.2.2.2.2.2.2.2.2.2.2.2)
abbrev q48_L2_l (n : Nat) : LEnt:=⟨q48_L2_p,q48_L2_a,actL1 q48_L2_a [(6,tyB)] q48_L2_w 4 (q48_L2_g n)⟩
abbrev q48_L3_a : List (Nat × Ty):=[(1,tyA),(4,tyL),(5,tyL),(6,tyB),(7,tyL),(8,tyL),(11,tyI),(48,tyI),(49,tyI),(55,tyL),(56,tyI),(57,tyI),(73,tyL),(74,tyI),(75,tyI)]
abbrev q48_L3_w : List Nat:=[6,15,17,75,76,77,78,79,80,81,82,83,84,85,86,87,88,89,90,91,92,93,94,95,96,97,98,99,100,101,102,103,104,105,106,107]
abbrev q48_L3_p : Path:=[0,1,1,0,0,1,1,0,0,1,0,1,0,0,1,1,0,0,1,0,1,1,1,1,1,1]
abbrev q48_L3_g (n : Nat) (x : TsDen (tys q48_L3_a)) : M (Bool):=graph_depth_L3 n (x.1) (x.2.1) (x.2.2.1) (x.2.2.2.1) (x.2.2.2.2.1) (x.2.2.2.2.2.1) (x.2.2.2.2.2.2.1) (x.2.2.2.2.2.2.2.1) (x.2.2.2.2.2.2.2.2.1) (x.2.2.2.2.2.2.2.2.2.1) (x.2.2.2.2.2.2.2.2.2.2.1) (x.2.2.2.2.2.2.2.2.2.2.2.1) (x.2.2.2.2.2.2.2.2.2.2.2.2.1) (x.2.2.2.2.2.2.2.2.2.2.2.2.2.1) (x.2.2.2.2.2.2.2.2.2.2.2.2.2.2)
abbrev q48_L3_l (n : Nat) : LEnt:=⟨q48_L3_p,q48_L3_a,actL1 q48_L3_a [(6,tyB)] q48_L3_w 6 (q48_L3_g n)⟩
abbrev q48_L4_a : List (Nat × Ty):=[(1,tyA),(4,tyL),(5,tyL),(6,tyB),(7,tyL),(8,tyL),(11,tyI),(48,tyI),(49,tyI),(55,tyL),(56,tyI),(57,tyI),(73,tyL),(74,tyI),(75,tyI),(79,tyL),(80,tyI),(81,tyI)]
abbrev q48_L4_w : List Nat:=[6,17,81,82,83,84,85,86,87,88,89,90,91,92,93,94,95,96,97,98,99,100,101,102,103,104,105,106]
abbrev q48_L4_p : Path:=[0,1,1,0,0,1,1,0,0,1,1,0,0,1,1,0,0,1,0,1,0,0,1,1,0,0,1,0,1,1,1,1,1,1]
abbrev q48_L4_g (n : Nat) (x : TsDen (tys q48_L4_a)) : M (Bool):=graph_depth_L4 n (x.1) (x.2.1) (x.2.2.1) (x.2.2.2.1) (x.2.2.2.2.1) (x.2.2.2.2.2.1) (x.2.2.2.2.2.2.1) (x.2.2.2.2.2.2.2.1) (x.2.2.2.2.2.2.2.2.1) (x.2.2.2.2.2.2.2.2.2.1) (x.2.2.2.2.2.2.2.2.2.2.1) (x.2.2.2.2.2.2.2.2.2.2.2.1) (x.2.2.2.2.2.2.2.2.2.2.2.2.1) (x.2.2.2.2.2.2.2.2.2.2.2.2.2.1) (x.2.2.2.2.2.2.2.2.2.2.2.2.2.2.1) (x.2.2.2.2.2.2.2.2.2.2.2.2.2.2.2.1) (x.2.2.2.2.2.2.2.2.2.2.2.2.2.2.2.2.1) (x.2.2.2.2.2.2.2.2.2.2.2.2.2.2.2.2.2)
abbrev q48_L4_l (n : Nat) : LEnt:=⟨q48_L4_p,q48_L4_a,actL1 q48_L4_a [(6,tyB)] q48_L4_w 8 (q48_L4_g n)⟩
abbrev q48_dt (n : Nat) : List DEnt:=[]
abbrev q48_ct (n : Nat) : List Ent:=[q80_E n]
def q48_dr (i : Nat) : Option (List (Nat × List Nat)):=cond (Nat.beq i 16) (some [(0,[]),(2,[]),(6,[]),(8,[]),(14,[]),(1,[]),(3,[]),(4,[]),(5,[]),(7,[]),(9,[]),(10,[]),(11,[]),(12,[]),(13,[])]) (cond (Nat.beq i 24) (some [(0,[]),(1,[]),(2,[]),(3,[]),(4,[]),(6,[]),(7,[]),(8,[]),(9,[]),(5,[]),(10,[]),(11,[]),(12,[]),(13,[]),(14,[]),(15,[])]) (cond (Nat.beq i 28) (some [(0,[]),(1,[]),(2,[]),(4,[]),(5,[]),(6,[]),(3,[]),(7,[]),(8,[]),(9,[]),(10,[])]) (none)))
abbrev q48_L3_lt (n : Nat) : List LEnt:=[q48_L4_l n]
abbrev q48_L2_lt (n : Nat) : List LEnt:=[q48_L3_l n]
abbrev q48_L1_lt (n : Nat) : List LEnt:=[q48_L2_l n]
abbrev q48_lt (n : Nat) : List LEnt:=[q48_L0_l n,q48_L1_l n]
theorem q48_L4_ok (n : Nat) {W : Wr} (hW : subW W 130 q48_L4_w = true) : LEntOK Tryz.prog (bodyOf Tryz.f48) W (q48_L4_l n) :=
 loop1_t (bodyOf Tryz.f48) q48_L4_p q48_L4_a [(6,tyB)] 8 130 q48_L4_w [] q48_ct q48_dt (fun _=>[]) q48_dr q48_L4_g (fun _=>[]) (by kernel_rfl) (fun _=>by kernel_rfl) (fun n x=>by kernel_rfl) n (fun m hm=>⟨.nil,(.cons (graph_components_ok m) .nil),.nil,.nil,.nil⟩) hW
theorem q48_L3_ok (n : Nat) {W : Wr} (hW : subW W 130 q48_L3_w = true) : LEntOK Tryz.prog (bodyOf Tryz.f48) W (q48_L3_l n) :=
 loop1_t (bodyOf Tryz.f48) q48_L3_p q48_L3_a [(6,tyB)] 6 130 q48_L3_w [] q48_ct q48_dt q48_L3_lt q48_dr q48_L3_g (fun _=>[]) (by kernel_rfl) (fun _=>by kernel_rfl) (fun n x=>by kernel_rfl) n (fun m hm=>⟨.nil,(.cons (graph_components_ok m) .nil),.nil,(.cons (q48_L4_ok m (by kernel_rfl)) .nil),.nil⟩) hW
theorem q48_L2_ok (n : Nat) {W : Wr} (hW : subW W 130 q48_L2_w = true) : LEntOK Tryz.prog (bodyOf Tryz.f48) W (q48_L2_l n) :=
 loop1_t (bodyOf Tryz.f48) q48_L2_p q48_L2_a [(6,tyB)] 4 130 q48_L2_w [] q48_ct q48_dt q48_L2_lt q48_dr q48_L2_g (fun _=>[]) (by kernel_rfl) (fun _=>by kernel_rfl) (fun n x=>by kernel_rfl) n (fun m hm=>⟨.nil,(.cons (graph_components_ok m) .nil),.nil,(.cons (q48_L3_ok m (by kernel_rfl)) .nil),.nil⟩) hW
theorem q48_L1_ok (n : Nat) {W : Wr} (hW : subW W 130 q48_L1_w = true) : LEntOK Tryz.prog (bodyOf Tryz.f48) W (q48_L1_l n) :=
 loop1_t (bodyOf Tryz.f48) q48_L1_p q48_L1_a [(6,tyB)] 2 130 q48_L1_w [] q48_ct q48_dt q48_L1_lt q48_dr q48_L1_g (fun _=>[]) (by kernel_rfl) (fun _=>by kernel_rfl) (fun n x=>by kernel_rfl) n (fun m hm=>⟨.nil,(.cons (graph_components_ok m) .nil),.nil,(.cons (q48_L2_ok m (by kernel_rfl)) .nil),.nil⟩) hW
theorem q48_L0_ok (n : Nat) {W : Wr} (hW : subW W 130 q48_L0_w = true) : LEntOK Tryz.prog (bodyOf Tryz.f48) W (q48_L0_l n) :=
 loop1_t (bodyOf Tryz.f48) q48_L0_p q48_L0_a [] 0 130 q48_L0_w [] q48_ct q48_dt (fun _=>[]) q48_dr q48_L0_g (fun _=>[]) (by kernel_rfl) (fun _=>by kernel_rfl) (fun n x=>by kernel_rfl) n (fun m hm=>⟨.nil,(.cons (graph_components_ok m) .nil),.nil,.nil,.nil⟩) hW
theorem graph_depth_ok (n : Nat) : FnOK Tryz.prog (q48_E n) :=
 fn_t (q48_E n) Tryz.f48 (bodyOf Tryz.f48) [(0,.agg [.sl,.int .i64])] [] (q48_ct n) (q48_dt n) (q48_lt n) [] q48_dr (by kernel_rfl) (by kernel_rfl) (by kernel_rfl) (by kernel_rfl) (by kernel_rfl) ⟨.nil,(.cons (graph_components_ok n) .nil),.nil,(.cons (q48_L0_ok n (by kernel_rfl)) (.cons (q48_L1_ok n (by kernel_rfl)) .nil)),.nil⟩ (fun x=>by kernel_rfl)
def graph_Check_L1_B (G : Addr → Sl → Sl → Int → Int → M ((Unit) ⊕ (Int))) (n : Nat) (a0 : Addr) (a1 : Sl) (a2 : Sl) (a3 : Int) (a4 : Int) : M ((Unit) ⊕ (Int)) :=
 if decide (a4 < a3) then
  M.bind (idxA a2 a4 1) fun x0 =>
  M.bind (ldL .bool x0) fun (x1 : Bool) =>
  if x1 then
   M.bind (idxA a1 a4 1) fun x2 =>
   M.bind (ldL (li) x2) fun (x3 : Int) =>
   if !decide (x3 = 1) then
    M.pure (Sum.inr 3)
   else
    G a0 a1 a2 a3 (IntKind.i64.wrap (a4 + 1))
  else
   G a0 a1 a2 a3 (IntKind.i64.wrap (a4 + 1))
 else
  M.pure (Sum.inl ())
def graph_Check_L1 : Nat → Addr → Sl → Sl → Int → Int → M ((Unit) ⊕ (Int))
 | 0=>fun _ _ _ _ _=>M.fail
 | n + 1=>graph_Check_L1_B (graph_Check_L1 n) n
theorem graph_Check_L1_succ (n : Nat) : graph_Check_L1 (n + 1) = graph_Check_L1_B (graph_Check_L1 n) n:=rfl
def graph_Check_L0_B (G : Addr → Sl → Sl → Int → Int → M ((Unit) ⊕ (Int))) (n : Nat) (a0 : Addr) (a1 : Sl) (a2 : Sl) (a3 : Int) (a4 : Int) : M ((Unit) ⊕ (Int)) :=
 if decide (a4 < a3) then
  M.bind (idxA a2 a4 5) fun x0 =>
  M.bind (ldLs [li,.str,.bool,.sl,.sl] x0) fun (x1 : Int × ByteArray × Bool × Sl × Sl) =>
  M.bind (newB none T_api_Node [vi 0,Value.string (ofBytes []),Value.bool false,vsl0,vsl0]) fun x2 =>
  M.bind (stN (adr x2) [vi x1.1,Value.string x1.2.1,Value.bool x1.2.2.1,vsl x1.2.2.2.1,vsl x1.2.2.2.2]) fun x3 =>
  M.bind (idxA a1 a4 1) fun x4 =>
  M.bind (ldL .bool x4) fun (x5 : Bool) =>
  if !x5 then
   M.pure (Sum.inr 3)
  else
   M.bind (ldLs [li,.str,.bool,.sl,.sl] (adr x2)) fun (x6 : Int × ByteArray × Bool × Sl × Sl) =>
   M.bind (graph_form n (x6.1,x6.2.1,x6.2.2.1,x6.2.2.2.1,x6.2.2.2.2)) fun x7 =>
   if !x7 then
    M.pure (Sum.inr 3)
   else
    G a0 a1 a2 a3 (IntKind.i64.wrap (a4 + 1))
 else
  M.pure (Sum.inl ())
def graph_Check_L0 : Nat → Addr → Sl → Sl → Int → Int → M ((Unit) ⊕ (Int))
 | 0=>fun _ _ _ _ _=>M.fail
 | n + 1=>graph_Check_L0_B (graph_Check_L0 n) n
theorem graph_Check_L0_succ (n : Nat) : graph_Check_L0 (n + 1) = graph_Check_L0_B (graph_Check_L0 n) n:=rfl
def graph_Check_J0 (n : Nat) (a0 : Addr) : M (Int) :=
 M.bind (ldL .sl (a0.plus 0)) fun (x0 : Sl) =>
 M.bind (mkS none T_bool [Value.bool false] (↑x0.len : Int) (↑x0.len : Int)) fun x1 =>
 M.bind (ldLs [.sl,li] a0) fun (x2 : Sl × Int) =>
 M.bind (ldL (li) (a0.plus 1)) fun (x3 : Int) =>
 M.bind (graph_reached n (x2.1,x2.2) x3 x1) fun x4 =>
 M.bind (ldL .sl (a0.plus 0)) fun (x5 : Sl) =>
 M.bind (graph_Check_L0 n a0 x1 x5 (↑x5.len : Int) 0) (sumElim (fun x6 =>
  M.bind (ldLs [.sl,li] a0) fun (x7 : Sl × Int) =>
  M.bind (graph_counts n (x7.1,x7.2)) fun x8 =>
  M.bind (ldLs [.sl,li] a0) fun (x9 : Sl × Int) =>
  M.bind (graph_inKeys n (x9.1,x9.2)) fun x10 =>
  M.bind (graph_Check_L1 n a0 x8 x10 (↑x10.len : Int) 0) (sumElim (fun x11 =>
   M.bind (ldLs [.sl,li] a0) fun (x12 : Sl × Int) =>
   M.bind (graph_twice n (x12.1,x12.2)) fun x13 =>
   if x13 then
    M.pure 8
   else
    M.bind (ldLs [.sl,li] a0) fun (x14 : Sl × Int) =>
    M.bind (graph_depth n (x14.1,x14.2)) fun x15 =>
    if decide (32 < x15.1) then
     M.pure 5
    else
     M.pure 0)
  (fun x11 =>
   M.pure x11)))
 (fun x6 =>
  M.pure x6))
def graph_Check (n : Nat) (a0 : Sl × Int) : M (Int) :=
 M.bind (newB none T_api_Graph [vsl a0.1,vi a0.2]) fun x0 =>
 M.bind (ldL .sl ((adr x0).plus 0)) fun (x1 : Sl) =>
 if decide (4096 < (↑x1.len : Int)) then
  M.pure 7
 else
  M.bind (ldL .sl ((adr x0).plus 0)) fun (x2 : Sl) =>
  if decide ((↑x2.len : Int) = 0) then
   M.pure 3
  else
   M.bind (ldLs [.sl,li] (adr x0)) fun (x3 : Sl × Int) =>
   M.bind (graph_indices n (x3.1,x3.2)) fun x4 =>
   if !x4 then
    M.pure 3
   else
    graph_Check_J0 n (adr x0)
abbrev q15_E (n : Nat) : Ent:=⟨15,[.agg [.sl,.int .i64]],[tyI],fun x=>graph_Check n x⟩
abbrev q15_L0_a : List (Nat × Ty):=[(1,tyA),(3,tyL),(34,tyL),(35,tyI),(36,tyI)]
abbrev q15_L0_w : List Nat:=[2,4,5,36,37,38,39,40,41,42,43,44,45,46,47,48,49,50,51]
abbrev q15_L0_p : Path:=[0,1,0,1,1,1,1,1]
abbrev q15_L0_g (n : Nat) (x : TsDen (tys q15_L0_a)) : M ((Unit) ⊕ (Int)):=graph_Check_L0 n (x.1) (x.2.1) (x.2.2.1) (x.2.2.2.1) (x.2.2.2.2)
abbrev q15_L0_l (n : Nat) : LEnt:=⟨q15_L0_p,q15_L0_a,actL2 q15_L0_a [] [(2,tyI)] q15_L0_w 0 .ret (q15_L0_g n)⟩
abbrev q15_L1_a : List (Nat × Ty):=[(1,tyA),(6,tyL),(55,tyL),(56,tyI),(57,tyI)]
abbrev q15_L1_w : List Nat:=[2,7,8,57,58,59,60,61,62,63,64,65,66,67,68,69,70]
abbrev q15_L1_p : Path:=[0,1,0,1,1,1,1,1,1,1]
abbrev q15_L1_g (n : Nat) (x : TsDen (tys q15_L1_a)) : M ((Unit) ⊕ (Int)):=graph_Check_L1 n (x.1) (x.2.1) (x.2.2.1) (x.2.2.2.1) (x.2.2.2.2)
abbrev q15_L1_l (n : Nat) : LEnt:=⟨q15_L1_p,q15_L1_a,actL2 q15_L1_a [] [(2,tyI)] q15_L1_w 2 .ret (q15_L1_g n)⟩
abbrev q15_dt (n : Nat) : List DEnt:=[]
abbrev q15_ct (n : Nat) : List Ent:=[q42_E n,q43_E n,q44_E n,q45_E n,q46_E n,q47_E n,q48_E n]
def q15_dr (i : Nat) : Option (List (Nat × List Nat)):=none
abbrev q15_lt (n : Nat) : List LEnt:=[q15_L0_l n,q15_L1_l n]
abbrev q15_jt1 (n : Nat) : List (JEnt (Int)):=[]
abbrev q15_jt0 (n : Nat) : List (JEnt (Int)):=⟨[0,1,1,1],[.code [1,1,1,1]],[(1,tyA)],fun x=>graph_Check_J0 n x⟩ :: q15_jt1 n
theorem q15_L1_ok (n : Nat) {W : Wr} (hW : subW W 80 q15_L1_w = true) : LEntOK Tryz.prog (bodyOf Tryz.f15) W (q15_L1_l n) :=
 loop2_t (bodyOf Tryz.f15) q15_L1_p q15_L1_a [] [(2,tyI)] 2 .ret 80 q15_L1_w [] q15_ct q15_dt (fun _=>[]) q15_dr q15_L1_g (fun _=>[]) (by kernel_rfl) (fun _=>by kernel_rfl) (fun n x=>by kernel_rfl) n (fun m hm=>⟨.nil,(.cons (graph_indices_ok m) (.cons (graph_reached_ok m) (.cons (graph_form_ok m) (.cons (graph_counts_ok m) (.cons (graph_inKeys_ok m) (.cons (graph_twice_ok m) (.cons (graph_depth_ok m) .nil))))))),.nil,.nil,.nil⟩) hW
theorem q15_L0_ok (n : Nat) {W : Wr} (hW : subW W 80 q15_L0_w = true) : LEntOK Tryz.prog (bodyOf Tryz.f15) W (q15_L0_l n) :=
 loop2_t (bodyOf Tryz.f15) q15_L0_p q15_L0_a [] [(2,tyI)] 0 .ret 80 q15_L0_w [] q15_ct q15_dt (fun _=>[]) q15_dr q15_L0_g (fun _=>[]) (by kernel_rfl) (fun _=>by kernel_rfl) (fun n x=>by kernel_rfl) n (fun m hm=>⟨.nil,(.cons (graph_indices_ok m) (.cons (graph_reached_ok m) (.cons (graph_form_ok m) (.cons (graph_counts_ok m) (.cons (graph_inKeys_ok m) (.cons (graph_twice_ok m) (.cons (graph_depth_ok m) .nil))))))),.nil,.nil,.nil⟩) hW
theorem graph_Check_ok (n : Nat) : FnOK Tryz.prog (q15_E n) :=
 fn_t (q15_E n) Tryz.f15 (bodyOf Tryz.f15) [(0,.agg [.sl,.int .i64])] [] (q15_ct n) (q15_dt n) (q15_lt n) (q15_jt0 n) q15_dr (by kernel_rfl) (by kernel_rfl) (by kernel_rfl) (by kernel_rfl) (by kernel_rfl) ⟨.nil,(.cons (graph_indices_ok n) (.cons (graph_reached_ok n) (.cons (graph_form_ok n) (.cons (graph_counts_ok n) (.cons (graph_inKeys_ok n) (.cons (graph_twice_ok n) (.cons (graph_depth_ok n) .nil))))))),.nil,(.cons (q15_L0_ok n (by kernel_rfl)) (.cons (q15_L1_ok n (by kernel_rfl)) .nil)),(.cons (fun x=>by kernel_rfl) .nil)⟩ (fun x=>by kernel_rfl)
def span_Check_1 (n : Nat) (a0 : Addr) : M (Bool × Int) :=
 M.bind (ldL (li) (a0.plus 0)) fun (x0 : Int) =>
 if decide (0 ≤ x0) then
  M.bind (ldL (li) (a0.plus 0)) fun (x1 : Int) =>
  M.pure (decide (x1 < 9),1)
 else
  M.pure (false,1)
abbrev q34_E (n : Nat) : Ent:=⟨34,[tyA],[tyB,tyI],fun x=>span_Check_1 n x⟩
abbrev q34_dt (n : Nat) : List DEnt:=[]
abbrev q34_ct (n : Nat) : List Ent:=[]
def q34_dr (i : Nat) : Option (List (Nat × List Nat)):=none
theorem span_Check_1_ok (n : Nat) : FnOK Tryz.prog (q34_E n) :=
 fn_t (q34_E n) Tryz.f34 (bodyOf Tryz.f34) [(0,tyA)] [] (q34_ct n) (q34_dt n) [] [] q34_dr (by kernel_rfl) (by kernel_rfl) (by kernel_rfl) (by kernel_rfl) (by kernel_rfl) ⟨.nil,.nil,.nil,.nil,.nil⟩ (fun x=>by kernel_rfl)
def span_Check_2 (n : Nat) (a0 : Addr) : M (Bool × Int) :=
 M.bind (ldL .str (a0.plus 1)) fun (x0 : ByteArray) =>
 M.pure (decide ((↑(ByteArray.size x0) : Int) ≤ 65536),6)
abbrev q35_E (n : Nat) : Ent:=⟨35,[tyA],[tyB,tyI],fun x=>span_Check_2 n x⟩
abbrev q35_dt (n : Nat) : List DEnt:=[]
abbrev q35_ct (n : Nat) : List Ent:=[]
def q35_dr (i : Nat) : Option (List (Nat × List Nat)):=none
theorem span_Check_2_ok (n : Nat) : FnOK Tryz.prog (q35_E n) :=
 fn_t (q35_E n) Tryz.f35 (bodyOf Tryz.f35) [(0,tyA)] [] (q35_ct n) (q35_dt n) [] [] q35_dr (by kernel_rfl) (by kernel_rfl) (by kernel_rfl) (by kernel_rfl) (by kernel_rfl) ⟨.nil,.nil,.nil,.nil,.nil⟩ (fun x=>by kernel_rfl)
def span_children_L0_B (G : Option Nat → Sl → Int → Int → M (Unit)) (n : Nat) (a0 : Option Nat) (a1 : Sl) (a2 : Int) (a3 : Int) : M (Unit) :=
 if decide (a3 < a2) then
  M.bind (idxA a1 a3 9) fun x0 =>
  M.bind (ldLs [li,li,li,li,li,li,li,.bool,.bool] x0) fun (x1 : Int × Int × Int × Int × Int × Int × Int × Bool × Bool) =>
  M.bind (newB none T_api_Span [vi 0,vi 0,vi 0,vi 0,vi 0,vi 0,vi 0,Value.bool false,Value.bool false]) fun x2 =>
  M.bind (stN (adr x2) [vi x1.1,vi x1.2.1,vi x1.2.2.1,vi x1.2.2.2.1,vi x1.2.2.2.2.1,vi x1.2.2.2.2.2.1,vi x1.2.2.2.2.2.2.1,Value.bool x1.2.2.2.2.2.2.2.1,Value.bool x1.2.2.2.2.2.2.2.2]) fun x3 =>
  M.bind (ldL (li) ((adr x2).plus 1)) fun (x4 : Int) =>
  M.bind (ldL (li) ((adr x2).plus 1)) fun (x5 : Int) =>
  M.bind (mpGet T_i64 (Ty.one .sl) sl0 a0 (vi x5)) fun (x6 : Bool × Sl) =>
  M.bind (app true x6.2 1 T_i64 1 [vi a3]) fun x7 =>
  M.bind (mpSet T_i64 a0 (vi x4) (vsl x7)) fun x8 =>
  G a0 a1 a2 (IntKind.i64.wrap (a3 + 1))
 else
  M.pure ()
def span_children_L0 : Nat → Option Nat → Sl → Int → Int → M (Unit)
 | 0=>fun _ _ _ _=>M.fail
 | n + 1=>span_children_L0_B (span_children_L0 n) n
theorem span_children_L0_succ (n : Nat) : span_children_L0 (n + 1) = span_children_L0_B (span_children_L0 n) n:=rfl
def span_children (n : Nat) (a0 : Int × ByteArray × Sl × Int × Sl × Sl) : M ((Option Nat)) :=
 M.bind (newB none T_api_Doc [vi a0.1,Value.string a0.2.1,vsl a0.2.2.1,vi a0.2.2.2.1,vsl a0.2.2.2.2.1,vsl a0.2.2.2.2.2]) fun x0 =>
 M.bind (mpNew T_i64) fun x1 =>
 M.bind (ldL .sl ((adr x0).plus 4)) fun (x2 : Sl) =>
 M.bind (span_children_L0 n (some x1) x2 (↑x2.len : Int) 0) fun x3 =>
 M.pure (some x1)
abbrev q73_E (n : Nat) : Ent:=⟨73,[.agg [.int .i64,.str,.sl,.int .i64,.sl,.sl]],[tyM],fun x=>span_children n x⟩
abbrev q73_L0_a : List (Nat × Ty):=[(3,tyM),(8,tyL),(9,tyI),(10,tyI)]
abbrev q73_L0_w : List Nat:=[4,5,10,11,12,13,14,15,16,17,18,19,20,21,22,23,24,25]
abbrev q73_L0_p : Path:=[0,1,0,1,1]
abbrev q73_L0_g (n : Nat) (x : TsDen (tys q73_L0_a)) : M (Unit):=span_children_L0 n (x.1) (x.2.1) (x.2.2.1) (x.2.2.2)
abbrev q73_L0_l (n : Nat) : LEnt:=⟨q73_L0_p,q73_L0_a,actL1 q73_L0_a [] q73_L0_w 0 (q73_L0_g n)⟩
abbrev q73_dt (n : Nat) : List DEnt:=[]
abbrev q73_ct (n : Nat) : List Ent:=[]
def q73_dr (i : Nat) : Option (List (Nat × List Nat)):=cond (Nat.beq i 5) (some [(0,[]),(1,[]),(3,[]),(4,[]),(7,[]),(8,[]),(2,[]),(5,[]),(6,[]),(9,[]),(10,[])]) (none)
abbrev q73_lt (n : Nat) : List LEnt:=[q73_L0_l n]
theorem q73_L0_ok (n : Nat) {W : Wr} (hW : subW W 27 q73_L0_w = true) : LEntOK Tryz.prog (bodyOf Tryz.f73) W (q73_L0_l n) :=
 loop1_t (bodyOf Tryz.f73) q73_L0_p q73_L0_a [] 0 27 q73_L0_w [] q73_ct q73_dt (fun _=>[]) q73_dr q73_L0_g (fun _=>[]) (by kernel_rfl) (fun _=>by kernel_rfl) (fun n x=>by kernel_rfl) n (fun m hm=>⟨.nil,.nil,.nil,.nil,.nil⟩) hW
theorem span_children_ok (n : Nat) : FnOK Tryz.prog (q73_E n) :=
 fn_t (q73_E n) Tryz.f73 (bodyOf Tryz.f73) [(0,.agg [.int .i64,.str,.sl,.int .i64,.sl,.sl])] [] (q73_ct n) (q73_dt n) (q73_lt n) [] q73_dr (by kernel_rfl) (by kernel_rfl) (by kernel_rfl) (by kernel_rfl) (by kernel_rfl) ⟨.nil,.nil,.nil,(.cons (q73_L0_ok n (by kernel_rfl)) .nil),.nil⟩ (fun x=>by kernel_rfl)
structure Cl_span_inKeys_1 where
 span_inKeys_1_L0 : Int → Addr → Addr → Sl → Int → Int → M (Unit)
 span_inKeys_1_L1 : Addr → Sl → Int → Int → M (Unit)
 span_inKeys_1 : Int → Addr → Addr → Addr → M (Unit)
def span_inKeys_1_D27_B (G : Cl_span_inKeys_1) (n : Nat) (x : Value) (a0 : Int) : M (Unit) :=
 if isFn F_span_inKeys_1 x then
  M.bind (asFn [tyA,tyA,tyA] x) fun (c : Addr × Addr × Addr)=>G.span_inKeys_1 a0 (c.1) (c.2.1) (c.2.2)
 else M.fail
def span_inKeys_1_D42_B (G : Cl_span_inKeys_1) (n : Nat) (x : Value) (a0 : Int) : M (Unit) :=
 if isFn F_span_inKeys_1 x then
  M.bind (asFn [tyA,tyA,tyA] x) fun (c : Addr × Addr × Addr)=>G.span_inKeys_1 a0 (c.1) (c.2.1) (c.2.2)
 else M.fail
def span_inKeys_1_L0_B (G : Cl_span_inKeys_1) (n : Nat) (a0 : Int) (a1 : Addr) (a2 : Addr) (a3 : Sl) (a4 : Int) (a5 : Int) : M (Unit) :=
 if decide (a5 < a4) then
  M.bind (idxA a3 a5 1) fun x0 =>
  M.bind (ldL (li) x0) fun (x1 : Int) =>
  M.bind (ldL .raw a2) fun (x2 : Value) =>
  M.bind (span_inKeys_1_D27_B G n x2 x1) fun x3 =>
  G.span_inKeys_1_L0 a0 a1 a2 a3 a4 (IntKind.i64.wrap (a5 + 1))
 else
  M.pure ()
def span_inKeys_1_L1_B (G : Cl_span_inKeys_1) (n : Nat) (a0 : Addr) (a1 : Sl) (a2 : Int) (a3 : Int) : M (Unit) :=
 if decide (a3 < a2) then
  M.bind (idxA a1 a3 1) fun x0 =>
  M.bind (ldL (li) x0) fun (x1 : Int) =>
  M.bind (ldL .raw a0) fun (x2 : Value) =>
  M.bind (span_inKeys_1_D42_B G n x2 x1) fun x3 =>
  G.span_inKeys_1_L1 a0 a1 a2 (IntKind.i64.wrap (a3 + 1))
 else
  M.pure ()
def span_inKeys_1_B (G : Cl_span_inKeys_1) (n : Nat) (a0 : Int) (a1 : Addr) (a2 : Addr) (a3 : Addr) : M (Unit) :=
 M.bind (ldL .sl a1) fun (x0 : Sl) =>
 M.bind (idxA x0 a0 1) fun x1 =>
 M.bind (ldL .bool x1) fun (x2 : Bool) =>
 if x2 then
  M.pure ()
 else
  M.bind (ldL .sl a1) fun (x3 : Sl) =>
  M.bind (idxA x3 a0 1) fun x4 =>
  M.bind (stN x4 [Value.bool true]) fun x5 =>
  M.bind (ldL .sl (a2.plus 0)) fun (x6 : Sl) =>
  M.bind (idxA x6 a0 5) fun x7 =>
  M.bind (ldL .sl (x7.plus 3)) fun (x8 : Sl) =>
  M.bind (G.span_inKeys_1_L0 a0 a2 a3 x8 (↑x8.len : Int) 0) fun x9 =>
  M.bind (ldL .sl (a2.plus 0)) fun (x10 : Sl) =>
  M.bind (idxA x10 a0 5) fun x11 =>
  M.bind (ldL .sl (x11.plus 4)) fun (x12 : Sl) =>
  M.bind (G.span_inKeys_1_L1 a3 x12 (↑x12.len : Int) 0) fun x13 =>
  M.pure ()
def Cl_span_inKeys_1.at : Nat → Cl_span_inKeys_1
 | 0=>⟨fun _ _ _ _ _ _=>M.fail,fun _ _ _ _=>M.fail,fun _ _ _ _=>M.fail⟩
 | n + 1=>⟨span_inKeys_1_L0_B (Cl_span_inKeys_1.at n) n,span_inKeys_1_L1_B (Cl_span_inKeys_1.at n) n,span_inKeys_1_B (Cl_span_inKeys_1.at n) n⟩
def span_inKeys_1_L0 (n : Nat) (a0 : Int) (a1 : Addr) (a2 : Addr) (a3 : Sl) (a4 : Int) (a5 : Int) : M (Unit):=(Cl_span_inKeys_1.at n).span_inKeys_1_L0 a0 a1 a2 a3 a4 a5
theorem span_inKeys_1_L0_succ (n : Nat) (a0 : Int) (a1 : Addr) (a2 : Addr) (a3 : Sl) (a4 : Int) (a5 : Int) : span_inKeys_1_L0 (n + 1) a0 a1 a2 a3 a4 a5 = span_inKeys_1_L0_B (Cl_span_inKeys_1.at n) n a0 a1 a2 a3 a4 a5:=rfl
def span_inKeys_1_L1 (n : Nat) (a0 : Addr) (a1 : Sl) (a2 : Int) (a3 : Int) : M (Unit):=(Cl_span_inKeys_1.at n).span_inKeys_1_L1 a0 a1 a2 a3
theorem span_inKeys_1_L1_succ (n : Nat) (a0 : Addr) (a1 : Sl) (a2 : Int) (a3 : Int) : span_inKeys_1_L1 (n + 1) a0 a1 a2 a3 = span_inKeys_1_L1_B (Cl_span_inKeys_1.at n) n a0 a1 a2 a3:=rfl
def span_inKeys_1 (n : Nat) (a0 : Int) (a1 : Addr) (a2 : Addr) (a3 : Addr) : M (Unit):=(Cl_span_inKeys_1.at n).span_inKeys_1 a0 a1 a2 a3
theorem span_inKeys_1_succ (n : Nat) (a0 : Int) (a1 : Addr) (a2 : Addr) (a3 : Addr) : span_inKeys_1 (n + 1) a0 a1 a2 a3 = span_inKeys_1_B (Cl_span_inKeys_1.at n) n a0 a1 a2 a3:=rfl
def span_inKeys_1_D27 (n : Nat) (x : Value) (a0 : Int) : M (Unit):=span_inKeys_1_D27_B (Cl_span_inKeys_1.at n) n x a0
def span_inKeys_1_D42 (n : Nat) (x : Value) (a0 : Int) : M (Unit):=span_inKeys_1_D42_B (Cl_span_inKeys_1.at n) n x a0
abbrev q109_E (n : Nat) : Ent:=⟨109,[tyI,tyA,tyA,tyA],[],fun x=>span_inKeys_1 n (x.1) (x.2.1) (x.2.2.1) (x.2.2.2)⟩
abbrev q109_L0_a : List (Nat × Ty):=[(0,tyI),(2,tyA),(3,tyA),(21,tyL),(22,tyI),(23,tyI)]
abbrev q109_L0_w : List Nat:=[6,23,24,25,26,27,28,29,30]
abbrev q109_L0_p : Path:=[0,1,0,1,1]
abbrev q109_L0_g (n : Nat) (x : TsDen (tys q109_L0_a)) : M (Unit):=span_inKeys_1_L0 n (x.1) (x.2.1) (x.2.2.1) (x.2.2.2.1) (x.2.2.2.2.1) (x.2.2.2.2.2)
abbrev q109_L0_l (n : Nat) : LEnt:=⟨q109_L0_p,q109_L0_a,actL1 q109_L0_a [] q109_L0_w 0 (q109_L0_g n)⟩
abbrev q109_L1_a : List (Nat × Ty):=[(3,tyA),(36,tyL),(37,tyI),(38,tyI)]
abbrev q109_L1_w : List Nat:=[8,38,39,40,41,42,43,44,45]
abbrev q109_L1_p : Path:=[0,1,1,1,1]
abbrev q109_L1_g (n : Nat) (x : TsDen (tys q109_L1_a)) : M (Unit):=span_inKeys_1_L1 n (x.1) (x.2.1) (x.2.2.1) (x.2.2.2)
abbrev q109_L1_l (n : Nat) : LEnt:=⟨q109_L1_p,q109_L1_a,actL1 q109_L1_a [] q109_L1_w 2 (q109_L1_g n)⟩
abbrev q109_dt (n : Nat) : List DEnt:=[⟨27,[tyI],[],fun x a=>span_inKeys_1_D27 n x (a)⟩,
 ⟨42,[tyI],[],fun x a=>span_inKeys_1_D42 n x (a)⟩]
abbrev q109_ct (n : Nat) : List Ent:=[]
def q109_dr (i : Nat) : Option (List (Nat × List Nat)):=none
abbrev q109_lt (n : Nat) : List LEnt:=[q109_L0_l n,q109_L1_l n]
def P_span_inKeys_1 (n : Nat) : Prop:=FnOK Tryz.prog (q109_E n)
theorem q109_L0_ok (n : Nat) (H : ∀ m,m < n → P_span_inKeys_1 m) {W : Wr} (hW : subW W 46 q109_L0_w = true) : LEntOK Tryz.prog (bodyOf Tryz.f109) W (q109_L0_l n) :=
 loop1_t (bodyOf Tryz.f109) q109_L0_p q109_L0_a [] 0 46 q109_L0_w [] q109_ct q109_dt (fun _=>[]) q109_dr q109_L0_g (fun _=>[]) (by kernel_rfl) (fun _=>by kernel_rfl) (fun n x=>by kernel_rfl) n (fun m hm=>⟨.nil,.nil,(.cons (dent_ok (l:=[⟨109,[tyA,tyA,tyA],fun a c=>span_inKeys_1 m (a) (c.1) (c.2.1) (c.2.2)⟩]) (.cons (fun a c=>callOK_cast (by kernel_rfl) ((H m hm) (a,c.1,c.2.1,c.2.2))) .nil) (fun x a=>by kernel_rfl)) (.cons (dent_ok (l:=[⟨109,[tyA,tyA,tyA],fun a c=>span_inKeys_1 m (a) (c.1) (c.2.1) (c.2.2)⟩]) (.cons (fun a c=>callOK_cast (by kernel_rfl) ((H m hm) (a,c.1,c.2.1,c.2.2))) .nil) (fun x a=>by kernel_rfl)) .nil)),.nil,.nil⟩) hW
theorem q109_L1_ok (n : Nat) (H : ∀ m,m < n → P_span_inKeys_1 m) {W : Wr} (hW : subW W 46 q109_L1_w = true) : LEntOK Tryz.prog (bodyOf Tryz.f109) W (q109_L1_l n) :=
 loop1_t (bodyOf Tryz.f109) q109_L1_p q109_L1_a [] 2 46 q109_L1_w [] q109_ct q109_dt (fun _=>[]) q109_dr q109_L1_g (fun _=>[]) (by kernel_rfl) (fun _=>by kernel_rfl) (fun n x=>by kernel_rfl) n (fun m hm=>⟨.nil,.nil,(.cons (dent_ok (l:=[⟨109,[tyA,tyA,tyA],fun a c=>span_inKeys_1 m (a) (c.1) (c.2.1) (c.2.2)⟩]) (.cons (fun a c=>callOK_cast (by kernel_rfl) ((H m hm) (a,c.1,c.2.1,c.2.2))) .nil) (fun x a=>by kernel_rfl)) (.cons (dent_ok (l:=[⟨109,[tyA,tyA,tyA],fun a c=>span_inKeys_1 m (a) (c.1) (c.2.1) (c.2.2)⟩]) (.cons (fun a c=>callOK_cast (by kernel_rfl) ((H m hm) (a,c.1,c.2.1,c.2.2))) .nil) (fun x a=>by kernel_rfl)) .nil)),.nil,.nil⟩) hW
theorem span_inKeys_1_ok_step (n : Nat) (H : ∀ m,m < n + 1 → P_span_inKeys_1 m) : FnOK Tryz.prog (q109_E (n + 1)) :=
 fn_t (q109_E (n + 1)) Tryz.f109 (bodyOf Tryz.f109) [(0,tyI),(1,tyA),(2,tyA),(3,tyA)] [] (q109_ct n) (q109_dt n) (q109_lt n) [] q109_dr (by kernel_rfl) (by kernel_rfl) (by kernel_rfl) (by kernel_rfl) (by kernel_rfl) ⟨.nil,.nil,(.cons (dent_ok (l:=[⟨109,[tyA,tyA,tyA],fun a c=>span_inKeys_1 n (a) (c.1) (c.2.1) (c.2.2)⟩]) (.cons (fun a c=>callOK_cast (by kernel_rfl) ((H n (Nat.lt_succ_self n)) (a,c.1,c.2.1,c.2.2))) .nil) (fun x a=>by kernel_rfl)) (.cons (dent_ok (l:=[⟨109,[tyA,tyA,tyA],fun a c=>span_inKeys_1 n (a) (c.1) (c.2.1) (c.2.2)⟩]) (.cons (fun a c=>callOK_cast (by kernel_rfl) ((H n (Nat.lt_succ_self n)) (a,c.1,c.2.1,c.2.2))) .nil) (fun x a=>by kernel_rfl)) .nil)),(.cons (q109_L0_ok n (fun k hk=>H k (Nat.lt_succ_of_lt hk)) (by kernel_rfl)) (.cons (q109_L1_ok n (fun k hk=>H k (Nat.lt_succ_of_lt hk)) (by kernel_rfl)) .nil)),.nil⟩ (fun x=>by kernel_rfl)
theorem P_span_inKeys_1_all : ∀ n m,m < n → P_span_inKeys_1 m:=by
 intro n
 induction n with
 | zero=>intro m hm;exact absurd hm (Nat.not_lt_zero m)
 | succ n ih =>
  intro m hm
  cases m with
  | zero=>exact fn_zero (fn:=Tryz.f109) (by kernel_rfl) (by kernel_rfl) (by kernel_rfl) (fun _=>rfl)
  | succ k=>exact span_inKeys_1_ok_step k fun m hm=>ih m (by omega)
theorem span_inKeys_1_ok (n : Nat) : FnOK Tryz.prog (q109_E n):=(P_span_inKeys_1_all (n + 1) n (Nat.lt_succ_self n))
def span_inKeys_D28 (n : Nat) (x : Value) (a0 : Int) : M (Unit) :=
 if isFn F_span_inKeys_1 x then
  M.bind (asFn [tyA,tyA,tyA] x) fun (c : Addr × Addr × Addr)=>span_inKeys_1 n a0 (c.1) (c.2.1) (c.2.2)
 else M.fail
def span_inKeys_L1_B (G : Addr → Addr → Sl → Int → Int → Sl → Int → Int → M (Unit)) (n : Nat) (a0 : Addr) (a1 : Addr) (a2 : Sl) (a3 : Int) (a4 : Int) (a5 : Sl) (a6 : Int) (a7 : Int) : M (Unit) :=
 if decide (a7 < a6) then
  M.bind (idxA a5 a7 1) fun x0 =>
  M.bind (ldL (li) x0) fun (x1 : Int) =>
  M.bind (ldL .raw a1) fun (x2 : Value) =>
  M.bind (span_inKeys_D28 n x2 x1) fun x3 =>
  G a0 a1 a2 a3 a4 a5 a6 (IntKind.i64.wrap (a7 + 1))
 else
  M.pure ()
def span_inKeys_L1 : Nat → Addr → Addr → Sl → Int → Int → Sl → Int → Int → M (Unit)
 | 0=>fun _ _ _ _ _ _ _ _=>M.fail
 | n + 1=>span_inKeys_L1_B (span_inKeys_L1 n) n
theorem span_inKeys_L1_succ (n : Nat) : span_inKeys_L1 (n + 1) = span_inKeys_L1_B (span_inKeys_L1 n) n:=rfl
def span_inKeys_L0_B (G : Addr → Addr → Sl → Int → Int → M (Unit)) (n : Nat) (a0 : Addr) (a1 : Addr) (a2 : Sl) (a3 : Int) (a4 : Int) : M (Unit) :=
 if decide (a4 < a3) then
  M.bind (idxA a2 a4 5) fun x0 =>
  M.bind (ldLs [li,.str,.bool,.sl,.sl] x0) fun (x1 : Int × ByteArray × Bool × Sl × Sl) =>
  M.bind (newB none T_api_Node [vi 0,Value.string (ofBytes []),Value.bool false,vsl0,vsl0]) fun x2 =>
  M.bind (stN (adr x2) [vi x1.1,Value.string x1.2.1,Value.bool x1.2.2.1,vsl x1.2.2.2.1,vsl x1.2.2.2.2]) fun x3 =>
  M.bind (ldL .sl ((adr x2).plus 3)) fun (x4 : Sl) =>
  M.bind (span_inKeys_L1 n a0 a1 a2 a3 a4 x4 (↑x4.len : Int) 0) fun x5 =>
  G a0 a1 a2 a3 (IntKind.i64.wrap (a4 + 1))
 else
  M.pure ()
def span_inKeys_L0 : Nat → Addr → Addr → Sl → Int → Int → M (Unit)
 | 0=>fun _ _ _ _ _=>M.fail
 | n + 1=>span_inKeys_L0_B (span_inKeys_L0 n) n
theorem span_inKeys_L0_succ (n : Nat) : span_inKeys_L0 (n + 1) = span_inKeys_L0_B (span_inKeys_L0 n) n:=rfl
def span_inKeys (n : Nat) (a0 : Sl × Int) : M (Sl) :=
 M.bind (newB none T_api_Graph [vsl a0.1,vi a0.2]) fun x0 =>
 M.bind (ldL .sl ((adr x0).plus 0)) fun (x1 : Sl) =>
 M.bind (mkS none T_bool [Value.bool false] (↑x1.len : Int) (↑x1.len : Int)) fun x2 =>
 M.bind (newB none T_sl_bool [vsl0]) fun x3 =>
 M.bind (stN (adr x3) [vsl x2]) fun x4 =>
 M.bind (newB none T_fn_i64__ [Value.nilFunc]) fun x5 =>
 M.bind (stN (adr x5) [Value.func (Fn.func F_span_inKeys_1) #[] #[Value.pointer (some (adr x3)),Value.pointer (some (adr x0)),Value.pointer (some (adr x5))]]) fun x6 =>
 M.bind (ldL .sl ((adr x0).plus 0)) fun (x7 : Sl) =>
 M.bind (span_inKeys_L0 n (adr x3) (adr x5) x7 (↑x7.len : Int) 0) fun x8 =>
 M.bind (ldL .sl (adr x3)) fun (x9 : Sl) =>
 M.pure x9
abbrev q74_E (n : Nat) : Ent:=⟨74,[.agg [.sl,.int .i64]],[tyL],fun x=>span_inKeys n x⟩
abbrev q74_L0_a : List (Nat × Ty):=[(3,tyA),(4,tyA),(15,tyL),(16,tyI),(17,tyI)]
abbrev q74_L0_w : List Nat:=[6,8,17,18,19,20,21,22,23,24,25,26,27,28,29,30,31,32]
abbrev q74_L0_p : Path:=[0,1,0,1,1,1,1]
abbrev q74_L0_g (n : Nat) (x : TsDen (tys q74_L0_a)) : M (Unit):=span_inKeys_L0 n (x.1) (x.2.1) (x.2.2.1) (x.2.2.2.1) (x.2.2.2.2)
abbrev q74_L0_l (n : Nat) : LEnt:=⟨q74_L0_p,q74_L0_a,actL1 q74_L0_a [] q74_L0_w 0 (q74_L0_g n)⟩
abbrev q74_L1_a : List (Nat × Ty):=[(3,tyA),(4,tyA),(15,tyL),(16,tyI),(17,tyI),(22,tyL),(23,tyI),(24,tyI)]
abbrev q74_L1_w : List Nat:=[8,24,25,26,27,28,29,30,31]
abbrev q74_L1_p : Path:=[0,1,1,0,0,1,1,0,0,1,0,1,1,1,1]
abbrev q74_L1_g (n : Nat) (x : TsDen (tys q74_L1_a)) : M (Unit):=span_inKeys_L1 n (x.1) (x.2.1) (x.2.2.1) (x.2.2.2.1) (x.2.2.2.2.1) (x.2.2.2.2.2.1) (x.2.2.2.2.2.2.1) (x.2.2.2.2.2.2.2)
abbrev q74_L1_l (n : Nat) : LEnt:=⟨q74_L1_p,q74_L1_a,actL1 q74_L1_a [] q74_L1_w 2 (q74_L1_g n)⟩
abbrev q74_dt (n : Nat) : List DEnt:=[⟨28,[tyI],[],fun x a=>span_inKeys_D28 n x (a)⟩]
abbrev q74_ct (n : Nat) : List Ent:=[]
def q74_dr (i : Nat) : Option (List (Nat × List Nat)):=none
abbrev q74_L0_lt (n : Nat) : List LEnt:=[q74_L1_l n]
abbrev q74_lt (n : Nat) : List LEnt:=[q74_L0_l n]
theorem q74_L1_ok (n : Nat) {W : Wr} (hW : subW W 34 q74_L1_w = true) : LEntOK Tryz.prog (bodyOf Tryz.f74) W (q74_L1_l n) :=
 loop1_t (bodyOf Tryz.f74) q74_L1_p q74_L1_a [] 2 34 q74_L1_w [] q74_ct q74_dt (fun _=>[]) q74_dr q74_L1_g (fun _=>[]) (by kernel_rfl) (fun _=>by kernel_rfl) (fun n x=>by kernel_rfl) n (fun m hm=>⟨.nil,.nil,(.cons (dent_ok (l:=[⟨109,[tyA,tyA,tyA],fun a c=>span_inKeys_1 m (a) (c.1) (c.2.1) (c.2.2)⟩]) (.cons (fun a c=>callOK_cast (by kernel_rfl) ((span_inKeys_1_ok m) (a,c.1,c.2.1,c.2.2))) .nil) (fun x a=>by kernel_rfl)) .nil),.nil,.nil⟩) hW
theorem q74_L0_ok (n : Nat) {W : Wr} (hW : subW W 34 q74_L0_w = true) : LEntOK Tryz.prog (bodyOf Tryz.f74) W (q74_L0_l n) :=
 loop1_t (bodyOf Tryz.f74) q74_L0_p q74_L0_a [] 0 34 q74_L0_w [] q74_ct q74_dt q74_L0_lt q74_dr q74_L0_g (fun _=>[]) (by kernel_rfl) (fun _=>by kernel_rfl) (fun n x=>by kernel_rfl) n (fun m hm=>⟨.nil,.nil,(.cons (dent_ok (l:=[⟨109,[tyA,tyA,tyA],fun a c=>span_inKeys_1 m (a) (c.1) (c.2.1) (c.2.2)⟩]) (.cons (fun a c=>callOK_cast (by kernel_rfl) ((span_inKeys_1_ok m) (a,c.1,c.2.1,c.2.2))) .nil) (fun x a=>by kernel_rfl)) .nil),(.cons (q74_L1_ok m (by kernel_rfl)) .nil),.nil⟩) hW
theorem span_inKeys_ok (n : Nat) : FnOK Tryz.prog (q74_E n) :=
 fn_t (q74_E n) Tryz.f74 (bodyOf Tryz.f74) [(0,.agg [.sl,.int .i64])] [] (q74_ct n) (q74_dt n) (q74_lt n) [] q74_dr (by kernel_rfl) (by kernel_rfl) (by kernel_rfl) (by kernel_rfl) (by kernel_rfl) ⟨.nil,.nil,(.cons (dent_ok (l:=[⟨109,[tyA,tyA,tyA],fun a c=>span_inKeys_1 n (a) (c.1) (c.2.1) (c.2.2)⟩]) (.cons (fun a c=>callOK_cast (by kernel_rfl) ((span_inKeys_1_ok n) (a,c.1,c.2.1,c.2.2))) .nil) (fun x a=>by kernel_rfl)) .nil),(.cons (q74_L0_ok n (by kernel_rfl)) .nil),.nil⟩ (fun x=>by kernel_rfl)
end Go.Sh
