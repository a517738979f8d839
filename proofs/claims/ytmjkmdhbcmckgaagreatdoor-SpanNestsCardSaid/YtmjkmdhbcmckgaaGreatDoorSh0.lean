
import Derived.Test.YtmjkmdhbcmckgaaGreatDoorShLib
set_option maxRecDepth 100000
set_option maxHeartbeats 0
set_option linter.all false
namespace Go.Sh
open Go Go.Ago Go.Proofs
def span_Check_1 (n:Nat)(a0:Addr):M (Bool×Int) :=
 M.bind (ldL (li) (a0.plus 0)) fun (x0:Int) =>
 if decide (0≤x0) then
  M.bind (ldL (li) (a0.plus 0)) fun (x1:Int) =>
  M.pure (decide (x1<9),1)
 else
  M.pure (false,1)
abbrev q20_E (n:Nat):Ent:=⟨20,[tyA],[tyB,tyI],fun x=>span_Check_1 n x⟩
theorem span_Check_1_ok (n:Nat):FnOK Tryz.prog (q20_E n) :=
 fn_t (q20_E n) Tryz.f20 (bodyOf Tryz.f20) [(0,tyA)] [] [] [] [] [] dr0 (by kernel_rfl) (by kernel_rfl) (by kernel_rfl) (by kernel_rfl) (by kernel_rfl) ⟨.nil,.nil,.nil,.nil,.nil⟩ (fun x=>by kernel_rfl)
def span_Check_2 (n:Nat)(a0:Addr):M (Bool×Int) :=
 M.bind (ldL .str (a0.plus 1)) fun (x0:ByteArray) =>
 M.pure (decide ((↑(ByteArray.size x0):Int)≤65536),6)
abbrev q21_E (n:Nat):Ent:=⟨21,[tyA],[tyB,tyI],fun x=>span_Check_2 n x⟩
theorem span_Check_2_ok (n:Nat):FnOK Tryz.prog (q21_E n) :=
 fn_t (q21_E n) Tryz.f21 (bodyOf Tryz.f21) [(0,tyA)] [] [] [] [] [] dr0 (by kernel_rfl) (by kernel_rfl) (by kernel_rfl) (by kernel_rfl) (by kernel_rfl) ⟨.nil,.nil,.nil,.nil,.nil⟩ (fun x=>by kernel_rfl)
def graph_indices_L2_B (G:Addr→Bool→Sl→Int→Int→Sl→Int→Int→Sl→Int→Int→M (Bool))(n:Nat)(a0:Addr)(a1:Bool)(a2:Sl)(a3:Int)(a4:Int)(a5:Sl)(a6:Int)(a7:Int)(a8:Sl)(a9:Int)(a10:Int):M (Bool) :=
 if decide (a10<a9) then
  M.bind (idxA a8 a10 1) fun x0 =>
  M.bind (ldL (li) x0) fun (x1:Int) =>
  if a1 then
   if decide (0≤x1) then
    M.bind (ldL .sl (a0.plus 0)) fun (x2:Sl) =>
    G a0 (decide (x1<(↑x2.len:Int))) a2 a3 a4 a5 a6 a7 a8 a9 (IntKind.i64.wrap (a10+1))
   else
    G a0 false a2 a3 a4 a5 a6 a7 a8 a9 (IntKind.i64.wrap (a10+1))
  else
   G a0 false a2 a3 a4 a5 a6 a7 a8 a9 (IntKind.i64.wrap (a10+1))
 else
  M.pure a1
def graph_indices_L2:Nat→Addr→Bool→Sl→Int→Int→Sl→Int→Int→Sl→Int→Int→M (Bool)
 | 0=>fun _ _ _ _ _ _ _ _ _ _ _=>M.fail
 | n+1=>graph_indices_L2_B (graph_indices_L2 n) n
theorem graph_indices_L2_succ (n:Nat):graph_indices_L2 (n+1)=graph_indices_L2_B (graph_indices_L2 n) n:=rfl
def graph_indices_L1_B (G:Addr→Bool→Sl→Int→Int→Sl→Int→Int→M (Bool))(n:Nat)(a0:Addr)(a1:Bool)(a2:Sl)(a3:Int)(a4:Int)(a5:Sl)(a6:Int)(a7:Int):M (Bool) :=
 if decide (a7<a6) then
  M.bind (idxA a5 a7 1) fun x0 =>
  M.bind (ldL .sl x0) fun (x1:Sl) =>
  M.bind (graph_indices_L2 n a0 a1 a2 a3 a4 a5 a6 a7 x1 (↑x1.len:Int) 0) fun x2 =>
  G a0 x2 a2 a3 a4 a5 a6 (IntKind.i64.wrap (a7+1))
 else
  M.pure a1
def graph_indices_L1:Nat→Addr→Bool→Sl→Int→Int→Sl→Int→Int→M (Bool)
 | 0=>fun _ _ _ _ _ _ _ _=>M.fail
 | n+1=>graph_indices_L1_B (graph_indices_L1 n) n
theorem graph_indices_L1_succ (n:Nat):graph_indices_L1 (n+1)=graph_indices_L1_B (graph_indices_L1 n) n:=rfl
def graph_indices_L0_B (G:Addr→Bool→Sl→Int→Int→M (Bool))(n:Nat)(a0:Addr)(a1:Bool)(a2:Sl)(a3:Int)(a4:Int):M (Bool) :=
 if decide (a4<a3) then
  M.bind (idxA a2 a4 5) fun x0 =>
  M.bind (ldLs [li,.str,.bool,.sl,.sl] x0) fun (x1:Int×ByteArray×Bool×Sl×Sl) =>
  M.bind (newB none T_api_Node [vi 0,Value.string (ofBytes []),Value.bool false,vsl0,vsl0]) fun x2 =>
  M.bind (stN (adr x2) [vi x1.1,Value.string x1.2.1,Value.bool x1.2.2.1,vsl x1.2.2.2.1,vsl x1.2.2.2.2]) fun x3 =>
  M.bind (ldL .sl ((adr x2).plus 3)) fun (x4:Sl) =>
  M.bind (ldL .sl ((adr x2).plus 4)) fun (x5:Sl) =>
  M.bind (newB none T_sl_i64 [vsl x4,vsl x5]) fun x6 =>
  M.bind (graph_indices_L1 n a0 a1 a2 a3 a4 { a:=some (adr x6),len:=2,cap:=3 } (↑2:Int) 0) fun x7 =>
  G a0 x7 a2 a3 (IntKind.i64.wrap (a4+1))
 else
  M.pure a1
def graph_indices_L0:Nat→Addr→Bool→Sl→Int→Int→M (Bool)
 | 0=>fun _ _ _ _ _=>M.fail
 | n+1=>graph_indices_L0_B (graph_indices_L0 n) n
theorem graph_indices_L0_succ (n:Nat):graph_indices_L0 (n+1)=graph_indices_L0_B (graph_indices_L0 n) n:=rfl
def graph_indices_J0 (n:Nat)(a0:Addr)(a1:Bool):M (Bool) :=
 M.bind (ldL .sl (a0.plus 0)) fun (x0:Sl) =>
 M.bind (graph_indices_L0 n a0 a1 x0 (↑x0.len:Int) 0) fun x1 =>
 M.pure x1
def graph_indices (n:Nat)(a0:Sl×Int):M (Bool) :=
 M.bind (newB none T_api_Graph [vsl a0.1,vi a0.2]) fun x0 =>
 M.bind (ldL (li) ((adr x0).plus 1)) fun (x1:Int) =>
 if decide (0≤x1) then
  M.bind (ldL (li) ((adr x0).plus 1)) fun (x2:Int) =>
  M.bind (ldL .sl ((adr x0).plus 0)) fun (x3:Sl) =>
  graph_indices_J0 n (adr x0) (decide (x2<(↑x3.len:Int)))
 else
  graph_indices_J0 n (adr x0) false
abbrev q32_E (n:Nat):Ent:=⟨32,[.agg [.sl,.int .i64]],[tyB],fun x=>graph_indices n x⟩
abbrev q32_L0_a:List (Nat×Ty):=[(1,tyA),(3,tyB),(22,tyL),(23,tyI),(24,tyI)]
abbrev q32_L0_w:List Nat:=[3,5,7,9,24,25,26,27,28,29,30,31,32,33,34,35,36,37,38,39,40,41,42,43,44,45,46,47,48,49,50,51,52,53,54,55,56,57,58]
abbrev q32_L0_p:Path:=[0,1,0,1,1]
abbrev q32_L0_g (n:Nat)(x:TsDen (tys q32_L0_a)):M (Bool):=graph_indices_L0 n (x.1) (x.2.1) (x.2.2.1) (x.2.2.2.1) (x.2.2.2.2)
abbrev q32_L0_l (n:Nat):LEnt:=⟨q32_L0_p,q32_L0_a,actL1 q32_L0_a [(3,tyB)] q32_L0_w 0 (q32_L0_g n)⟩
abbrev q32_L1_a:List (Nat×Ty):=[(1,tyA),(3,tyB),(22,tyL),(23,tyI),(24,tyI),(32,tyL),(33,tyI),(34,tyI)]
abbrev q32_L1_w:List Nat:=[3,7,9,34,35,36,37,38,39,40,41,42,43,44,45,46,47,48,49,50,51,52,53,54,55,56,57]
abbrev q32_L1_p:Path:=[0,1,1,0,0,1,1,0,0,1,0,1,1]
abbrev q32_L1_g (n:Nat)(x:TsDen (tys q32_L1_a)):M (Bool):=graph_indices_L1 n (x.1) (x.2.1) (x.2.2.1) (x.2.2.2.1) (x.2.2.2.2.1) (x.2.2.2.2.2.1) (x.2.2.2.2.2.2.1) (x.2.2.2.2.2.2.2)
abbrev q32_L1_l (n:Nat):LEnt:=⟨q32_L1_p,q32_L1_a,actL1 q32_L1_a [(3,tyB)] q32_L1_w 2 (q32_L1_g n)⟩
abbrev q32_L2_a:List (Nat×Ty):=[(1,tyA),(3,tyB),(22,tyL),(23,tyI),(24,tyI),(32,tyL),(33,tyI),(34,tyI),(38,tyL),(39,tyI),(40,tyI)]
abbrev q32_L2_w:List Nat:=[3,9,40,41,42,43,44,45,46,47,48,49,50,51,52,53,54,55,56]
abbrev q32_L2_p:Path:=[0,1,1,0,0,1,1,0,0,1,1,0,0,1,1,0,0,1,0,1,1]
abbrev q32_L2_g (n:Nat)(x:TsDen (tys q32_L2_a)):M (Bool):=graph_indices_L2 n (x.1) (x.2.1) (x.2.2.1) (x.2.2.2.1) (x.2.2.2.2.1) (x.2.2.2.2.2.1) (x.2.2.2.2.2.2.1) (x.2.2.2.2.2.2.2.1) (x.2.2.2.2.2.2.2.2.1) (x.2.2.2.2.2.2.2.2.2.1) (x.2.2.2.2.2.2.2.2.2.2)
abbrev q32_L2_l (n:Nat):LEnt:=⟨q32_L2_p,q32_L2_a,actL1 q32_L2_a [(3,tyB)] q32_L2_w 4 (q32_L2_g n)⟩
abbrev q32_L1_lt (n:Nat):List LEnt:=[q32_L2_l n]
abbrev q32_L0_lt (n:Nat):List LEnt:=[q32_L1_l n]
abbrev q32_lt (n:Nat):List LEnt:=[q32_L0_l n]
abbrev q32_jt1 (n:Nat):List (JEnt (Bool)):=[]
abbrev q32_jt0 (n:Nat):List (JEnt (Bool)):=⟨[0,0,1,1],[.code [1,0,1,1],.code [1,1,1]],[(1,tyA),(3,tyB)],fun x=>graph_indices_J0 n (x.1) (x.2)⟩::q32_jt1 n
theorem q32_L2_ok (n:Nat){W:Wr}(hW:subW W 60 q32_L2_w=true):LEntOK Tryz.prog (bodyOf Tryz.f32) W (q32_L2_l n) :=
 loop1_t (bodyOf Tryz.f32) q32_L2_p q32_L2_a [(3,tyB)] 4 60 q32_L2_w [] (fun _=>[]) (fun _=>[]) (fun _=>[]) dr0 q32_L2_g (fun _=>[]) (by kernel_rfl) (fun _=>by kernel_rfl) (fun n x=>by kernel_rfl) n (fun m hm=>⟨.nil,.nil,.nil,.nil,.nil⟩) hW
theorem q32_L1_ok (n:Nat){W:Wr}(hW:subW W 60 q32_L1_w=true):LEntOK Tryz.prog (bodyOf Tryz.f32) W (q32_L1_l n) :=
 loop1_t (bodyOf Tryz.f32) q32_L1_p q32_L1_a [(3,tyB)] 2 60 q32_L1_w [] (fun _=>[]) (fun _=>[]) q32_L1_lt dr0 q32_L1_g (fun _=>[]) (by kernel_rfl) (fun _=>by kernel_rfl) (fun n x=>by kernel_rfl) n (fun m hm=>⟨.nil,.nil,.nil,(.cons (q32_L2_ok m (by kernel_rfl)) .nil),.nil⟩) hW
theorem q32_L0_ok (n:Nat){W:Wr}(hW:subW W 60 q32_L0_w=true):LEntOK Tryz.prog (bodyOf Tryz.f32) W (q32_L0_l n) :=
 loop1_t (bodyOf Tryz.f32) q32_L0_p q32_L0_a [(3,tyB)] 0 60 q32_L0_w [] (fun _=>[]) (fun _=>[]) q32_L0_lt dr0 q32_L0_g (fun _=>[]) (by kernel_rfl) (fun _=>by kernel_rfl) (fun n x=>by kernel_rfl) n (fun m hm=>⟨.nil,.nil,.nil,(.cons (q32_L1_ok m (by kernel_rfl)) .nil),.nil⟩) hW
theorem graph_indices_ok (n:Nat):FnOK Tryz.prog (q32_E n) :=
 fn_t (q32_E n) Tryz.f32 (bodyOf Tryz.f32) [(0,.agg [.sl,.int .i64])] [] [] [] (q32_lt n) (q32_jt0 n) dr0 (by kernel_rfl) (by kernel_rfl) (by kernel_rfl) (by kernel_rfl) (by kernel_rfl) ⟨.nil,.nil,.nil,(.cons (q32_L0_ok n (by kernel_rfl)) .nil),(.cons (fun x=>by kernel_rfl) .nil)⟩ (fun x=>by kernel_rfl)
structure Cl_graph_reached_1 where
 graph_reached_1_L0:Int→Addr→Addr→Sl→Int→Int→M (Unit)
 graph_reached_1_L1:Addr→Sl→Int→Int→M (Unit)
 graph_reached_1:Int→Addr→Addr→Addr→M (Unit)
def graph_reached_1_D27_B (G:Cl_graph_reached_1)(n:Nat)(x:Value)(a0:Int):M (Unit) :=
 if isFn F_graph_reached_1 x then
  M.bind (asFn [tyA,tyA,tyA] x) fun (c:Addr×Addr×Addr)=>G.graph_reached_1 a0 (c.1) (c.2.1) (c.2.2)
 else M.fail
def graph_reached_1_D42_B (G:Cl_graph_reached_1)(n:Nat)(x:Value)(a0:Int):M (Unit) :=
 if isFn F_graph_reached_1 x then
  M.bind (asFn [tyA,tyA,tyA] x) fun (c:Addr×Addr×Addr)=>G.graph_reached_1 a0 (c.1) (c.2.1) (c.2.2)
 else M.fail
def graph_reached_1_L0_B (G:Cl_graph_reached_1)(n:Nat)(a0:Int)(a1:Addr)(a2:Addr)(a3:Sl)(a4:Int)(a5:Int):M (Unit) :=
 if decide (a5<a4) then
  M.bind (idxA a3 a5 1) fun x0 =>
  M.bind (ldL (li) x0) fun (x1:Int) =>
  M.bind (ldL .raw a2) fun (x2:Value) =>
  M.bind (graph_reached_1_D27_B G n x2 x1) fun x3 =>
  G.graph_reached_1_L0 a0 a1 a2 a3 a4 (IntKind.i64.wrap (a5+1))
 else
  M.pure ()
def graph_reached_1_L1_B (G:Cl_graph_reached_1)(n:Nat)(a0:Addr)(a1:Sl)(a2:Int)(a3:Int):M (Unit) :=
 if decide (a3<a2) then
  M.bind (idxA a1 a3 1) fun x0 =>
  M.bind (ldL (li) x0) fun (x1:Int) =>
  M.bind (ldL .raw a0) fun (x2:Value) =>
  M.bind (graph_reached_1_D42_B G n x2 x1) fun x3 =>
  G.graph_reached_1_L1 a0 a1 a2 (IntKind.i64.wrap (a3+1))
 else
  M.pure ()
def graph_reached_1_B (G:Cl_graph_reached_1)(n:Nat)(a0:Int)(a1:Addr)(a2:Addr)(a3:Addr):M (Unit) :=
 M.bind (ldL .sl a1) fun (x0:Sl) =>
 M.bind (idxA x0 a0 1) fun x1 =>
 M.bind (ldL .bool x1) fun (x2:Bool) =>
 if x2 then
  M.pure ()
 else
  M.bind (ldL .sl a1) fun (x3:Sl) =>
  M.bind (idxA x3 a0 1) fun x4 =>
  M.bind (stN x4 [Value.bool true]) fun x5 =>
  M.bind (ldL .sl (a2.plus 0)) fun (x6:Sl) =>
  M.bind (idxA x6 a0 5) fun x7 =>
  M.bind (ldL .sl (x7.plus 3)) fun (x8:Sl) =>
  M.bind (G.graph_reached_1_L0 a0 a2 a3 x8 (↑x8.len:Int) 0) fun x9 =>
  M.bind (ldL .sl (a2.plus 0)) fun (x10:Sl) =>
  M.bind (idxA x10 a0 5) fun x11 =>
  M.bind (ldL .sl (x11.plus 4)) fun (x12:Sl) =>
  M.bind (G.graph_reached_1_L1 a3 x12 (↑x12.len:Int) 0) fun x13 =>
  M.pure ()
def Cl_graph_reached_1.at:Nat→Cl_graph_reached_1
 | 0=>⟨fun _ _ _ _ _ _=>M.fail,fun _ _ _ _=>M.fail,fun _ _ _ _=>M.fail⟩
 | n+1=>⟨graph_reached_1_L0_B (Cl_graph_reached_1.at n) n,graph_reached_1_L1_B (Cl_graph_reached_1.at n) n,graph_reached_1_B (Cl_graph_reached_1.at n) n⟩
def graph_reached_1_L0 (n:Nat)(a0:Int)(a1:Addr)(a2:Addr)(a3:Sl)(a4:Int)(a5:Int):M (Unit):=(Cl_graph_reached_1.at n).graph_reached_1_L0 a0 a1 a2 a3 a4 a5
theorem graph_reached_1_L0_succ (n:Nat)(a0:Int)(a1:Addr)(a2:Addr)(a3:Sl)(a4:Int)(a5:Int):graph_reached_1_L0 (n+1) a0 a1 a2 a3 a4 a5=graph_reached_1_L0_B (Cl_graph_reached_1.at n) n a0 a1 a2 a3 a4 a5:=rfl
def graph_reached_1_L1 (n:Nat)(a0:Addr)(a1:Sl)(a2:Int)(a3:Int):M (Unit):=(Cl_graph_reached_1.at n).graph_reached_1_L1 a0 a1 a2 a3
theorem graph_reached_1_L1_succ (n:Nat)(a0:Addr)(a1:Sl)(a2:Int)(a3:Int):graph_reached_1_L1 (n+1) a0 a1 a2 a3=graph_reached_1_L1_B (Cl_graph_reached_1.at n) n a0 a1 a2 a3:=rfl
def graph_reached_1 (n:Nat)(a0:Int)(a1:Addr)(a2:Addr)(a3:Addr):M (Unit):=(Cl_graph_reached_1.at n).graph_reached_1 a0 a1 a2 a3
theorem graph_reached_1_succ (n:Nat)(a0:Int)(a1:Addr)(a2:Addr)(a3:Addr):graph_reached_1 (n+1) a0 a1 a2 a3=graph_reached_1_B (Cl_graph_reached_1.at n) n a0 a1 a2 a3:=rfl
def graph_reached_1_D27 (n:Nat)(x:Value)(a0:Int):M (Unit):=graph_reached_1_D27_B (Cl_graph_reached_1.at n) n x a0
def graph_reached_1_D42 (n:Nat)(x:Value)(a0:Int):M (Unit):=graph_reached_1_D42_B (Cl_graph_reached_1.at n) n x a0
abbrev q43_E (n:Nat):Ent:=⟨43,[tyI,tyA,tyA,tyA],[],fun x=>graph_reached_1 n (x.1) (x.2.1) (x.2.2.1) (x.2.2.2)⟩
abbrev q43_L0_a:List (Nat×Ty):=[(0,tyI),(2,tyA),(3,tyA),(21,tyL),(22,tyI),(23,tyI)]
abbrev q43_L0_w:List Nat:=[6,23,24,25,26,27,28,29,30]
abbrev q43_L0_p:Path:=[0,1,0,1,1]
abbrev q43_L0_g (n:Nat)(x:TsDen (tys q43_L0_a)):M (Unit):=graph_reached_1_L0 n (x.1) (x.2.1) (x.2.2.1) (x.2.2.2.1) (x.2.2.2.2.1) (x.2.2.2.2.2)
abbrev q43_L0_l (n:Nat):LEnt:=⟨q43_L0_p,q43_L0_a,actL1 q43_L0_a [] q43_L0_w 0 (q43_L0_g n)⟩
abbrev q43_L1_a:List (Nat×Ty):=[(3,tyA),(36,tyL),(37,tyI),(38,tyI)]
abbrev q43_L1_w:List Nat:=[8,38,39,40,41,42,43,44,45]
abbrev q43_L1_p:Path:=[0,1,1,1,1]
abbrev q43_L1_g (n:Nat)(x:TsDen (tys q43_L1_a)):M (Unit):=graph_reached_1_L1 n (x.1) (x.2.1) (x.2.2.1) (x.2.2.2)
abbrev q43_L1_l (n:Nat):LEnt:=⟨q43_L1_p,q43_L1_a,actL1 q43_L1_a [] q43_L1_w 2 (q43_L1_g n)⟩
abbrev q43_dt (n:Nat):List DEnt:=[⟨27,[tyI],[],fun x a=>graph_reached_1_D27 n x (a)⟩,
 ⟨42,[tyI],[],fun x a=>graph_reached_1_D42 n x (a)⟩]
abbrev q43_lt (n:Nat):List LEnt:=[q43_L0_l n,q43_L1_l n]
def P_graph_reached_1 (n:Nat):Prop:=FnOK Tryz.prog (q43_E n)
theorem q43_L0_ok (n:Nat)(H:∀ m,m<n→P_graph_reached_1 m){W:Wr}(hW:subW W 46 q43_L0_w=true):LEntOK Tryz.prog (bodyOf Tryz.f43) W (q43_L0_l n) :=
 loop1_t (bodyOf Tryz.f43) q43_L0_p q43_L0_a [] 0 46 q43_L0_w [] (fun _=>[]) q43_dt (fun _=>[]) dr0 q43_L0_g (fun _=>[]) (by kernel_rfl) (fun _=>by kernel_rfl) (fun n x=>by kernel_rfl) n (fun m hm=>⟨.nil,.nil,(.cons (dent_ok (l:=[⟨43,[tyA,tyA,tyA],fun a c=>graph_reached_1 m (a) (c.1) (c.2.1) (c.2.2)⟩]) (.cons (fun a c=>callOK_cast (by kernel_rfl) ((H m hm) (a,c.1,c.2.1,c.2.2))) .nil) (fun x a=>by kernel_rfl)) (.cons (dent_ok (l:=[⟨43,[tyA,tyA,tyA],fun a c=>graph_reached_1 m (a) (c.1) (c.2.1) (c.2.2)⟩]) (.cons (fun a c=>callOK_cast (by kernel_rfl) ((H m hm) (a,c.1,c.2.1,c.2.2))) .nil) (fun x a=>by kernel_rfl)) .nil)),.nil,.nil⟩) hW
theorem q43_L1_ok (n:Nat)(H:∀ m,m<n→P_graph_reached_1 m){W:Wr}(hW:subW W 46 q43_L1_w=true):LEntOK Tryz.prog (bodyOf Tryz.f43) W (q43_L1_l n) :=
 loop1_t (bodyOf Tryz.f43) q43_L1_p q43_L1_a [] 2 46 q43_L1_w [] (fun _=>[]) q43_dt (fun _=>[]) dr0 q43_L1_g (fun _=>[]) (by kernel_rfl) (fun _=>by kernel_rfl) (fun n x=>by kernel_rfl) n (fun m hm=>⟨.nil,.nil,(.cons (dent_ok (l:=[⟨43,[tyA,tyA,tyA],fun a c=>graph_reached_1 m (a) (c.1) (c.2.1) (c.2.2)⟩]) (.cons (fun a c=>callOK_cast (by kernel_rfl) ((H m hm) (a,c.1,c.2.1,c.2.2))) .nil) (fun x a=>by kernel_rfl)) (.cons (dent_ok (l:=[⟨43,[tyA,tyA,tyA],fun a c=>graph_reached_1 m (a) (c.1) (c.2.1) (c.2.2)⟩]) (.cons (fun a c=>callOK_cast (by kernel_rfl) ((H m hm) (a,c.1,c.2.1,c.2.2))) .nil) (fun x a=>by kernel_rfl)) .nil)),.nil,.nil⟩) hW
theorem graph_reached_1_ok_step (n:Nat)(H:∀ m,m<n+1→P_graph_reached_1 m):FnOK Tryz.prog (q43_E (n+1)) :=
 fn_t (q43_E (n+1)) Tryz.f43 (bodyOf Tryz.f43) [(0,tyI),(1,tyA),(2,tyA),(3,tyA)] [] [] (q43_dt n) (q43_lt n) [] dr0 (by kernel_rfl) (by kernel_rfl) (by kernel_rfl) (by kernel_rfl) (by kernel_rfl) ⟨.nil,.nil,(.cons (dent_ok (l:=[⟨43,[tyA,tyA,tyA],fun a c=>graph_reached_1 n (a) (c.1) (c.2.1) (c.2.2)⟩]) (.cons (fun a c=>callOK_cast (by kernel_rfl) ((H n (Nat.lt_succ_self n)) (a,c.1,c.2.1,c.2.2))) .nil) (fun x a=>by kernel_rfl)) (.cons (dent_ok (l:=[⟨43,[tyA,tyA,tyA],fun a c=>graph_reached_1 n (a) (c.1) (c.2.1) (c.2.2)⟩]) (.cons (fun a c=>callOK_cast (by kernel_rfl) ((H n (Nat.lt_succ_self n)) (a,c.1,c.2.1,c.2.2))) .nil) (fun x a=>by kernel_rfl)) .nil)),(.cons (q43_L0_ok n (fun k hk=>H k (Nat.lt_succ_of_lt hk)) (by kernel_rfl)) (.cons (q43_L1_ok n (fun k hk=>H k (Nat.lt_succ_of_lt hk)) (by kernel_rfl)) .nil)),.nil⟩ (fun x=>by kernel_rfl)
theorem P_graph_reached_1_all:∀ n m,m<n→P_graph_reached_1 m:=by
 intro n
 induction n with
 | zero=>intro m hm;exact absurd hm (Nat.not_lt_zero m)
 | succ n ih =>
  intro m hm
  cases m with
  | zero=>exact fn_zero (fn:=Tryz.f43) (by kernel_rfl) (by kernel_rfl) (by kernel_rfl) (fun _=>rfl)
  | succ k=>exact graph_reached_1_ok_step k fun m hm=>ih m (by omega)
theorem graph_reached_1_ok (n:Nat):FnOK Tryz.prog (q43_E n):=(P_graph_reached_1_all (n+1) n (Nat.lt_succ_self n))
def graph_reached_D8 (n:Nat)(x:Value)(a0:Int):M (Unit) :=
 if isFn F_graph_reached_1 x then
  M.bind (asFn [tyA,tyA,tyA] x) fun (c:Addr×Addr×Addr)=>graph_reached_1 n a0 (c.1) (c.2.1) (c.2.2)
 else M.fail
def graph_reached (n:Nat)(a0:Sl×Int)(a1:Int)(a2:Sl):M (Unit) :=
 M.bind (newB none T_api_Graph [vsl a0.1,vi a0.2]) fun x0 =>
 M.bind (newB none T_sl_bool [vsl a2]) fun x1 =>
 M.bind (newB none T_fn_i64__ [Value.nilFunc]) fun x2 =>
 M.bind (stN (adr x2) [Value.func (Fn.func F_graph_reached_1) #[] #[Value.pointer (some (adr x1)),Value.pointer (some (adr x0)),Value.pointer (some (adr x2))]]) fun x3 =>
 M.bind (ldL .raw (adr x2)) fun (x4:Value) =>
 M.bind (graph_reached_D8 n x4 a1) fun x5 =>
 M.pure ()
abbrev q33_E (n:Nat):Ent:=⟨33,[.agg [.sl,.int .i64],tyI,tyL],[],fun x=>graph_reached n (x.1) (x.2.1) (x.2.2)⟩
abbrev q33_dt (n:Nat):List DEnt:=[⟨8,[tyI],[],fun x a=>graph_reached_D8 n x (a)⟩]
theorem graph_reached_ok (n:Nat):FnOK Tryz.prog (q33_E n) :=
 fn_t (q33_E n) Tryz.f33 (bodyOf Tryz.f33) [(0,.agg [.sl,.int .i64]),(1,tyI),(2,tyL)] [] [] (q33_dt n) [] [] dr0 (by kernel_rfl) (by kernel_rfl) (by kernel_rfl) (by kernel_rfl) (by kernel_rfl) ⟨.nil,.nil,(.cons (dent_ok (l:=[⟨43,[tyA,tyA,tyA],fun a c=>graph_reached_1 n (a) (c.1) (c.2.1) (c.2.2)⟩]) (.cons (fun a c=>callOK_cast (by kernel_rfl) ((graph_reached_1_ok n) (a,c.1,c.2.1,c.2.2))) .nil) (fun x a=>by kernel_rfl)) .nil),.nil,.nil⟩ (fun x=>by kernel_rfl)
def graph_name_L0_B (G:ByteArray→Int→Int→M ((Unit) ⊕ (Bool)))(n:Nat)(a0:ByteArray)(a1:Int)(a2:Int):M ((Unit) ⊕ (Bool)) :=
 if decide (a2<a1) then
  M.bind (idxS a0 a2) fun x0 =>
  if decide (97≤(↑x0.toNat:Int)) then
   if decide ((↑x0.toNat:Int)≤122) then
    G a0 a1 (IntKind.i64.wrap (a2+1))
   else
    if decide (65≤(↑x0.toNat:Int)) then
     if decide ((↑x0.toNat:Int)≤90) then
      G a0 a1 (IntKind.i64.wrap (a2+1))
     else
      if decide (48≤(↑x0.toNat:Int)) then
       if decide ((↑x0.toNat:Int)≤57) then
        G a0 a1 (IntKind.i64.wrap (a2+1))
       else
        if decide ((↑x0.toNat:Int)=95) then
         G a0 a1 (IntKind.i64.wrap (a2+1))
        else
         if decide ((↑x0.toNat:Int)=45) then
          G a0 a1 (IntKind.i64.wrap (a2+1))
         else
          if decide ((↑x0.toNat:Int)=46) then
           G a0 a1 (IntKind.i64.wrap (a2+1))
          else
           if !decide ((↑x0.toNat:Int)=58) then
            M.pure (Sum.inr false)
           else
            G a0 a1 (IntKind.i64.wrap (a2+1))
      else
       if decide ((↑x0.toNat:Int)=95) then
        G a0 a1 (IntKind.i64.wrap (a2+1))
       else
        if decide ((↑x0.toNat:Int)=45) then
         G a0 a1 (IntKind.i64.wrap (a2+1))
        else
         if decide ((↑x0.toNat:Int)=46) then
          G a0 a1 (IntKind.i64.wrap (a2+1))
         else
          if !decide ((↑x0.toNat:Int)=58) then
           M.pure (Sum.inr false)
          else
           G a0 a1 (IntKind.i64.wrap (a2+1))
    else
     if decide (48≤(↑x0.toNat:Int)) then
      if decide ((↑x0.toNat:Int)≤57) then
       G a0 a1 (IntKind.i64.wrap (a2+1))
      else
       if decide ((↑x0.toNat:Int)=95) then
        G a0 a1 (IntKind.i64.wrap (a2+1))
       else
        if decide ((↑x0.toNat:Int)=45) then
         G a0 a1 (IntKind.i64.wrap (a2+1))
        else
         if decide ((↑x0.toNat:Int)=46) then
          G a0 a1 (IntKind.i64.wrap (a2+1))
         else
          if !decide ((↑x0.toNat:Int)=58) then
           M.pure (Sum.inr false)
          else
           G a0 a1 (IntKind.i64.wrap (a2+1))
     else
      if decide ((↑x0.toNat:Int)=95) then
       G a0 a1 (IntKind.i64.wrap (a2+1))
      else
       if decide ((↑x0.toNat:Int)=45) then
        G a0 a1 (IntKind.i64.wrap (a2+1))
       else
        if decide ((↑x0.toNat:Int)=46) then
         G a0 a1 (IntKind.i64.wrap (a2+1))
        else
         if !decide ((↑x0.toNat:Int)=58) then
          M.pure (Sum.inr false)
         else
          G a0 a1 (IntKind.i64.wrap (a2+1))
  else
   if decide (65≤(↑x0.toNat:Int)) then
    if decide ((↑x0.toNat:Int)≤90) then
     G a0 a1 (IntKind.i64.wrap (a2+1))
    else
     if decide (48≤(↑x0.toNat:Int)) then
      if decide ((↑x0.toNat:Int)≤57) then
       G a0 a1 (IntKind.i64.wrap (a2+1))
      else
       if decide ((↑x0.toNat:Int)=95) then
        G a0 a1 (IntKind.i64.wrap (a2+1))
       else
        if decide ((↑x0.toNat:Int)=45) then
         G a0 a1 (IntKind.i64.wrap (a2+1))
        else
         if decide ((↑x0.toNat:Int)=46) then
          G a0 a1 (IntKind.i64.wrap (a2+1))
         else
          if !decide ((↑x0.toNat:Int)=58) then
           M.pure (Sum.inr false)
          else
           G a0 a1 (IntKind.i64.wrap (a2+1))
     else
      if decide ((↑x0.toNat:Int)=95) then
       G a0 a1 (IntKind.i64.wrap (a2+1))
      else
       if decide ((↑x0.toNat:Int)=45) then
        G a0 a1 (IntKind.i64.wrap (a2+1))
       else
        if decide ((↑x0.toNat:Int)=46) then
         G a0 a1 (IntKind.i64.wrap (a2+1))
        else
         if !decide ((↑x0.toNat:Int)=58) then
          M.pure (Sum.inr false)
         else
          G a0 a1 (IntKind.i64.wrap (a2+1))
   else
    if decide (48≤(↑x0.toNat:Int)) then
     if decide ((↑x0.toNat:Int)≤57) then
      G a0 a1 (IntKind.i64.wrap (a2+1))
     else
      if decide ((↑x0.toNat:Int)=95) then
       G a0 a1 (IntKind.i64.wrap (a2+1))
      else
       if decide ((↑x0.toNat:Int)=45) then
        G a0 a1 (IntKind.i64.wrap (a2+1))
       else
        if decide ((↑x0.toNat:Int)=46) then
         G a0 a1 (IntKind.i64.wrap (a2+1))
        else
         if !decide ((↑x0.toNat:Int)=58) then
          M.pure (Sum.inr false)
         else
          G a0 a1 (IntKind.i64.wrap (a2+1))
    else
     if decide ((↑x0.toNat:Int)=95) then
      G a0 a1 (IntKind.i64.wrap (a2+1))
     else
      if decide ((↑x0.toNat:Int)=45) then
       G a0 a1 (IntKind.i64.wrap (a2+1))
      else
       if decide ((↑x0.toNat:Int)=46) then
        G a0 a1 (IntKind.i64.wrap (a2+1))
       else
        if !decide ((↑x0.toNat:Int)=58) then
         M.pure (Sum.inr false)
        else
         G a0 a1 (IntKind.i64.wrap (a2+1))
 else
  M.pure (Sum.inl ())
def graph_name_L0:Nat→ByteArray→Int→Int→M ((Unit) ⊕ (Bool))
 | 0=>fun _ _ _=>M.fail
 | n+1=>graph_name_L0_B (graph_name_L0 n) n
def graph_name (n:Nat)(a0:ByteArray):M (Bool) :=
 M.bind (graph_name_L0 n a0 (↑a0.size:Int) 0) (sumElim (fun x0 =>
  if decide (1≤(↑a0.size:Int)) then
   M.pure (decide ((↑a0.size:Int)≤64))
  else
   M.pure false)
 (fun x0 =>
  M.pure x0))
abbrev q44_E (n:Nat):Ent:=⟨44,[tyS],[tyB],fun x=>graph_name n x⟩
abbrev q44_L0_a:List (Nat×Ty):=[(0,tyS),(6,tyI),(7,tyI)]
abbrev q44_L0_w:List Nat:=[2,3,4,7,8,9,10,11,12,13,14,15,16,17,18,19,20,21,22,23,24,25,26,27,28,29,30,31,32,33,34,35,36,37,38,39,40,41,42,43,44,45,46,47,48,49,50,51,52]
abbrev q44_L0_p:Path:=[0,1,0,1]
abbrev q44_L0_g (n:Nat)(x:TsDen (tys q44_L0_a)):M ((Unit) ⊕ (Bool)):=graph_name_L0 n (x.1) (x.2.1) (x.2.2)
abbrev q44_L0_l (n:Nat):LEnt:=⟨q44_L0_p,q44_L0_a,actL2 q44_L0_a [] [(2,tyB)] q44_L0_w 0 .ret (q44_L0_g n)⟩
abbrev q44_lt (n:Nat):List LEnt:=[q44_L0_l n]
theorem q44_L0_ok (n:Nat){W:Wr}(hW:subW W 61 q44_L0_w=true):LEntOK Tryz.prog (bodyOf Tryz.f44) W (q44_L0_l n) :=
 loop2_t (bodyOf Tryz.f44) q44_L0_p q44_L0_a [] [(2,tyB)] 0 .ret 61 q44_L0_w [] (fun _=>[]) (fun _=>[]) (fun _=>[]) dr0 q44_L0_g (fun _=>[]) (by kernel_rfl) (fun _=>by kernel_rfl) (fun n x=>by kernel_rfl) n (fun m hm=>⟨.nil,.nil,.nil,.nil,.nil⟩) hW
theorem graph_name_ok (n:Nat):FnOK Tryz.prog (q44_E n) :=
 fn_t (q44_E n) Tryz.f44 (bodyOf Tryz.f44) [(0,tyS)] [] [] [] (q44_lt n) [] dr0 (by kernel_rfl) (by kernel_rfl) (by kernel_rfl) (by kernel_rfl) (by kernel_rfl) ⟨.nil,.nil,.nil,(.cons (q44_L0_ok n (by kernel_rfl)) .nil),.nil⟩ (fun x=>by kernel_rfl)
def integer_trim_L0_B (G:Sl→M (Sl))(n:Nat)(a0:Sl):M (Sl) :=
 if decide (0<(↑a0.len:Int)) then
  M.bind (idxA a0 (IntKind.i64.wrap ((↑a0.len:Int) - 1)) 1) fun x0 =>
  M.bind (ldL (.int IntKind.u8) x0) fun (x1:Int) =>
  if decide (x1=0) then
   M.bind (sliceL a0 0 (IntKind.i64.wrap ((↑a0.len:Int) - 1)) T_u8 1) fun x2 =>
   G x2
  else
   M.pure a0
 else
  M.pure a0
def integer_trim_L0:Nat→Sl→M (Sl)
 | 0=>fun _=>M.fail
 | n+1=>integer_trim_L0_B (integer_trim_L0 n) n
theorem integer_trim_L0_succ (n:Nat):integer_trim_L0 (n+1)=integer_trim_L0_B (integer_trim_L0 n) n:=rfl
def integer_trim (n:Nat)(a0:Sl):M (Sl) :=
 M.bind (integer_trim_L0 n a0) fun x0 =>
 M.pure x0
abbrev q86_E (n:Nat):Ent:=⟨86,[tyL],[tyL],fun x=>integer_trim n x⟩
abbrev q86_L0_a:List (Nat×Ty):=[(0,tyL)]
abbrev q86_L0_w:List Nat:=[0,3,4,5,6,7,8,9,10,11,12,13,14,15,16,17,18,19]
abbrev q86_L0_p:Path:=[0,0,1]
abbrev q86_L0_g (n:Nat)(x:TsDen (tys q86_L0_a)):M (Sl):=integer_trim_L0 n x
abbrev q86_L0_l (n:Nat):LEnt:=⟨q86_L0_p,q86_L0_a,actL1 q86_L0_a [(0,tyL)] q86_L0_w 0 (q86_L0_g n)⟩
abbrev q86_lt (n:Nat):List LEnt:=[q86_L0_l n]
theorem q86_L0_ok (n:Nat){W:Wr}(hW:subW W 21 q86_L0_w=true):LEntOK Tryz.prog (bodyOf Tryz.f86) W (q86_L0_l n) :=
 loop1_t (bodyOf Tryz.f86) q86_L0_p q86_L0_a [(0,tyL)] 0 21 q86_L0_w [] (fun _=>[]) (fun _=>[]) (fun _=>[]) dr0 q86_L0_g (fun _=>[]) (by kernel_rfl) (fun _=>by kernel_rfl) (fun n x=>by kernel_rfl) n (fun m hm=>⟨.nil,.nil,.nil,.nil,.nil⟩) hW
theorem integer_trim_ok (n:Nat):FnOK Tryz.prog (q86_E n) :=
 fn_t (q86_E n) Tryz.f86 (bodyOf Tryz.f86) [(0,tyL)] [] [] [] (q86_lt n) [] dr0 (by kernel_rfl) (by kernel_rfl) (by kernel_rfl) (by kernel_rfl) (by kernel_rfl) ⟨.nil,.nil,.nil,(.cons (q86_L0_ok n (by kernel_rfl)) .nil),.nil⟩ (fun x=>by kernel_rfl)
def integer_read_L0_J0_B (G:Addr→Addr→ByteArray→Int→Int→M ((Unit) ⊕ (Bool)))(n:Nat)(a0:Addr)(a1:Addr)(a2:ByteArray)(a3:Int)(a4:Int)(a5:Int):M ((Unit) ⊕ (Bool)) :=
 M.bind (idxS a2 a3) fun x0 =>
 M.bind (ldL .sl (a1.plus 1)) fun (x1:Sl) =>
 M.bind (idxA x1 (IntKind.i64.wrap (IntKind.i64.wrap ((↑a2.size:Int) - 1) - a3)) 1) fun x2 =>
 M.bind (stN x2 [Value.int IntKind.u8 (IntKind.u8.wrap ((↑x0.toNat:Int) - 48))]) fun x3 =>
 G a0 a1 a2 a4 (IntKind.i64.wrap (a5+1))
def integer_read_L0_B (G:Addr→Addr→ByteArray→Int→Int→M ((Unit) ⊕ (Bool)))(n:Nat)(a0:Addr)(a1:Addr)(a2:ByteArray)(a3:Int)(a4:Int):M ((Unit) ⊕ (Bool)) :=
 if decide (a4<a3) then
  M.bind (idxS a2 a4) fun x0 =>
  if decide ((↑x0.toNat:Int)<48) then
   M.bind (stN a0 [Value.bool false,vsl0]) fun x1 =>
   M.pure (Sum.inr false)
  else
   M.bind (idxS a2 a4) fun x1 =>
   if decide (57<(↑x1.toNat:Int)) then
    M.bind (stN a0 [Value.bool false,vsl0]) fun x2 =>
    M.pure (Sum.inr false)
   else
    integer_read_L0_J0_B G n a0 a1 a2 a4 a3 a4
 else
  M.pure (Sum.inl ())
def integer_read_L0:Nat→Addr→Addr→ByteArray→Int→Int→M ((Unit) ⊕ (Bool))
 | 0=>fun _ _ _ _ _=>M.fail
 | n+1=>integer_read_L0_B (integer_read_L0 n) n
theorem integer_read_L0_succ (n:Nat):integer_read_L0 (n+1)=integer_read_L0_B (integer_read_L0 n) n:=rfl
def integer_read_L0_J0 (n:Nat)(a0:Addr)(a1:Addr)(a2:ByteArray)(a3:Int)(a4:Int)(a5:Int):M ((Unit) ⊕ (Bool)):=integer_read_L0_J0_B (integer_read_L0 n) n a0 a1 a2 a3 a4 a5
def integer_read_J1 (n:Nat)(a0:Addr)(a1:Addr)(a2:ByteArray):M ((Bool×Sl)×Bool) :=
 M.bind (mkS none T_u8 [Value.int IntKind.u8 0] (↑a2.size:Int) (↑a2.size:Int)) fun x0 =>
 M.bind (stN (a1.plus 1) [vsl x0]) fun x1 =>
 M.bind (integer_read_L0 n a0 a1 a2 (↑a2.size:Int) 0) (sumElim (fun x2 =>
  M.bind (ldL .sl (a1.plus 1)) fun (x3:Sl) =>
  M.bind (integer_trim n x3) fun x4 =>
  M.bind (stN (a1.plus 1) [vsl x4]) fun x5 =>
  M.bind (ldLs [.bool,.sl] a1) fun (x6:Bool×Sl) =>
  M.bind (stN a0 [Value.bool x6.1,vsl x6.2]) fun x7 =>
  M.bind (ldLs [.bool,.sl] a0) fun (x8:Bool×Sl) =>
  M.pure ((x8.1,x8.2),true))
 (fun x2 =>
  M.bind (ldLs [.bool,.sl] a0) fun (x3:Bool×Sl) =>
  M.pure ((x3.1,x3.2),x2)))
def integer_read_J0 (n:Nat)(a0:ByteArray)(a1:Addr)(a2:Addr)(a3:ByteArray):M ((Bool×Sl)×Bool) :=
 if decide ((↑a3.size:Int)=0) then
  M.bind (stN a1 [Value.bool false,vsl0]) fun x0 =>
  M.bind (ldLs [.bool,.sl] a1) fun (x1:Bool×Sl) =>
  M.pure ((x1.1,x1.2),false)
 else
  if decide (400<(↑a3.size:Int)) then
   M.bind (stN a1 [Value.bool false,vsl0]) fun x0 =>
   M.bind (ldLs [.bool,.sl] a1) fun (x1:Bool×Sl) =>
   M.pure ((x1.1,x1.2),false)
  else
   M.bind (idxS a3 0) fun x0 =>
   if decide ((↑x0.toNat:Int)=48) then
    if decide (1<(↑a0.size:Int)) then
     M.bind (stN a1 [Value.bool false,vsl0]) fun x1 =>
     M.bind (ldLs [.bool,.sl] a1) fun (x2:Bool×Sl) =>
     M.pure ((x2.1,x2.2),false)
    else
     integer_read_J1 n a1 a2 a3
   else
    integer_read_J1 n a1 a2 a3
def integer_read (n:Nat)(a0:ByteArray):M ((Bool×Sl)×Bool) :=
 M.bind (newB none T_integer_number [Value.bool false,vsl0]) fun x0 =>
 M.bind (newB none T_integer_number [Value.bool false,vsl0]) fun x1 =>
 M.bind (stN (adr x1) [Value.bool false,vsl0]) fun x2 =>
 if decide (1<(↑a0.size:Int)) then
  M.bind (idxS a0 0) fun x3 =>
  if decide ((↑x3.toNat:Int)=45) then
   M.bind (stN ((adr x1).plus 0) [Value.bool true]) fun x4 =>
   M.bind (sliceS a0 1 (↑a0.size:Int)) fun x5 =>
   integer_read_J0 n a0 (adr x0) (adr x1) x5
  else
   integer_read_J0 n a0 (adr x0) (adr x1) a0
 else
  integer_read_J0 n a0 (adr x0) (adr x1) a0
abbrev q70_E (n:Nat):Ent:=⟨70,[tyS],[.agg [.bool,.sl],tyB],fun x=>integer_read n x⟩
abbrev q70_L0_a:List (Nat×Ty):=[(2,tyA),(4,tyA),(5,tyS),(44,tyI),(45,tyI)]
abbrev q70_L0_w:List Nat:=[3,6,45,46,47,48,49,50,51,52,53,54,55,56,57,58,59,60,61,62,63,64,65,66,67,68,69,70,71]
abbrev q70_L0_p:Path:=[0,1,0,1,1,1,1,1,1]
abbrev q70_L0_g (n:Nat)(x:TsDen (tys q70_L0_a)):M ((Unit) ⊕ (Bool)):=integer_read_L0 n (x.1) (x.2.1) (x.2.2.1) (x.2.2.2.1) (x.2.2.2.2)
abbrev q70_L0_l (n:Nat):LEnt:=⟨q70_L0_p,q70_L0_a,actL2 q70_L0_a [] [(3,tyB)] q70_L0_w 0 .ret (q70_L0_g n)⟩
abbrev q70_ct (n:Nat):List Ent:=[q86_E n]
def q70_dr (i:Nat):Option (List (Nat×List Nat)):=cond (Nat.beq i 14) (some [(0,[]),(2,[]),(3,[]),(4,[]),(5,[]),(6,[]),(7,[]),(8,[]),(9,[]),(10,[]),(1,[]),(11,[]),(12,[])]) (none)
abbrev q70_L0_jt1 (n:Nat):List (JEnt ((Unit) ⊕ (Bool))):=[]
abbrev q70_L0_jt0 (n:Nat):List (JEnt ((Unit) ⊕ (Bool))):=⟨[1,1,0,0,1,1,0,0,1,0,1,1,1,1,1,1],[.blk 1,.code [1,1,1,0,0,1,0,1,1,1,1,1,1]],[(2,tyA),(4,tyA),(5,tyS),(6,tyI),(44,tyI),(45,tyI)],fun x=>integer_read_L0_J0 n (x.1) (x.2.1) (x.2.2.1) (x.2.2.2.1) (x.2.2.2.2.1) (x.2.2.2.2.2)⟩::q70_L0_jt1 n
abbrev q70_lt (n:Nat):List LEnt:=[q70_L0_l n]
abbrev q70_jt2 (n:Nat):List (JEnt ((Bool×Sl)×Bool)):=[]
abbrev q70_jt1 (n:Nat):List (JEnt ((Bool×Sl)×Bool)):=⟨[0,1,1,1,1,1],[.code [1,1,1,1,1,1]],[(2,tyA),(4,tyA),(5,tyS)],fun x=>integer_read_J1 n (x.1) (x.2.1) (x.2.2)⟩::q70_jt2 n
abbrev q70_jt0 (n:Nat):List (JEnt ((Bool×Sl)×Bool)):=⟨[0,0,1,1,1,1],[.code [1,0,1,1,1,1],.code [1,1,1,1,1]],[(0,tyS),(2,tyA),(4,tyA),(5,tyS)],fun x=>integer_read_J0 n (x.1) (x.2.1) (x.2.2.1) (x.2.2.2)⟩::q70_jt1 n
theorem q70_L0_ok (n:Nat){W:Wr}(hW:subW W 77 q70_L0_w=true):LEntOK Tryz.prog (bodyOf Tryz.f70) W (q70_L0_l n) :=
 loop2_t (bodyOf Tryz.f70) q70_L0_p q70_L0_a [] [(3,tyB)] 0 .ret 77 q70_L0_w [] q70_ct (fun _=>[]) (fun _=>[]) q70_dr q70_L0_g q70_L0_jt0 (by kernel_rfl) (fun _=>by kernel_rfl) (fun n x=>by kernel_rfl) n (fun m hm=>⟨.nil,(.cons (integer_trim_ok m) .nil),.nil,.nil,(.cons (fun x=>by kernel_rfl) .nil)⟩) hW
theorem integer_read_ok (n:Nat):FnOK Tryz.prog (q70_E n) :=
 fn_t (q70_E n) Tryz.f70 (bodyOf Tryz.f70) [(0,tyS)] [] (q70_ct n) [] (q70_lt n) (q70_jt0 n) q70_dr (by kernel_rfl) (by kernel_rfl) (by kernel_rfl) (by kernel_rfl) (by kernel_rfl) ⟨.nil,(.cons (integer_trim_ok n) .nil),.nil,(.cons (q70_L0_ok n (by kernel_rfl)) .nil),(.cons (fun x=>by kernel_rfl) (.cons (fun x=>by kernel_rfl) .nil))⟩ (fun x=>by kernel_rfl)
def integer_Valid (n:Nat)(a0:ByteArray):M (Bool) :=
 M.bind (integer_read n a0) fun x0 =>
 M.bind (newB none T_integer_number [Value.bool false,vsl0]) fun x1 =>
 M.bind (stN (adr x1) [Value.bool x0.1.1,vsl x0.1.2]) fun x2 =>
 M.pure x0.2
abbrev q54_E (n:Nat):Ent:=⟨54,[tyS],[tyB],fun x=>integer_Valid n x⟩
abbrev q54_ct (n:Nat):List Ent:=[q70_E n]
theorem integer_Valid_ok (n:Nat):FnOK Tryz.prog (q54_E n) :=
 fn_t (q54_E n) Tryz.f54 (bodyOf Tryz.f54) [(0,tyS)] [] (q54_ct n) [] [] [] dr0 (by kernel_rfl) (by kernel_rfl) (by kernel_rfl) (by kernel_rfl) (by kernel_rfl) ⟨.nil,(.cons (integer_read_ok n) .nil),.nil,.nil,.nil⟩ (fun x=>by kernel_rfl)
def decimal_norm_L1_B (G:Bool→Sl→Int→Addr→M (Sl×Int))(n:Nat)(a0:Bool)(a1:Sl)(a2:Int)(a3:Addr):M (Sl×Int) :=
 if decide (0<(↑a1.len:Int)) then
  M.bind (idxA a1 (IntKind.i64.wrap ((↑a1.len:Int) - 1)) 1) fun x0 =>
  M.bind (ldL (.int IntKind.u8) x0) fun (x1:Int) =>
  if decide (x1=0) then
   M.bind (sliceL a1 0 (IntKind.i64.wrap ((↑a1.len:Int) - 1)) T_u8 1) fun x2 =>
   G a0 x2 (IntKind.i64.wrap (a2+1)) a3
  else
   M.pure (a1,a2)
 else
  M.pure (a1,a2)
def decimal_norm_L1:Nat→Bool→Sl→Int→Addr→M (Sl×Int)
 | 0=>fun _ _ _ _=>M.fail
 | n+1=>decimal_norm_L1_B (decimal_norm_L1 n) n
theorem decimal_norm_L1_succ (n:Nat):decimal_norm_L1 (n+1)=decimal_norm_L1_B (decimal_norm_L1 n) n:=rfl
def decimal_norm_L0_B (G:Bool→Sl→Int→Addr→M (Sl))(n:Nat)(a0:Bool)(a1:Sl)(a2:Int)(a3:Addr):M (Sl) :=
 if decide (0<(↑a1.len:Int)) then
  M.bind (idxA a1 0 1) fun x0 =>
  M.bind (ldL (.int IntKind.u8) x0) fun (x1:Int) =>
  if decide (x1=0) then
   M.bind (sliceL a1 1 (↑a1.len:Int) T_u8 1) fun x2 =>
   G a0 x2 a2 a3
  else
   M.pure a1
 else
  M.pure a1
def decimal_norm_L0:Nat→Bool→Sl→Int→Addr→M (Sl)
 | 0=>fun _ _ _ _=>M.fail
 | n+1=>decimal_norm_L0_B (decimal_norm_L0 n) n
theorem decimal_norm_L0_succ (n:Nat):decimal_norm_L0 (n+1)=decimal_norm_L0_B (decimal_norm_L0 n) n:=rfl
def decimal_norm (n:Nat)(a0:Bool)(a1:Sl)(a2:Int):M (Bool×Sl×Int) :=
 M.bind (newB none T_decimal_num [Value.bool false,vsl0,vi 0]) fun x0 =>
 M.bind (decimal_norm_L0 n a0 a1 a2 (adr x0)) fun x1 =>
 M.bind (decimal_norm_L1 n a0 x1 a2 (adr x0)) fun x2 =>
 if decide ((↑x2.1.len:Int)=0) then
  M.bind (stN (adr x0) [Value.bool false,vsl0,vi 0]) fun x3 =>
  M.bind (ldLs [.bool,.sl,li] (adr x0)) fun (x4:Bool×Sl×Int) =>
  M.pure (x4.1,x4.2.1,x4.2.2)
 else
  M.bind (mkS none T_u8 [Value.int IntKind.u8 0] (↑x2.1.len:Int) (↑x2.1.len:Int)) fun x3 =>
  M.bind (copyS x3 x2.1 1) fun x4 =>
  M.bind (stN (adr x0) [Value.bool a0,vsl x3,vi x2.2]) fun x5 =>
  M.bind (ldLs [.bool,.sl,li] (adr x0)) fun (x6:Bool×Sl×Int) =>
  M.pure (x6.1,x6.2.1,x6.2.2)
abbrev q90_E (n:Nat):Ent:=⟨90,[tyB,tyL,tyI],[.agg [.bool,.sl,.int .i64]],fun x=>decimal_norm n (x.1) (x.2.1) (x.2.2)⟩
abbrev q90_L0_a:List (Nat×Ty):=[(0,tyB),(1,tyL),(2,tyI),(6,tyA)]
abbrev q90_L0_w:List Nat:=[1,8,9,10,11,12,13,14,15,16,17,18]
abbrev q90_L0_p:Path:=[0,0,1]
abbrev q90_L0_g (n:Nat)(x:TsDen (tys q90_L0_a)):M (Sl):=decimal_norm_L0 n (x.1) (x.2.1) (x.2.2.1) (x.2.2.2)
abbrev q90_L0_l (n:Nat):LEnt:=⟨q90_L0_p,q90_L0_a,actL1 q90_L0_a [(1,tyL)] q90_L0_w 0 (q90_L0_g n)⟩
abbrev q90_L1_a:List (Nat×Ty):=[(0,tyB),(1,tyL),(2,tyI),(6,tyA)]
abbrev q90_L1_w:List Nat:=[1,2,19,20,21,22,23,24,25,26,27,28,29,30,31,32,33,34,35,36,37]
abbrev q90_L1_p:Path:=[0,0,1,1]
abbrev q90_L1_g (n:Nat)(x:TsDen (tys q90_L1_a)):M (Sl×Int):=decimal_norm_L1 n (x.1) (x.2.1) (x.2.2.1) (x.2.2.2)
abbrev q90_L1_l (n:Nat):LEnt:=⟨q90_L1_p,q90_L1_a,actL1 q90_L1_a [(1,tyL),(2,tyI)] q90_L1_w 2 (q90_L1_g n)⟩
abbrev q90_lt (n:Nat):List LEnt:=[q90_L0_l n,q90_L1_l n]
theorem q90_L1_ok (n:Nat){W:Wr}(hW:subW W 52 q90_L1_w=true):LEntOK Tryz.prog (bodyOf Tryz.f90) W (q90_L1_l n) :=
 loop1_t (bodyOf Tryz.f90) q90_L1_p q90_L1_a [(1,tyL),(2,tyI)] 2 52 q90_L1_w [] (fun _=>[]) (fun _=>[]) (fun _=>[]) dr0 q90_L1_g (fun _=>[]) (by kernel_rfl) (fun _=>by kernel_rfl) (fun n x=>by kernel_rfl) n (fun m hm=>⟨.nil,.nil,.nil,.nil,.nil⟩) hW
theorem q90_L0_ok (n:Nat){W:Wr}(hW:subW W 52 q90_L0_w=true):LEntOK Tryz.prog (bodyOf Tryz.f90) W (q90_L0_l n) :=
 loop1_t (bodyOf Tryz.f90) q90_L0_p q90_L0_a [(1,tyL)] 0 52 q90_L0_w [] (fun _=>[]) (fun _=>[]) (fun _=>[]) dr0 q90_L0_g (fun _=>[]) (by kernel_rfl) (fun _=>by kernel_rfl) (fun n x=>by kernel_rfl) n (fun m hm=>⟨.nil,.nil,.nil,.nil,.nil⟩) hW
theorem decimal_norm_ok (n:Nat):FnOK Tryz.prog (q90_E n) :=
 fn_t (q90_E n) Tryz.f90 (bodyOf Tryz.f90) [(0,tyB),(1,tyL),(2,tyI)] [] [] [] (q90_lt n) [] dr0 (by kernel_rfl) (by kernel_rfl) (by kernel_rfl) (by kernel_rfl) (by kernel_rfl) ⟨.nil,.nil,.nil,(.cons (q90_L0_ok n (by kernel_rfl)) (.cons (q90_L1_ok n (by kernel_rfl)) .nil)),.nil⟩ (fun x=>by kernel_rfl)
def decimal_bytes_L0_B (G:ByteArray→Sl→Int→Int→M (Unit))(n:Nat)(a0:ByteArray)(a1:Sl)(a2:Int)(a3:Int):M (Unit) :=
 if decide (a3<a2) then
  M.bind (idxS a0 a3) fun x0 =>
  M.bind (idxA a1 a3 1) fun x1 =>
  M.bind (stN x1 [Value.int IntKind.u8 (IntKind.u8.wrap ((↑x0.toNat:Int) - 48))]) fun x2 =>
  G a0 a1 a2 (IntKind.i64.wrap (a3+1))
 else
  M.pure ()
def decimal_bytes_L0:Nat→ByteArray→Sl→Int→Int→M (Unit)
 | 0=>fun _ _ _ _=>M.fail
 | n+1=>decimal_bytes_L0_B (decimal_bytes_L0 n) n
theorem decimal_bytes_L0_succ (n:Nat):decimal_bytes_L0 (n+1)=decimal_bytes_L0_B (decimal_bytes_L0 n) n:=rfl
def decimal_bytes (n:Nat)(a0:ByteArray):M (Sl) :=
 M.bind (mkS none T_u8 [Value.int IntKind.u8 0] (↑a0.size:Int) (↑a0.size:Int)) fun x0 =>
 M.bind (decimal_bytes_L0 n a0 x0 (↑a0.size:Int) 0) fun x1 =>
 M.pure x0
abbrev q91_E (n:Nat):Ent:=⟨91,[tyS],[tyL],fun x=>decimal_bytes n x⟩
abbrev q91_L0_a:List (Nat×Ty):=[(0,tyS),(3,tyL),(9,tyI),(10,tyI)]
abbrev q91_L0_w:List Nat:=[4,10,11,12,13,14,15,16,17,18,19,20]
abbrev q91_L0_p:Path:=[0,1,0,1,1]
abbrev q91_L0_g (n:Nat)(x:TsDen (tys q91_L0_a)):M (Unit):=decimal_bytes_L0 n (x.1) (x.2.1) (x.2.2.1) (x.2.2.2)
abbrev q91_L0_l (n:Nat):LEnt:=⟨q91_L0_p,q91_L0_a,actL1 q91_L0_a [] q91_L0_w 0 (q91_L0_g n)⟩
abbrev q91_lt (n:Nat):List LEnt:=[q91_L0_l n]
theorem q91_L0_ok (n:Nat){W:Wr}(hW:subW W 22 q91_L0_w=true):LEntOK Tryz.prog (bodyOf Tryz.f91) W (q91_L0_l n) :=
 loop1_t (bodyOf Tryz.f91) q91_L0_p q91_L0_a [] 0 22 q91_L0_w [] (fun _=>[]) (fun _=>[]) (fun _=>[]) dr0 q91_L0_g (fun _=>[]) (by kernel_rfl) (fun _=>by kernel_rfl) (fun n x=>by kernel_rfl) n (fun m hm=>⟨.nil,.nil,.nil,.nil,.nil⟩) hW
theorem decimal_bytes_ok (n:Nat):FnOK Tryz.prog (q91_E n) :=
 fn_t (q91_E n) Tryz.f91 (bodyOf Tryz.f91) [(0,tyS)] [] [] [] (q91_lt n) [] dr0 (by kernel_rfl) (by kernel_rfl) (by kernel_rfl) (by kernel_rfl) (by kernel_rfl) ⟨.nil,.nil,.nil,(.cons (q91_L0_ok n (by kernel_rfl)) .nil),.nil⟩ (fun x=>by kernel_rfl)
def decimal_num_limit (n:Nat)(a0:Bool×Sl×Int):M (Int) :=
 M.bind (newB none T_decimal_num [Value.bool a0.1,vsl a0.2.1,vi a0.2.2]) fun x0 =>
 M.bind (ldL .sl ((adr x0).plus 1)) fun (x1:Sl) =>
 if decide (400<(↑x1.len:Int)) then
  M.pure 6
 else
  M.bind (ldL (li) ((adr x0).plus 2)) fun (x2:Int) =>
  if decide (x2 < -2000) then
   M.pure 2
  else
   M.bind (ldL (li) ((adr x0).plus 2)) fun (x3:Int) =>
   if decide (2000<x3) then
    M.pure 2
   else
    M.pure 0
abbrev q92_E (n:Nat):Ent:=⟨92,[.agg [.bool,.sl,.int .i64]],[tyI],fun x=>decimal_num_limit n x⟩
theorem decimal_num_limit_ok (n:Nat):FnOK Tryz.prog (q92_E n) :=
 fn_t (q92_E n) Tryz.f92 (bodyOf Tryz.f92) [(0,.agg [.bool,.sl,.int .i64])] [] [] [] [] [] dr0 (by kernel_rfl) (by kernel_rfl) (by kernel_rfl) (by kernel_rfl) (by kernel_rfl) ⟨.nil,.nil,.nil,.nil,.nil⟩ (fun x=>by kernel_rfl)
def decimal_num_sign (n:Nat)(a0:Bool×Sl×Int):M (ByteArray) :=
 M.bind (newB none T_decimal_num [Value.bool a0.1,vsl a0.2.1,vi a0.2.2]) fun x0 =>
 M.bind (ldL .bool ((adr x0).plus 0)) fun (x1:Bool) =>
 if x1 then
  M.pure (ofBytes [45])
 else
  M.pure (ofBytes [])
abbrev q147_E (n:Nat):Ent:=⟨147,[.agg [.bool,.sl,.int .i64]],[tyS],fun x=>decimal_num_sign n x⟩
theorem decimal_num_sign_ok (n:Nat):FnOK Tryz.prog (q147_E n) :=
 fn_t (q147_E n) Tryz.f147 (bodyOf Tryz.f147) [(0,.agg [.bool,.sl,.int .i64])] [] [] [] [] [] dr0 (by kernel_rfl) (by kernel_rfl) (by kernel_rfl) (by kernel_rfl) (by kernel_rfl) ⟨.nil,.nil,.nil,.nil,.nil⟩ (fun x=>by kernel_rfl)
def decimal_num_digits_L0_B (G:Sl→Sl→Int→Int→M (Unit))(n:Nat)(a0:Sl)(a1:Sl)(a2:Int)(a3:Int):M (Unit) :=
 if decide (a3<a2) then
  M.bind (idxA a1 a3 1) fun x0 =>
  M.bind (ldL (.int IntKind.u8) x0) fun (x1:Int) =>
  M.bind (idxA a0 a3 1) fun x2 =>
  M.bind (stN x2 [Value.int IntKind.u8 (IntKind.u8.wrap (48+x1))]) fun x3 =>
  G a0 a1 a2 (IntKind.i64.wrap (a3+1))
 else
  M.pure ()
def decimal_num_digits_L0:Nat→Sl→Sl→Int→Int→M (Unit)
 | 0=>fun _ _ _ _=>M.fail
 | n+1=>decimal_num_digits_L0_B (decimal_num_digits_L0 n) n
theorem decimal_num_digits_L0_succ (n:Nat):decimal_num_digits_L0 (n+1)=decimal_num_digits_L0_B (decimal_num_digits_L0 n) n:=rfl
def decimal_num_digits (n:Nat)(a0:Bool×Sl×Int):M (ByteArray) :=
 M.bind (newB none T_decimal_num [Value.bool a0.1,vsl a0.2.1,vi a0.2.2]) fun x0 =>
 M.bind (ldL .sl ((adr x0).plus 1)) fun (x1:Sl) =>
 M.bind (mkS none T_u8 [Value.int IntKind.u8 0] (↑x1.len:Int) (↑x1.len:Int)) fun x2 =>
 M.bind (ldL .sl ((adr x0).plus 1)) fun (x3:Sl) =>
 M.bind (decimal_num_digits_L0 n x2 x3 (↑x3.len:Int) 0) fun x4 =>
 M.bind (strOf x2) fun x5 =>
 M.pure x5
abbrev q148_E (n:Nat):Ent:=⟨148,[.agg [.bool,.sl,.int .i64]],[tyS],fun x=>decimal_num_digits n x⟩
abbrev q148_L0_a:List (Nat×Ty):=[(3,tyL),(11,tyL),(12,tyI),(13,tyI)]
abbrev q148_L0_w:List Nat:=[4,5,13,14,15,16,17,18,19,20,21,22,23]
abbrev q148_L0_p:Path:=[0,1,0,1,1]
abbrev q148_L0_g (n:Nat)(x:TsDen (tys q148_L0_a)):M (Unit):=decimal_num_digits_L0 n (x.1) (x.2.1) (x.2.2.1) (x.2.2.2)
abbrev q148_L0_l (n:Nat):LEnt:=⟨q148_L0_p,q148_L0_a,actL1 q148_L0_a [] q148_L0_w 0 (q148_L0_g n)⟩
abbrev q148_lt (n:Nat):List LEnt:=[q148_L0_l n]
theorem q148_L0_ok (n:Nat){W:Wr}(hW:subW W 26 q148_L0_w=true):LEntOK Tryz.prog (bodyOf Tryz.f148) W (q148_L0_l n) :=
 loop1_t (bodyOf Tryz.f148) q148_L0_p q148_L0_a [] 0 26 q148_L0_w [] (fun _=>[]) (fun _=>[]) (fun _=>[]) dr0 q148_L0_g (fun _=>[]) (by kernel_rfl) (fun _=>by kernel_rfl) (fun n x=>by kernel_rfl) n (fun m hm=>⟨.nil,.nil,.nil,.nil,.nil⟩) hW
theorem decimal_num_digits_ok (n:Nat):FnOK Tryz.prog (q148_E n) :=
 fn_t (q148_E n) Tryz.f148 (bodyOf Tryz.f148) [(0,.agg [.bool,.sl,.int .i64])] [] [] [] (q148_lt n) [] dr0 (by kernel_rfl) (by kernel_rfl) (by kernel_rfl) (by kernel_rfl) (by kernel_rfl) ⟨.nil,.nil,.nil,(.cons (q148_L0_ok n (by kernel_rfl)) .nil),.nil⟩ (fun x=>by kernel_rfl)
def decimal_num_coef (n:Nat)(a0:Bool×Sl×Int):M (ByteArray) :=
 M.bind (newB none T_decimal_num [Value.bool a0.1,vsl a0.2.1,vi a0.2.2]) fun x0 =>
 M.bind (ldL .sl ((adr x0).plus 1)) fun (x1:Sl) =>
 if decide ((↑x1.len:Int)=0) then
  M.pure (ofBytes [48])
 else
  M.bind (ldLs [.bool,.sl,li] (adr x0)) fun (x2:Bool×Sl×Int) =>
  M.bind (ldLs [.bool,.sl,li] (adr x0)) fun (x3:Bool×Sl×Int) =>
  M.bind (chk [some (adr x0)] (decimal_num_sign n (x2.1,x2.2.1,x2.2.2))) fun x4 =>
  M.bind (decimal_num_digits n (x3.1,x3.2.1,x3.2.2)) fun x5 =>
  M.bind (catS x4 x5) fun x6 =>
  M.pure x6
abbrev q118_E (n:Nat):Ent:=⟨118,[.agg [.bool,.sl,.int .i64]],[tyS],fun x=>decimal_num_coef n x⟩
abbrev q118_ct (n:Nat):List Ent:=[q147_E n,q148_E n]
def q118_dr (i:Nat):Option (List (Nat×List Nat)):=cond (Nat.beq i 3) (some [(0,[]),(2,[]),(1,[2]),(3,[]),(4,[]),(5,[])]) (none)
theorem decimal_num_coef_ok (n:Nat):FnOK Tryz.prog (q118_E n) :=
 fn_t (q118_E n) Tryz.f118 (bodyOf Tryz.f118) [(0,.agg [.bool,.sl,.int .i64])] [] (q118_ct n) [] [] [] q118_dr (by kernel_rfl) (by kernel_rfl) (by kernel_rfl) (by kernel_rfl) (by kernel_rfl) ⟨.nil,(.cons (decimal_num_sign_ok n) (.cons (decimal_num_digits_ok n) .nil)),.nil,.nil,.nil⟩ (fun x=>by kernel_rfl)
def decimal_num_text (n:Nat)(a0:Bool×Sl×Int):M (ByteArray) :=
 M.bind (newB none T_decimal_num [Value.bool a0.1,vsl a0.2.1,vi a0.2.2]) fun x0 =>
 M.bind (ldLs [.bool,.sl,li] (adr x0)) fun (x1:Bool×Sl×Int) =>
 M.bind (ldL (li) ((adr x0).plus 2)) fun (x2:Int) =>
 M.bind (chk [some ((adr x0).plus 2)] (decimal_num_coef n (x1.1,x1.2.1,x1.2.2))) fun x3 =>
 M.bind (catS x3 (ofBytes [101])) fun x4 =>
 M.bind (strconv_Itoa n x2) fun x5 =>
 M.bind (catS x4 x5) fun x6 =>
 M.pure x6
abbrev q93_E (n:Nat):Ent:=⟨93,[.agg [.bool,.sl,.int .i64]],[tyS],fun x=>decimal_num_text n x⟩
abbrev q93_ct (n:Nat):List Ent:=[q118_E n,⟨119,[tyI],[tyS],fun x=>strconv_Itoa n x⟩]
def q93_dr (i:Nat):Option (List (Nat×List Nat)):=cond (Nat.beq i 1) (some [(3,[]),(0,[]),(4,[]),(1,[4]),(2,[]),(5,[]),(6,[]),(7,[])]) (none)
theorem decimal_num_text_ok (n:Nat):FnOK Tryz.prog (q93_E n) :=
 fn_t (q93_E n) Tryz.f93 (bodyOf Tryz.f93) [(0,.agg [.bool,.sl,.int .i64])] [] (q93_ct n) [] [] [] q93_dr (by kernel_rfl) (by kernel_rfl) (by kernel_rfl) (by kernel_rfl) (by kernel_rfl) ⟨.nil,(.cons (decimal_num_coef_ok n) (.cons (strconv_Itoa_ok n) .nil)),.nil,.nil,.nil⟩ (fun x=>by kernel_rfl)
def decimal_read_J0 (n:Nat)(a0:ByteArray)(a1:Addr)(a2:Int):M ((Bool×Sl×Int)×Bool) :=
 M.bind (sliceS a0 (IntKind.i64.wrap (a2+1)) (↑a0.size:Int)) fun x0 =>
 M.bind (strconv_Atoi n x0) fun x1 =>
 M.bind (isNilI x1.2) fun x2 =>
 if !x2 then
  M.bind (stN a1 [Value.bool false,vsl0,vi 0]) fun x3 =>
  M.bind (ldLs [.bool,.sl,li] a1) fun (x4:Bool×Sl×Int) =>
  M.pure ((x4.1,x4.2.1,x4.2.2),false)
 else
  M.bind (sliceS a0 0 a2) fun x3 =>
  M.bind (strings_TrimPrefix n x3 (ofBytes [45])) fun x4 =>
  M.bind (reserve 9) fun x5 =>
  M.bind (idxS a0 0) fun x6 =>
  M.bind (newB (some (x5+7)) T_decimal_num [Value.bool false,vsl0,vi 0]) fun x7 =>
  M.bind (chk [none] (chkB (x5+7) (decimal_bytes n x4))) fun x8 =>
  M.bind (chk [none] (chkB (x5+7) (decimal_norm n (decide ((↑x6.toNat:Int)=45)) x8 x1.1))) fun x9 =>
  M.bind (stN (adr x7) [Value.bool x9.1,vsl x9.2.1,vi x9.2.2]) fun x10 =>
  M.bind (ldLs [.bool,.sl,li] (adr x7)) fun (x11:Bool×Sl×Int) =>
  M.bind (ldLs [.bool,.sl,li] (adr x7)) fun (x12:Bool×Sl×Int) =>
  M.bind (chk [some (adr x7)] (decimal_num_limit n (x12.1,x12.2.1,x12.2.2))) fun x13 =>
  if decide (x13=0) then
   M.bind (ldLs [.bool,.sl,li] (adr x7)) fun (x14:Bool×Sl×Int) =>
   M.bind (chk [some (adr x7)] (decimal_num_text n (x14.1,x14.2.1,x14.2.2))) fun x15 =>
   M.bind (stN a1 [Value.bool x11.1,vsl x11.2.1,vi x11.2.2]) fun x16 =>
   M.bind (ldLs [.bool,.sl,li] a1) fun (x17:Bool×Sl×Int) =>
   M.pure ((x17.1,x17.2.1,x17.2.2),eqS x15 a0)
  else
   M.bind (stN a1 [Value.bool x11.1,vsl x11.2.1,vi x11.2.2]) fun x14 =>
   M.bind (ldLs [.bool,.sl,li] a1) fun (x15:Bool×Sl×Int) =>
   M.pure ((x15.1,x15.2.1,x15.2.2),false)
def decimal_read (n:Nat)(a0:ByteArray):M ((Bool×Sl×Int)×Bool) :=
 M.bind (newB none T_decimal_num [Value.bool false,vsl0,vi 0]) fun x0 =>
 M.bind (strings_IndexByte n a0 101) fun x1 =>
 if decide (x1<0) then
  M.bind (stN (adr x0) [Value.bool false,vsl0,vi 0]) fun x2 =>
  M.bind (ldLs [.bool,.sl,li] (adr x0)) fun (x3:Bool×Sl×Int) =>
  M.pure ((x3.1,x3.2.1,x3.2.2),false)
 else
  M.bind (sliceS a0 0 x1) fun x2 =>
  M.bind (integer_Valid n x2) fun x3 =>
  if !x3 then
   M.bind (stN (adr x0) [Value.bool false,vsl0,vi 0]) fun x4 =>
   M.bind (ldLs [.bool,.sl,li] (adr x0)) fun (x5:Bool×Sl×Int) =>
   M.pure ((x5.1,x5.2.1,x5.2.2),false)
  else
   if decide (6<IntKind.i64.wrap ((↑a0.size:Int) - x1)) then
    M.bind (stN (adr x0) [Value.bool false,vsl0,vi 0]) fun x4 =>
    M.bind (ldLs [.bool,.sl,li] (adr x0)) fun (x5:Bool×Sl×Int) =>
    M.pure ((x5.1,x5.2.1,x5.2.2),false)
   else
    decimal_read_J0 n a0 (adr x0) x1
abbrev q71_E (n:Nat):Ent:=⟨71,[tyS],[.agg [.bool,.sl,.int .i64],tyB],fun x=>decimal_read n x⟩
abbrev q71_ct (n:Nat):List Ent:=[q54_E n,⟨87,[tyS,.one (.int .u8)],[tyI],fun x=>strings_IndexByte n (x.1) (x.2)⟩,⟨88,[tyS],[tyI,tyR],fun x=>strconv_Atoi n x⟩,⟨89,[tyS,tyS],[tyS],fun x=>strings_TrimPrefix n (x.1) (x.2)⟩,q90_E n,q91_E n,q92_E n,q93_E n]
def q71_dr (i:Nat):Option (List (Nat×List Nat)):=cond (Nat.beq i 8) (some [(0,[]),(1,[]),(2,[]),(3,[]),(5,[]),(7,[]),(4,[7]),(6,[7]),(8,[])]) (cond (Nat.beq i 9) (some [(0,[]),(1,[]),(2,[0]),(3,[]),(4,[]),(7,[]),(5,[]),(6,[0]),(8,[]),(9,[]),(10,[]),(11,[])]) (none))
abbrev q71_jt1 (n:Nat):List (JEnt ((Bool×Sl×Int)×Bool)):=[]
abbrev q71_jt0 (n:Nat):List (JEnt ((Bool×Sl×Int)×Bool)):=⟨[0,1,1,1],[.code [1,1,1,1]],[(0,tyS),(2,tyA),(4,tyI)],fun x=>decimal_read_J0 n (x.1) (x.2.1) (x.2.2)⟩::q71_jt1 n
theorem decimal_read_ok (n:Nat):FnOK Tryz.prog (q71_E n) :=
 fn_t (q71_E n) Tryz.f71 (bodyOf Tryz.f71) [(0,tyS)] [] (q71_ct n) [] [] (q71_jt0 n) q71_dr (by kernel_rfl) (by kernel_rfl) (by kernel_rfl) (by kernel_rfl) (by kernel_rfl) ⟨.nil,(.cons (integer_Valid_ok n) (.cons (strings_IndexByte_ok n) (.cons (strconv_Atoi_ok n) (.cons (strings_TrimPrefix_ok n) (.cons (decimal_norm_ok n) (.cons (decimal_bytes_ok n) (.cons (decimal_num_limit_ok n) (.cons (decimal_num_text_ok n) .nil)))))))),.nil,.nil,(.cons (fun x=>by kernel_rfl) .nil)⟩ (fun x=>by kernel_rfl)
def decimal_Valid (n:Nat)(a0:ByteArray):M (Bool) :=
 M.bind (decimal_read n a0) fun x0 =>
 M.bind (newB none T_decimal_num [Value.bool false,vsl0,vi 0]) fun x1 =>
 M.bind (stN (adr x1) [Value.bool x0.1.1,vsl x0.1.2.1,vi x0.1.2.2]) fun x2 =>
 M.pure x0.2
abbrev q55_E (n:Nat):Ent:=⟨55,[tyS],[tyB],fun x=>decimal_Valid n x⟩
abbrev q55_ct (n:Nat):List Ent:=[q71_E n]
theorem decimal_Valid_ok (n:Nat):FnOK Tryz.prog (q55_E n) :=
 fn_t (q55_E n) Tryz.f55 (bodyOf Tryz.f55) [(0,tyS)] [] (q55_ct n) [] [] [] dr0 (by kernel_rfl) (by kernel_rfl) (by kernel_rfl) (by kernel_rfl) (by kernel_rfl) ⟨.nil,(.cons (decimal_read_ok n) .nil),.nil,.nil,.nil⟩ (fun x=>by kernel_rfl)
def math_NaN (n:Nat):M (Nat) :=
 M.bind (math_Float64frombits n 9221120237041090561) fun x0 =>
 M.pure x0
abbrev q95_E (n:Nat):Ent:=⟨95,[],[.one (.f64)],fun _=>math_NaN n⟩
abbrev q95_ct (n:Nat):List Ent:=[⟨121,[.one (.int .u64)],[.one (.f64)],fun x=>math_Float64frombits n x⟩]
theorem math_NaN_ok (n:Nat):FnOK Tryz.prog (q95_E n) :=
 fn_t (q95_E n) Tryz.f95 (bodyOf Tryz.f95) [] [] (q95_ct n) [] [] [] dr0 (by kernel_rfl) (by kernel_rfl) (by kernel_rfl) (by kernel_rfl) (by kernel_rfl) ⟨.nil,(.cons (math_Float64frombits_ok n) .nil),.nil,.nil,.nil⟩ (fun x=>by kernel_rfl)
def math_Inf (n:Nat)(a0:Int):M (Nat) :=
 if decide (0≤a0) then
  M.bind (math_Float64frombits n 9218868437227405312) fun x0 =>
  M.pure x0
 else
  M.bind (math_Float64frombits n 18442240474082181120) fun x0 =>
  M.pure x0
abbrev q96_E (n:Nat):Ent:=⟨96,[tyI],[.one (.f64)],fun x=>math_Inf n x⟩
abbrev q96_ct (n:Nat):List Ent:=[⟨121,[.one (.int .u64)],[.one (.f64)],fun x=>math_Float64frombits n x⟩]
theorem math_Inf_ok (n:Nat):FnOK Tryz.prog (q96_E n) :=
 fn_t (q96_E n) Tryz.f96 (bodyOf Tryz.f96) [(0,tyI)] [] (q96_ct n) [] [] [] dr0 (by kernel_rfl) (by kernel_rfl) (by kernel_rfl) (by kernel_rfl) (by kernel_rfl) ⟨.nil,(.cons (math_Float64frombits_ok n) .nil),.nil,.nil,.nil⟩ (fun x=>by kernel_rfl)
def i_stringslite_Cut (n:Nat)(a0:ByteArray)(a1:ByteArray):M (ByteArray×ByteArray×Bool) :=
 M.bind (i_stringslite_Index n a0 a1) fun x0 =>
 if decide (0≤x0) then
  M.bind (sliceS a0 0 x0) fun x1 =>
  M.bind (sliceS a0 (IntKind.i64.wrap (x0+(↑a1.size:Int))) (↑a0.size:Int)) fun x2 =>
  M.pure (x1,x2,true)
 else
  M.pure (a0,(ofBytes []),false)
abbrev q122_E (n:Nat):Ent:=⟨122,[tyS,tyS],[tyS,tyS,tyB],fun x=>i_stringslite_Cut n (x.1) (x.2)⟩
abbrev q122_ct (n:Nat):List Ent:=[⟨150,[tyS,tyS],[tyI],fun x=>i_stringslite_Index n (x.1) (x.2)⟩]
def q122_dr (i:Nat):Option (List (Nat×List Nat)):=cond (Nat.beq i 3) (some [(0,[]),(1,[]),(2,[]),(3,[]),(4,[]),(5,[]),(6,[]),(7,[]),(8,[]),(9,[]),(10,[]),(11,[])]) (none)
theorem i_stringslite_Cut_ok (n:Nat):FnOK Tryz.prog (q122_E n) :=
 fn_t (q122_E n) Tryz.f122 (bodyOf Tryz.f122) [(0,tyS),(1,tyS)] [] (q122_ct n) [] [] [] q122_dr (by kernel_rfl) (by kernel_rfl) (by kernel_rfl) (by kernel_rfl) (by kernel_rfl) ⟨.nil,(.cons (i_stringslite_Index_ok n) .nil),.nil,.nil,.nil⟩ (fun x=>by kernel_rfl)
def strings_Cut (n:Nat)(a0:ByteArray)(a1:ByteArray):M (ByteArray×ByteArray×Bool) :=
 M.bind (i_stringslite_Cut n a0 a1) fun x0 =>
 M.pure (x0.1,x0.2.1,x0.2.2)
abbrev q97_E (n:Nat):Ent:=⟨97,[tyS,tyS],[tyS,tyS,tyB],fun x=>strings_Cut n (x.1) (x.2)⟩
abbrev q97_ct (n:Nat):List Ent:=[q122_E n]
theorem strings_Cut_ok (n:Nat):FnOK Tryz.prog (q97_E n) :=
 fn_t (q97_E n) Tryz.f97 (bodyOf Tryz.f97) [(0,tyS),(1,tyS)] [] (q97_ct n) [] [] [] dr0 (by kernel_rfl) (by kernel_rfl) (by kernel_rfl) (by kernel_rfl) (by kernel_rfl) ⟨.nil,(.cons (i_stringslite_Cut_ok n) .nil),.nil,.nil,.nil⟩ (fun x=>by kernel_rfl)
def binary_fits (n:Nat)(a0:Int)(a1:Int):M (Bool) :=
 M.bind (math_bits_Len64 n a0) fun x0 =>
 M.bind (ckM (decide (2≠0))) fun x1 =>
 if decide (a0.tmod 2=1) then
  if decide (x0≤53) then
   if decide (-1074≤a1) then
    if decide (a1≤1023) then
     M.pure (decide (IntKind.i64.wrap (a1+x0)≤1024))
    else
     M.pure false
   else
    M.pure false
  else
   M.pure false
 else
  M.pure false
abbrev q99_E (n:Nat):Ent:=⟨99,[.one (.int .u64),tyI],[tyB],fun x=>binary_fits n (x.1) (x.2)⟩
abbrev q99_ct (n:Nat):List Ent:=[⟨124,[.one (.int .u64)],[tyI],fun x=>math_bits_Len64 n x⟩]
theorem binary_fits_ok (n:Nat):FnOK Tryz.prog (q99_E n) :=
 fn_t (q99_E n) Tryz.f99 (bodyOf Tryz.f99) [(0,.one (.int .u64)),(1,tyI)] [] (q99_ct n) [] [] [] dr0 (by kernel_rfl) (by kernel_rfl) (by kernel_rfl) (by kernel_rfl) (by kernel_rfl) ⟨.nil,(.cons (math_bits_Len64_ok n) .nil),.nil,.nil,.nil⟩ (fun x=>by kernel_rfl)
def math_Copysign (n:Nat)(a0:Nat)(a1:Nat):M (Nat) :=
 M.bind (math_Float64bits n a0) fun x0 =>
 M.bind (math_Float64bits n a1) fun x1 =>
 M.bind (math_Float64frombits n (IntKind.u64.wrap (↑(BitVec.ofInt 64 (IntKind.u64.wrap (↑(BitVec.ofInt 64 x0 &&& ~~~BitVec.ofInt 64 9223372036854775808).toNat:Int)) ||| BitVec.ofInt 64 (IntKind.u64.wrap (↑(BitVec.ofInt 64 x1 &&& BitVec.ofInt 64 9223372036854775808).toNat:Int))).toNat:Int))) fun x2 =>
 M.pure x2
abbrev q102_E (n:Nat):Ent:=⟨102,[.one (.f64),.one (.f64)],[.one (.f64)],fun x=>math_Copysign n (x.1) (x.2)⟩
abbrev q102_ct (n:Nat):List Ent:=[⟨121,[.one (.int .u64)],[.one (.f64)],fun x=>math_Float64frombits n x⟩,⟨131,[.one (.f64)],[.one (.int .u64)],fun x=>math_Float64bits n x⟩]
theorem math_Copysign_ok (n:Nat):FnOK Tryz.prog (q102_E n) :=
 fn_t (q102_E n) Tryz.f102 (bodyOf Tryz.f102) [(0,.one (.f64)),(1,.one (.f64))] [] (q102_ct n) [] [] [] dr0 (by kernel_rfl) (by kernel_rfl) (by kernel_rfl) (by kernel_rfl) (by kernel_rfl) ⟨.nil,(.cons (math_Float64frombits_ok n) (.cons (math_Float64bits_ok n) .nil)),.nil,.nil,.nil⟩ (fun x=>by kernel_rfl)
def math_Abs (n:Nat)(a0:Nat):M (Nat) :=
 M.bind (math_Float64bits n a0) fun x0 =>
 M.bind (math_Float64frombits n (IntKind.u64.wrap (↑(BitVec.ofInt 64 x0 &&& ~~~BitVec.ofInt 64 9223372036854775808).toNat:Int))) fun x1 =>
 M.pure x1
abbrev q155_E (n:Nat):Ent:=⟨155,[.one (.f64)],[.one (.f64)],fun x=>math_Abs n x⟩
abbrev q155_ct (n:Nat):List Ent:=[⟨121,[.one (.int .u64)],[.one (.f64)],fun x=>math_Float64frombits n x⟩,⟨131,[.one (.f64)],[.one (.int .u64)],fun x=>math_Float64bits n x⟩]
theorem math_Abs_ok (n:Nat):FnOK Tryz.prog (q155_E n) :=
 fn_t (q155_E n) Tryz.f155 (bodyOf Tryz.f155) [(0,.one (.f64))] [] (q155_ct n) [] [] [] dr0 (by kernel_rfl) (by kernel_rfl) (by kernel_rfl) (by kernel_rfl) (by kernel_rfl) ⟨.nil,(.cons (math_Float64frombits_ok n) (.cons (math_Float64bits_ok n) .nil)),.nil,.nil,.nil⟩ (fun x=>by kernel_rfl)
def math_IsInf (n:Nat)(a0:Nat)(a1:Int):M (Bool) :=
 if decide (a1=0) then
  M.bind (math_Abs n a0) fun x0 =>
  M.pure (fGt x0 9218868437227405311)
 else
  if decide (a1<0) then
   M.pure (fGt (fNeg a0) 9218868437227405311)
  else
   M.pure (fGt a0 9218868437227405311)
abbrev q128_E (n:Nat):Ent:=⟨128,[.one (.f64),tyI],[tyB],fun x=>math_IsInf n (x.1) (x.2)⟩
abbrev q128_ct (n:Nat):List Ent:=[q155_E n]
theorem math_IsInf_ok (n:Nat):FnOK Tryz.prog (q128_E n) :=
 fn_t (q128_E n) Tryz.f128 (bodyOf Tryz.f128) [(0,.one (.f64)),(1,tyI)] [] (q128_ct n) [] [] [] dr0 (by kernel_rfl) (by kernel_rfl) (by kernel_rfl) (by kernel_rfl) (by kernel_rfl) ⟨.nil,(.cons (math_Abs_ok n) .nil),.nil,.nil,.nil⟩ (fun x=>by kernel_rfl)
def math_IsNaN (n:Nat)(a0:Nat):M (Bool) :=
 M.pure !fEq a0 a0
abbrev q153_E (n:Nat):Ent:=⟨153,[.one (.f64)],[tyB],fun x=>math_IsNaN n x⟩
theorem math_IsNaN_ok (n:Nat):FnOK Tryz.prog (q153_E n) :=
 fn_t (q153_E n) Tryz.f153 (bodyOf Tryz.f153) [(0,.one (.f64))] [] [] [] [] [] dr0 (by kernel_rfl) (by kernel_rfl) (by kernel_rfl) (by kernel_rfl) (by kernel_rfl) ⟨.nil,.nil,.nil,.nil,.nil⟩ (fun x=>by kernel_rfl)
def math_normalize (n:Nat)(a0:Nat):M (Nat×Int) :=
 M.bind (math_Abs n a0) fun x0 =>
 if fLt x0 4503599627370496 then
  M.bind (fMul a0 4841369599423283200) fun x1 =>
  M.pure (x1,-52)
 else
  M.pure (a0,0)
abbrev q154_E (n:Nat):Ent:=⟨154,[.one (.f64)],[.one (.f64),tyI],fun x=>math_normalize n x⟩
abbrev q154_ct (n:Nat):List Ent:=[q155_E n]
theorem math_normalize_ok (n:Nat):FnOK Tryz.prog (q154_E n) :=
 fn_t (q154_E n) Tryz.f154 (bodyOf Tryz.f154) [(0,.one (.f64))] [] (q154_ct n) [] [] [] dr0 (by kernel_rfl) (by kernel_rfl) (by kernel_rfl) (by kernel_rfl) (by kernel_rfl) ⟨.nil,(.cons (math_Abs_ok n) .nil),.nil,.nil,.nil⟩ (fun x=>by kernel_rfl)
def math_ldexp_J1 (n:Nat)(a0:Int)(a1:Int)(a2:Nat):M (Nat) :=
 M.bind (ckM (decide (0≤52))) fun x0 =>
 M.bind (math_Float64frombits n (IntKind.u64.wrap (↑(BitVec.ofInt 64 (IntKind.u64.wrap (↑(BitVec.ofInt 64 a1 &&& ~~~BitVec.ofInt 64 9218868437227405312).toNat:Int)) ||| BitVec.ofInt 64 (IntKind.u64.wrap (IntKind.u64.wrap (IntKind.i64.wrap (a0+1023)) * 2 ^ 52))).toNat:Int))) fun x1 =>
 M.bind (fMul a2 x1) fun x2 =>
 M.pure x2
def math_ldexp_J0 (n:Nat)(a0:Nat)(a1:Int):M (Nat) :=
 M.bind (math_normalize n a0) fun x0 =>
 M.bind (math_Float64bits n x0.1) fun x1 =>
 M.bind (ckM (decide (0≤52))) fun x2 =>
 if decide (IntKind.i64.wrap (IntKind.i64.wrap (a1+x0.2)+IntKind.i64.wrap (IntKind.i64.wrap (↑(BitVec.ofInt 64 (IntKind.i64.wrap (Int.fdiv x1 (2 ^ 52))) &&& BitVec.ofInt 64 2047).toNat:Int) - 1023)) < -1075) then
  M.bind (math_Copysign n 0 x0.1) fun x3 =>
  M.pure x3
 else
  if decide (1023<IntKind.i64.wrap (IntKind.i64.wrap (a1+x0.2)+IntKind.i64.wrap (IntKind.i64.wrap (↑(BitVec.ofInt 64 (IntKind.i64.wrap (Int.fdiv x1 (2 ^ 52))) &&& BitVec.ofInt 64 2047).toNat:Int) - 1023))) then
   if fLt x0.1 0 then
    M.bind (math_Inf n (-1)) fun x3 =>
    M.pure x3
   else
    M.bind (math_Inf n 1) fun x3 =>
    M.pure x3
  else
   if decide (IntKind.i64.wrap (IntKind.i64.wrap (a1+x0.2)+IntKind.i64.wrap (IntKind.i64.wrap (↑(BitVec.ofInt 64 (IntKind.i64.wrap (Int.fdiv x1 (2 ^ 52))) &&& BitVec.ofInt 64 2047).toNat:Int) - 1023)) < -1022) then
    math_ldexp_J1 n (IntKind.i64.wrap (IntKind.i64.wrap (IntKind.i64.wrap (a1+x0.2)+IntKind.i64.wrap (IntKind.i64.wrap (↑(BitVec.ofInt 64 (IntKind.i64.wrap (Int.fdiv x1 (2 ^ 52))) &&& BitVec.ofInt 64 2047).toNat:Int) - 1023))+53)) x1 4368491638549381120
   else
    math_ldexp_J1 n (IntKind.i64.wrap (IntKind.i64.wrap (a1+x0.2)+IntKind.i64.wrap (IntKind.i64.wrap (↑(BitVec.ofInt 64 (IntKind.i64.wrap (Int.fdiv x1 (2 ^ 52))) &&& BitVec.ofInt 64 2047).toNat:Int) - 1023))) x1 4607182418800017408
def math_ldexp (n:Nat)(a0:Nat)(a1:Int):M (Nat) :=
 if fEq a0 0 then
  M.pure a0
 else
  M.bind (math_IsInf n a0 0) fun x0 =>
  if x0 then
   M.pure a0
  else
   M.bind (math_IsNaN n a0) fun x1 =>
   if x1 then
    M.pure a0
   else
    math_ldexp_J0 n a0 a1
abbrev q126_E (n:Nat):Ent:=⟨126,[.one (.f64),tyI],[.one (.f64)],fun x=>math_ldexp n (x.1) (x.2)⟩
abbrev q126_ct (n:Nat):List Ent:=[q96_E n,q102_E n,⟨121,[.one (.int .u64)],[.one (.f64)],fun x=>math_Float64frombits n x⟩,q128_E n,⟨131,[.one (.f64)],[.one (.int .u64)],fun x=>math_Float64bits n x⟩,q153_E n,q154_E n]
abbrev q126_jt2 (n:Nat):List (JEnt (Nat)):=[]
abbrev q126_jt1 (n:Nat):List (JEnt (Nat)):=⟨[0,1,1,1,1,1,1,1,1,1,1],[.code [1,1,1,1,1,1,1,1,1,1,1]],[(1,tyI),(6,.one (.int .u64)),(7,.one (.f64))],fun x=>math_ldexp_J1 n (x.1) (x.2.1) (x.2.2)⟩::q126_jt2 n
abbrev q126_jt0 (n:Nat):List (JEnt (Nat)):=⟨[0,1,1],[.code [1,1,1]],[(0,.one (.f64)),(1,tyI)],fun x=>math_ldexp_J0 n (x.1) (x.2)⟩::q126_jt1 n
theorem math_ldexp_ok (n:Nat):FnOK Tryz.prog (q126_E n) :=
 fn_t (q126_E n) Tryz.f126 (bodyOf Tryz.f126) [(0,.one (.f64)),(1,tyI)] [] (q126_ct n) [] [] (q126_jt0 n) dr0 (by kernel_rfl) (by kernel_rfl) (by kernel_rfl) (by kernel_rfl) (by kernel_rfl) ⟨.nil,(.cons (math_Inf_ok n) (.cons (math_Copysign_ok n) (.cons (math_Float64frombits_ok n) (.cons (math_IsInf_ok n) (.cons (math_Float64bits_ok n) (.cons (math_IsNaN_ok n) (.cons (math_normalize_ok n) .nil))))))),.nil,.nil,(.cons (fun x=>by kernel_rfl) (.cons (fun x=>by kernel_rfl) .nil))⟩ (fun x=>by kernel_rfl)
def math_Ldexp (n:Nat)(a0:Nat)(a1:Int):M (Nat) :=
 M.bind (math_ldexp n a0 a1) fun x0 =>
 M.pure x0
abbrev q100_E (n:Nat):Ent:=⟨100,[.one (.f64),tyI],[.one (.f64)],fun x=>math_Ldexp n (x.1) (x.2)⟩
abbrev q100_ct (n:Nat):List Ent:=[q126_E n]
theorem math_Ldexp_ok (n:Nat):FnOK Tryz.prog (q100_E n) :=
 fn_t (q100_E n) Tryz.f100 (bodyOf Tryz.f100) [(0,.one (.f64)),(1,tyI)] [] (q100_ct n) [] [] [] dr0 (by kernel_rfl) (by kernel_rfl) (by kernel_rfl) (by kernel_rfl) (by kernel_rfl) ⟨.nil,(.cons (math_ldexp_ok n) .nil),.nil,.nil,.nil⟩ (fun x=>by kernel_rfl)
def math_Signbit (n:Nat)(a0:Nat):M (Bool) :=
 M.bind (math_Float64bits n a0) fun x0 =>
 M.pure (decide (IntKind.i64.wrap x0<0))
abbrev q127_E (n:Nat):Ent:=⟨127,[.one (.f64)],[tyB],fun x=>math_Signbit n x⟩
abbrev q127_ct (n:Nat):List Ent:=[⟨131,[.one (.f64)],[.one (.int .u64)],fun x=>math_Float64bits n x⟩]
theorem math_Signbit_ok (n:Nat):FnOK Tryz.prog (q127_E n) :=
 fn_t (q127_E n) Tryz.f127 (bodyOf Tryz.f127) [(0,.one (.f64))] [] (q127_ct n) [] [] [] dr0 (by kernel_rfl) (by kernel_rfl) (by kernel_rfl) (by kernel_rfl) (by kernel_rfl) ⟨.nil,(.cons (math_Float64bits_ok n) .nil),.nil,.nil,.nil⟩ (fun x=>by kernel_rfl)
def binary_split_J0 (n:Nat)(a0:Int)(a1:Int):M (Int×Int) :=
 M.bind (math_bits_TrailingZeros64 n a0) fun x0 =>
 M.bind (ckM (decide (0≤x0))) fun x1 =>
 M.pure (a0.fdiv (2 ^ min (Int.toNat x0) 64),IntKind.i64.wrap (IntKind.i64.wrap (a1 - 1075)+x0))
def binary_split (n:Nat)(a0:Nat):M (Int×Int) :=
 M.bind (math_Abs n a0) fun x0 =>
 M.bind (math_Float64bits n x0) fun x1 =>
 M.bind (ckM (decide (0≤52))) fun x2 =>
 if decide (IntKind.i64.wrap (Int.fdiv x1 (2 ^ 52))=0) then
  binary_split_J0 n (IntKind.u64.wrap (↑(BitVec.ofInt 64 x1 &&& BitVec.ofInt 64 4503599627370495).toNat:Int)) 1
 else
  binary_split_J0 n (IntKind.u64.wrap (↑(BitVec.ofInt 64 (IntKind.u64.wrap (↑(BitVec.ofInt 64 x1 &&& BitVec.ofInt 64 4503599627370495).toNat:Int)) ||| BitVec.ofInt 64 4503599627370496).toNat:Int)) (IntKind.i64.wrap (Int.fdiv x1 (2 ^ 52)))
abbrev q129_E (n:Nat):Ent:=⟨129,[.one (.f64)],[.one (.int .u64),tyI],fun x=>binary_split n x⟩
abbrev q129_ct (n:Nat):List Ent:=[⟨131,[.one (.f64)],[.one (.int .u64)],fun x=>math_Float64bits n x⟩,q155_E n,⟨156,[.one (.int .u64)],[tyI],fun x=>math_bits_TrailingZeros64 n x⟩]
abbrev q129_jt1 (n:Nat):List (JEnt (Int×Int)):=[]
abbrev q129_jt0 (n:Nat):List (JEnt (Int×Int)):=⟨[0,1,1,1,1],[.code [1,1,1,1,1]],[(5,.one (.int .u64)),(6,tyI)],fun x=>binary_split_J0 n (x.1) (x.2)⟩::q129_jt1 n
theorem binary_split_ok (n:Nat):FnOK Tryz.prog (q129_E n) :=
 fn_t (q129_E n) Tryz.f129 (bodyOf Tryz.f129) [(0,.one (.f64))] [] (q129_ct n) [] [] (q129_jt0 n) dr0 (by kernel_rfl) (by kernel_rfl) (by kernel_rfl) (by kernel_rfl) (by kernel_rfl) ⟨.nil,(.cons (math_Float64bits_ok n) (.cons (math_Abs_ok n) (.cons (math_bits_TrailingZeros64_ok n) .nil))),.nil,.nil,(.cons (fun x=>by kernel_rfl) .nil)⟩ (fun x=>by kernel_rfl)
def strconv_FormatUint (n:Nat)(a0:Int)(a1:Int):M (ByteArray) :=
 M.bind (i_strconv_FormatUint n a0 a1) fun x0 =>
 M.pure x0
abbrev q130_E (n:Nat):Ent:=⟨130,[.one (.int .u64),tyI],[tyS],fun x=>strconv_FormatUint n (x.1) (x.2)⟩
abbrev q130_ct (n:Nat):List Ent:=[⟨157,[.one (.int .u64),tyI],[tyS],fun x=>i_strconv_FormatUint n (x.1) (x.2)⟩]
theorem strconv_FormatUint_ok (n:Nat):FnOK Tryz.prog (q130_E n) :=
 fn_t (q130_E n) Tryz.f130 (bodyOf Tryz.f130) [(0,.one (.int .u64)),(1,tyI)] [] (q130_ct n) [] [] [] dr0 (by kernel_rfl) (by kernel_rfl) (by kernel_rfl) (by kernel_rfl) (by kernel_rfl) ⟨.nil,(.cons (i_strconv_FormatUint_ok n) .nil),.nil,.nil,.nil⟩ (fun x=>by kernel_rfl)
def binary_text_J0 (n:Nat)(a0:Nat)(a1:ByteArray):M (ByteArray) :=
 if !fEq a0 a0 then
  M.pure (ofBytes [110,97,110])
 else
  M.bind (math_IsInf n a0 0) fun x0 =>
  if x0 then
   M.bind (catS a1 (ofBytes [105,110,102])) fun x1 =>
   M.pure x1
  else
   if fEq a0 0 then
    M.bind (catS a1 (ofBytes [48,112,48])) fun x1 =>
    M.pure x1
   else
    M.bind (binary_split n a0) fun x1 =>
    M.bind (strconv_FormatUint n x1.1 10) fun x2 =>
    M.bind (catS a1 x2) fun x3 =>
    M.bind (catS x3 (ofBytes [112])) fun x4 =>
    M.bind (strconv_Itoa n x1.2) fun x5 =>
    M.bind (catS x4 x5) fun x6 =>
    M.pure x6
def binary_text (n:Nat)(a0:Nat):M (ByteArray) :=
 M.bind (math_Signbit n a0) fun x0 =>
 if x0 then
  binary_text_J0 n a0 (ofBytes [45])
 else
  binary_text_J0 n a0 (ofBytes [])
abbrev q101_E (n:Nat):Ent:=⟨101,[.one (.f64)],[tyS],fun x=>binary_text n x⟩
abbrev q101_ct (n:Nat):List Ent:=[⟨119,[tyI],[tyS],fun x=>strconv_Itoa n x⟩,q127_E n,q128_E n,q129_E n,q130_E n]
abbrev q101_jt1 (n:Nat):List (JEnt (ByteArray)):=[]
abbrev q101_jt0 (n:Nat):List (JEnt (ByteArray)):=⟨[0,0,0,1,1,1],[.code [1,0,0,1,1,1],.blk 0,.code [1,1,1,1]],[(0,.one (.f64)),(3,tyS)],fun x=>binary_text_J0 n (x.1) (x.2)⟩::q101_jt1 n
theorem binary_text_ok (n:Nat):FnOK Tryz.prog (q101_E n) :=
 fn_t (q101_E n) Tryz.f101 (bodyOf Tryz.f101) [(0,.one (.f64))] [] (q101_ct n) [] [] (q101_jt0 n) dr0 (by kernel_rfl) (by kernel_rfl) (by kernel_rfl) (by kernel_rfl) (by kernel_rfl) ⟨.nil,(.cons (strconv_Itoa_ok n) (.cons (math_Signbit_ok n) (.cons (math_IsInf_ok n) (.cons (binary_split_ok n) (.cons (strconv_FormatUint_ok n) .nil))))),.nil,.nil,(.cons (fun x=>by kernel_rfl) .nil)⟩ (fun x=>by kernel_rfl)
def binary_parse_J0 (n:Nat)(a0:ByteArray)(a1:Bool)(a2:Int)(a3:Int):M (Nat×Bool) :=
 M.bind (math_Ldexp n (fNear a2) a3) fun x0 =>
 M.bind (binary_text n x0) fun x1 =>
 if !eqS x1 a0 then
  M.pure (0,false)
 else
  if a1 then
   M.bind (math_Copysign n x0 13830554455654793216) fun x2 =>
   M.pure (x2,true)
  else
   M.pure (x0,true)
def binary_parse (n:Nat)(a0:ByteArray):M (Nat×Bool) :=
 M.bind (strings_CutPrefix n a0 (ofBytes [45])) fun x0 =>
 if eqS a0 (ofBytes [110,97,110]) then
  M.bind (math_NaN n) fun x1 =>
  M.pure (x1,true)
 else
  if eqS x0.1 (ofBytes [105,110,102]) then
   M.bind (math_Inf n 1) fun x1 =>
   if x0.2 then
    M.bind (math_Copysign n x1 13830554455654793216) fun x2 =>
    M.pure (x2,true)
   else
    M.pure (x1,true)
  else
   if eqS x0.1 (ofBytes [48,112,48]) then
    if x0.2 then
     M.bind (math_Copysign n 0 13830554455654793216) fun x1 =>
     M.pure (x1,true)
    else
     M.pure (0,true)
   else
    M.bind (strings_Cut n x0.1 (ofBytes [112])) fun x1 =>
    M.bind (strconv_ParseUint n x1.1 10 64) fun x2 =>
    M.bind (strconv_Atoi n x1.2.1) fun x3 =>
    if !x1.2.2 then
     M.pure (0,false)
    else
     M.bind (isNilI x2.2) fun x4 =>
     if !x4 then
      M.pure (0,false)
     else
      M.bind (isNilI x3.2) fun x5 =>
      if !x5 then
       M.pure (0,false)
      else
       M.bind (binary_fits n x2.1 x3.1) fun x6 =>
       if !x6 then
        M.pure (0,false)
       else
        binary_parse_J0 n x0.1 x0.2 x2.1 x3.1
abbrev q72_E (n:Nat):Ent:=⟨72,[tyS],[.one (.f64),tyB],fun x=>binary_parse n x⟩
abbrev q72_ct (n:Nat):List Ent:=[⟨88,[tyS],[tyI,tyR],fun x=>strconv_Atoi n x⟩,⟨94,[tyS,tyS],[tyS,tyB],fun x=>strings_CutPrefix n (x.1) (x.2)⟩,q95_E n,q96_E n,q97_E n,⟨98,[tyS,tyI,tyI],[.one (.int .u64),tyR],fun x=>strconv_ParseUint n (x.1) (x.2.1) (x.2.2)⟩,q99_E n,q100_E n,q101_E n,q102_E n]
abbrev q72_jt1 (n:Nat):List (JEnt (Nat×Bool)):=[]
abbrev q72_jt0 (n:Nat):List (JEnt (Nat×Bool)):=⟨[0,1,1,1,1,1,1,1,1,1,1,0,0,1,1,1],[.code [1,1,1,1,1,1,1,1,1,1,1,0,0,1,1,1],.blk 0,.code [1,1,1,1]],[(4,tyS),(5,tyB),(10,.one (.int .u64)),(12,tyI)],fun x=>binary_parse_J0 n (x.1) (x.2.1) (x.2.2.1) (x.2.2.2)⟩::q72_jt1 n
theorem binary_parse_ok (n:Nat):FnOK Tryz.prog (q72_E n) :=
 fn_t (q72_E n) Tryz.f72 (bodyOf Tryz.f72) [(0,tyS)] [] (q72_ct n) [] [] (q72_jt0 n) dr0 (by kernel_rfl) (by kernel_rfl) (by kernel_rfl) (by kernel_rfl) (by kernel_rfl) ⟨.nil,(.cons (strconv_Atoi_ok n) (.cons (strings_CutPrefix_ok n) (.cons (math_NaN_ok n) (.cons (math_Inf_ok n) (.cons (strings_Cut_ok n) (.cons (strconv_ParseUint_ok n) (.cons (binary_fits_ok n) (.cons (math_Ldexp_ok n) (.cons (binary_text_ok n) (.cons (math_Copysign_ok n) .nil)))))))))),.nil,.nil,(.cons (fun x=>by kernel_rfl) .nil)⟩ (fun x=>by kernel_rfl)
def binary_Valid (n:Nat)(a0:ByteArray):M (Bool) :=
 M.bind (binary_parse n a0) fun x0 =>
 M.pure x0.2
abbrev q56_E (n:Nat):Ent:=⟨56,[tyS],[tyB],fun x=>binary_Valid n x⟩
abbrev q56_ct (n:Nat):List Ent:=[q72_E n]
theorem binary_Valid_ok (n:Nat):FnOK Tryz.prog (q56_E n) :=
 fn_t (q56_E n) Tryz.f56 (bodyOf Tryz.f56) [(0,tyS)] [] (q56_ct n) [] [] [] dr0 (by kernel_rfl) (by kernel_rfl) (by kernel_rfl) (by kernel_rfl) (by kernel_rfl) ⟨.nil,(.cons (binary_parse_ok n) .nil),.nil,.nil,.nil⟩ (fun x=>by kernel_rfl)
def instant_read_1_L0_J0_B (G:Addr→Addr→Int→Int→Int→M ((Int) ⊕ (Int×Bool)))(n:Nat)(a0:Addr)(a1:Addr)(a2:Int)(a3:Int)(a4:Int):M ((Int) ⊕ (Int×Bool)) :=
 M.bind (ldL .str a1) fun (x0:ByteArray) =>
 M.bind (ldL (li) a0) fun (x1:Int) =>
 M.bind (idxS x0 x1) fun x2 =>
 M.bind (ldL (li) a0) fun (x3:Int) =>
 M.bind (stN a0 [vi (IntKind.i64.wrap (x3+1))]) fun x4 =>
 G a0 a1 (IntKind.i64.wrap (IntKind.i64.wrap (10 * a2)+IntKind.i64.wrap (IntKind.u8.wrap ((↑x2.toNat:Int) - 48)))) a3 (IntKind.i64.wrap (a4+1))
def instant_read_1_L0_B (G:Addr→Addr→Int→Int→Int→M ((Int) ⊕ (Int×Bool)))(n:Nat)(a0:Addr)(a1:Addr)(a2:Int)(a3:Int)(a4:Int):M ((Int) ⊕ (Int×Bool)) :=
 if decide (a4<a3) then
  M.bind (ldL (li) a0) fun (x0:Int) =>
  M.bind (ldL .str a1) fun (x1:ByteArray) =>
  if decide ((↑(ByteArray.size x1):Int)≤x0) then
   M.pure (Sum.inr (0,false))
  else
   M.bind (ldL .str a1) fun (x2:ByteArray) =>
   M.bind (ldL (li) a0) fun (x3:Int) =>
   M.bind (idxS x2 x3) fun x4 =>
   if decide ((↑x4.toNat:Int)<48) then
    M.pure (Sum.inr (0,false))
   else
    M.bind (ldL .str a1) fun (x5:ByteArray) =>
    M.bind (ldL (li) a0) fun (x6:Int) =>
    M.bind (idxS x5 x6) fun x7 =>
    if decide (57<(↑x7.toNat:Int)) then
     M.pure (Sum.inr (0,false))
    else
     instant_read_1_L0_J0_B G n a0 a1 a2 a3 a4
 else
  M.pure (Sum.inl a2)
def instant_read_1_L0:Nat→Addr→Addr→Int→Int→Int→M ((Int) ⊕ (Int×Bool))
 | 0=>fun _ _ _ _ _=>M.fail
 | n+1=>instant_read_1_L0_B (instant_read_1_L0 n) n
def instant_read_1_L0_J0 (n:Nat)(a0:Addr)(a1:Addr)(a2:Int)(a3:Int)(a4:Int):M ((Int) ⊕ (Int×Bool)):=instant_read_1_L0_J0_B (instant_read_1_L0 n) n a0 a1 a2 a3 a4
def instant_read_1 (n:Nat)(a0:Int)(a1:Addr)(a2:Addr):M (Int×Bool) :=
 M.bind (instant_read_1_L0 n a1 a2 0 a0 0) (sumElim (fun x0 =>
  M.pure (x0,true))
 (fun x0 =>
  M.pure (x0.1,x0.2)))
abbrev q104_E (n:Nat):Ent:=⟨104,[tyI,tyA,tyA],[tyI,tyB],fun x=>instant_read_1 n (x.1) (x.2.1) (x.2.2)⟩
abbrev q104_L0_a:List (Nat×Ty):=[(1,tyA),(2,tyA),(6,tyI),(7,tyI),(8,tyI)]
abbrev q104_L0_w:List Nat:=[4,5,6,8,9,10,11,12,13,14,15,16,17,18,19,20,21,22,23,24,25,26,27,28,29,30,31,32,33,34,35,36]
abbrev q104_L0_p:Path:=[0,1,0,1,1]
abbrev q104_L0_g (n:Nat)(x:TsDen (tys q104_L0_a)):M ((Int) ⊕ (Int×Bool)):=instant_read_1_L0 n (x.1) (x.2.1) (x.2.2.1) (x.2.2.2.1) (x.2.2.2.2)
abbrev q104_L0_l (n:Nat):LEnt:=⟨q104_L0_p,q104_L0_a,actL2 q104_L0_a [(6,tyI)] [(4,tyI),(5,tyB)] q104_L0_w 0 .ret (q104_L0_g n)⟩
abbrev q104_L0_jt1 (n:Nat):List (JEnt ((Int) ⊕ (Int×Bool))):=[]
abbrev q104_L0_jt0 (n:Nat):List (JEnt ((Int) ⊕ (Int×Bool))):=⟨[0,1,0,0,1,1,0,0,1,0,1,1],[.code [1,1,0,0,1,1,0,0,1,0,1,1],.blk 1,.code [1,1,1,0,0,1,0,1,1]],[(1,tyA),(2,tyA),(6,tyI),(7,tyI),(8,tyI)],fun x=>instant_read_1_L0_J0 n (x.1) (x.2.1) (x.2.2.1) (x.2.2.2.1) (x.2.2.2.2)⟩::q104_L0_jt1 n
abbrev q104_lt (n:Nat):List LEnt:=[q104_L0_l n]
theorem q104_L0_ok (n:Nat){W:Wr}(hW:subW W 38 q104_L0_w=true):LEntOK Tryz.prog (bodyOf Tryz.f104) W (q104_L0_l n) :=
 loop2_t (bodyOf Tryz.f104) q104_L0_p q104_L0_a [(6,tyI)] [(4,tyI),(5,tyB)] 0 .ret 38 q104_L0_w [] (fun _=>[]) (fun _=>[]) (fun _=>[]) dr0 q104_L0_g q104_L0_jt0 (by kernel_rfl) (fun _=>by kernel_rfl) (fun n x=>by kernel_rfl) n (fun m hm=>⟨.nil,.nil,.nil,.nil,(.cons (fun x=>by kernel_rfl) .nil)⟩) hW
theorem instant_read_1_ok (n:Nat):FnOK Tryz.prog (q104_E n) :=
 fn_t (q104_E n) Tryz.f104 (bodyOf Tryz.f104) [(0,tyI),(1,tyA),(2,tyA)] [] [] [] (q104_lt n) [] dr0 (by kernel_rfl) (by kernel_rfl) (by kernel_rfl) (by kernel_rfl) (by kernel_rfl) ⟨.nil,.nil,.nil,(.cons (q104_L0_ok n (by kernel_rfl)) .nil),.nil⟩ (fun x=>by kernel_rfl)
def instant_read_2_D38 (n:Nat)(x:Value)(a0:Int):M (Int×Bool) :=
 if isFn F_instant_read_1 x then
  M.bind (asFn [tyA,tyA] x) fun (c:Addr×Addr)=>instant_read_1 n a0 (c.1) (c.2)
 else M.fail
def instant_read_2_L0_J0_B (G:Sl→Int→Int→Addr→Addr→Addr→Int→Int→M ((Unit) ⊕ (Bool)))(n:Nat)(a0:Sl)(a1:Int)(a2:Int)(a3:Addr)(a4:Addr)(a5:Addr)(a6:Int)(a7:Int)(a8:Int)(a9:Int):M ((Unit) ⊕ (Bool)) :=
 M.bind (ldL .raw a5) fun (x0:Value) =>
 M.bind (instant_read_2_D38 n x0 a7) fun x1 =>
 if !x1.2 then
  M.pure (Sum.inr false)
 else
  M.bind (idxA a0 a6 1) fun x2 =>
  M.bind (stN x2 [vi x1.1]) fun x3 =>
  G a0 a1 a2 a3 a4 a5 a8 (IntKind.i64.wrap (a9+1))
def instant_read_2_L0_B (G:Sl→Int→Int→Addr→Addr→Addr→Int→Int→M ((Unit) ⊕ (Bool)))(n:Nat)(a0:Sl)(a1:Int)(a2:Int)(a3:Addr)(a4:Addr)(a5:Addr)(a6:Int)(a7:Int):M ((Unit) ⊕ (Bool)) :=
 if decide (a7<a6) then
  if decide (0<a7) then
   M.bind (ldL (li) a3) fun (x0:Int) =>
   M.bind (ldL .str a4) fun (x1:ByteArray) =>
   if decide ((↑(ByteArray.size x1):Int)≤x0) then
    M.pure (Sum.inr false)
   else
    M.bind (ldL .str a4) fun (x2:ByteArray) =>
    M.bind (ldL (li) a3) fun (x3:Int) =>
    M.bind (idxS x2 x3) fun x4 =>
    if !decide ((↑x4.toNat:Int)=a2) then
     M.pure (Sum.inr false)
    else
     M.bind (ldL (li) a3) fun (x5:Int) =>
     M.bind (stN a3 [vi (IntKind.i64.wrap (x5+1))]) fun x6 =>
     if decide (a7=0) then
      instant_read_2_L0_J0_B G n a0 a1 a2 a3 a4 a5 a7 a1 a6 a7
     else
      instant_read_2_L0_J0_B G n a0 a1 a2 a3 a4 a5 a7 2 a6 a7
  else
   if decide (a7=0) then
    instant_read_2_L0_J0_B G n a0 a1 a2 a3 a4 a5 a7 a1 a6 a7
   else
    instant_read_2_L0_J0_B G n a0 a1 a2 a3 a4 a5 a7 2 a6 a7
 else
  M.pure (Sum.inl ())
def instant_read_2_L0:Nat→Sl→Int→Int→Addr→Addr→Addr→Int→Int→M ((Unit) ⊕ (Bool))
 | 0=>fun _ _ _ _ _ _ _ _=>M.fail
 | n+1=>instant_read_2_L0_B (instant_read_2_L0 n) n
def instant_read_2_L0_J0 (n:Nat)(a0:Sl)(a1:Int)(a2:Int)(a3:Addr)(a4:Addr)(a5:Addr)(a6:Int)(a7:Int)(a8:Int)(a9:Int):M ((Unit) ⊕ (Bool)):=instant_read_2_L0_J0_B (instant_read_2_L0 n) n a0 a1 a2 a3 a4 a5 a6 a7 a8 a9
def instant_read_2 (n:Nat)(a0:Sl)(a1:Int)(a2:Int)(a3:Addr)(a4:Addr)(a5:Addr):M (Bool) :=
 M.bind (instant_read_2_L0 n a0 a1 a2 a3 a4 a5 (↑a0.len:Int) 0) (sumElim (fun x0 =>
  M.pure true)
 (fun x0 =>
  M.pure x0))
abbrev q105_E (n:Nat):Ent:=⟨105,[tyL,tyI,.one (.int .u8),tyA,tyA,tyA],[tyB],fun x=>instant_read_2 n (x.1) (x.2.1) (x.2.2.1) (x.2.2.2.1) (x.2.2.2.2.1) (x.2.2.2.2.2)⟩
abbrev q105_L0_a:List (Nat×Ty):=[(0,tyL),(1,tyI),(2,.one (.int .u8)),(3,tyA),(4,tyA),(5,tyA),(15,tyI),(16,tyI)]
abbrev q105_L0_w:List Nat:=[9,10,11,12,13,16,17,18,19,20,21,22,23,24,25,26,27,28,29,30,31,32,33,34,35,36,37,38,39,40,41,42,43,44,45,46,47,48,49]
abbrev q105_L0_p:Path:=[0,1,0,1]
abbrev q105_L0_g (n:Nat)(x:TsDen (tys q105_L0_a)):M ((Unit) ⊕ (Bool)):=instant_read_2_L0 n (x.1) (x.2.1) (x.2.2.1) (x.2.2.2.1) (x.2.2.2.2.1) (x.2.2.2.2.2.1) (x.2.2.2.2.2.2.1) (x.2.2.2.2.2.2.2)
abbrev q105_L0_l (n:Nat):LEnt:=⟨q105_L0_p,q105_L0_a,actL2 q105_L0_a [] [(9,tyB)] q105_L0_w 0 .ret (q105_L0_g n)⟩
abbrev q105_dt (n:Nat):List DEnt:=[⟨38,[tyI],[tyI,tyB],fun x a=>instant_read_2_D38 n x (a)⟩]
abbrev q105_L0_jt1 (n:Nat):List (JEnt ((Unit) ⊕ (Bool))):=[]
abbrev q105_L0_jt0 (n:Nat):List (JEnt ((Unit) ⊕ (Bool))):=⟨[0,1,1,1,1,0,0,1,1,0,0,1,0,1],[.code [1,1,1,1,1,0,0,1,1,0,0,1,0,1],.blk 1,.code [1,1,1,0,0,1,0,1]],[(0,tyL),(1,tyI),(2,.one (.int .u8)),(3,tyA),(4,tyA),(5,tyA),(10,tyI),(11,tyI),(15,tyI),(16,tyI)],fun x=>instant_read_2_L0_J0 n (x.1) (x.2.1) (x.2.2.1) (x.2.2.2.1) (x.2.2.2.2.1) (x.2.2.2.2.2.1) (x.2.2.2.2.2.2.1) (x.2.2.2.2.2.2.2.1) (x.2.2.2.2.2.2.2.2.1) (x.2.2.2.2.2.2.2.2.2)⟩::q105_L0_jt1 n
abbrev q105_lt (n:Nat):List LEnt:=[q105_L0_l n]
theorem q105_L0_ok (n:Nat){W:Wr}(hW:subW W 50 q105_L0_w=true):LEntOK Tryz.prog (bodyOf Tryz.f105) W (q105_L0_l n) :=
 loop2_t (bodyOf Tryz.f105) q105_L0_p q105_L0_a [] [(9,tyB)] 0 .ret 50 q105_L0_w [] (fun _=>[]) q105_dt (fun _=>[]) dr0 q105_L0_g q105_L0_jt0 (by kernel_rfl) (fun _=>by kernel_rfl) (fun n x=>by kernel_rfl) n (fun m hm=>⟨.nil,.nil,(.cons (dent_ok (l:=[⟨104,[tyA,tyA],fun a c=>instant_read_1 m (a) (c.1) (c.2)⟩]) (.cons (fun a c=>callOK_cast (by kernel_rfl) ((instant_read_1_ok m) (a,c.1,c.2))) .nil) (fun x a=>by kernel_rfl)) .nil),.nil,(.cons (fun x=>by kernel_rfl) .nil)⟩) hW
theorem instant_read_2_ok (n:Nat):FnOK Tryz.prog (q105_E n) :=
 fn_t (q105_E n) Tryz.f105 (bodyOf Tryz.f105) [(0,tyL),(1,tyI),(2,.one (.int .u8)),(3,tyA),(4,tyA),(5,tyA)] [] [] (q105_dt n) (q105_lt n) [] dr0 (by kernel_rfl) (by kernel_rfl) (by kernel_rfl) (by kernel_rfl) (by kernel_rfl) ⟨.nil,.nil,(.cons (dent_ok (l:=[⟨104,[tyA,tyA],fun a c=>instant_read_1 n (a) (c.1) (c.2)⟩]) (.cons (fun a c=>callOK_cast (by kernel_rfl) ((instant_read_1_ok n) (a,c.1,c.2))) .nil) (fun x a=>by kernel_rfl)) .nil),(.cons (q105_L0_ok n (by kernel_rfl)) .nil),.nil⟩ (fun x=>by kernel_rfl)
def instant_read_D19 (n:Nat)(x:Value)(a0:Sl)(a1:Int)(a2:Int):M (Bool) :=
 if isFn F_instant_read_2 x then
  M.bind (asFn [tyA,tyA,tyA] x) fun (c:Addr×Addr×Addr)=>instant_read_2 n a0 a1 a2 (c.1) (c.2.1) (c.2.2)
 else M.fail
def instant_read_D44 (n:Nat)(x:Value)(a0:Sl)(a1:Int)(a2:Int):M (Bool) :=
 if isFn F_instant_read_2 x then
  M.bind (asFn [tyA,tyA,tyA] x) fun (c:Addr×Addr×Addr)=>instant_read_2 n a0 a1 a2 (c.1) (c.2.1) (c.2.2)
 else M.fail
def instant_read_D143 (n:Nat)(x:Value)(a0:Sl)(a1:Int)(a2:Int):M (Bool) :=
 if isFn F_instant_read_2 x then
  M.bind (asFn [tyA,tyA,tyA] x) fun (c:Addr×Addr×Addr)=>instant_read_2 n a0 a1 a2 (c.1) (c.2.1) (c.2.2)
 else M.fail
def instant_read_L1_B (G:Addr→Addr→Addr→Addr→Value→Int→M (Unit))(n:Nat)(a0:Addr)(a1:Addr)(a2:Addr)(a3:Addr)(a4:Value)(a5:Int):M (Unit) :=
 if decide (a5<9) then
  M.bind (ldL (li) (a2.plus 9)) fun (x0:Int) =>
  M.bind (stN (a2.plus 9) [vi (IntKind.i64.wrap (x0 * 10))]) fun x1 =>
  G a0 a1 a2 a3 a4 (IntKind.i64.wrap (a5+1))
 else
  M.pure ()
def instant_read_L1:Nat→Addr→Addr→Addr→Addr→Value→Int→M (Unit)
 | 0=>fun _ _ _ _ _ _=>M.fail
 | n+1=>instant_read_L1_B (instant_read_L1 n) n
def instant_read_L0_J0_B (G:Addr→Addr→Addr→Addr→Value→Int→M (Int))(n:Nat)(a0:Addr)(a1:Addr)(a2:Addr)(a3:Addr)(a4:Value)(a5:Int):M (Int) :=
 M.bind (ldL (li) (a2.plus 9)) fun (x0:Int) =>
 M.bind (ldL .str a0) fun (x1:ByteArray) =>
 M.bind (ldL (li) a3) fun (x2:Int) =>
 M.bind (idxS x1 x2) fun x3 =>
 M.bind (stN (a2.plus 9) [vi (IntKind.i64.wrap (IntKind.i64.wrap (10 * x0)+IntKind.i64.wrap (IntKind.u8.wrap ((↑x3.toNat:Int) - 48))))]) fun x4 =>
 M.bind (ldL (li) a3) fun (x5:Int) =>
 M.bind (stN a3 [vi (IntKind.i64.wrap (x5+1))]) fun x6 =>
 G a0 a1 a2 a3 a4 (IntKind.i64.wrap (a5+1))
def instant_read_L0_B (G:Addr→Addr→Addr→Addr→Value→Int→M (Int))(n:Nat)(a0:Addr)(a1:Addr)(a2:Addr)(a3:Addr)(a4:Value)(a5:Int):M (Int) :=
 if decide (a5<9) then
  M.bind (ldL (li) a3) fun (x0:Int) =>
  M.bind (ldL .str a0) fun (x1:ByteArray) =>
  if decide (x0<(↑(ByteArray.size x1):Int)) then
   M.bind (ldL .str a0) fun (x2:ByteArray) =>
   M.bind (ldL (li) a3) fun (x3:Int) =>
   M.bind (idxS x2 x3) fun x4 =>
   if decide (48≤(↑x4.toNat:Int)) then
    M.bind (ldL .str a0) fun (x5:ByteArray) =>
    M.bind (ldL (li) a3) fun (x6:Int) =>
    M.bind (idxS x5 x6) fun x7 =>
    if decide ((↑x7.toNat:Int)≤57) then
     instant_read_L0_J0_B G n a0 a1 a2 a3 a4 a5
    else
     M.pure a5
   else
    M.pure a5
  else
   M.pure a5
 else
  M.pure a5
def instant_read_L0:Nat→Addr→Addr→Addr→Addr→Value→Int→M (Int)
 | 0=>fun _ _ _ _ _ _=>M.fail
 | n+1=>instant_read_L0_B (instant_read_L0 n) n
def instant_read_L0_J0 (n:Nat)(a0:Addr)(a1:Addr)(a2:Addr)(a3:Addr)(a4:Value)(a5:Int):M (Int):=instant_read_L0_J0_B (instant_read_L0 n) n a0 a1 a2 a3 a4 a5
def instant_read_J4 (n:Nat)(a0:Addr)(a1:Addr)(a2:Addr)(a3:Addr)(a4:Value):M ((Int×Int×Int×Int×Int×Int×Int×Int×Int×Int×Int)×Bool) :=
 M.bind (ldL .str a0) fun (x0:ByteArray) =>
 M.bind (ldL (li) a3) fun (x1:Int) =>
 M.bind (idxS x0 x1) fun x2 =>
 M.bind (stN (a2.plus 10) [Value.int IntKind.u8 (↑x2.toNat:Int)]) fun x3 =>
 M.bind (ldL (li) a3) fun (x4:Int) =>
 M.bind (stN a3 [vi (IntKind.i64.wrap (x4+1))]) fun x5 =>
 M.bind (ldL (.int IntKind.u8) (a2.plus 10)) fun (x6:Int) =>
 if decide (x6=90) then
  M.bind (ldLs [li,li,li,li,li,li,li,li,li,li,.int IntKind.u8] a2) fun (x7:Int×Int×Int×Int×Int×Int×Int×Int×Int×Int×Int) =>
  M.bind (ldL (li) a3) fun (x8:Int) =>
  M.bind (ldL .str a0) fun (x9:ByteArray) =>
  M.bind (chk [some a3,some a0] (stN a1 [vi x7.1,vi x7.2.1,vi x7.2.2.1,vi x7.2.2.2.1,vi x7.2.2.2.2.1,vi x7.2.2.2.2.2.1,vi x7.2.2.2.2.2.2.1,vi x7.2.2.2.2.2.2.2.1,vi x7.2.2.2.2.2.2.2.2.1,vi x7.2.2.2.2.2.2.2.2.2.1,Value.int IntKind.u8 x7.2.2.2.2.2.2.2.2.2.2])) fun x10 =>
  M.bind (ldLs [li,li,li,li,li,li,li,li,li,li,.int IntKind.u8] a1) fun (x11:Int×Int×Int×Int×Int×Int×Int×Int×Int×Int×Int) =>
  M.pure ((x11.1,x11.2.1,x11.2.2.1,x11.2.2.2.1,x11.2.2.2.2.1,x11.2.2.2.2.2.1,x11.2.2.2.2.2.2.1,x11.2.2.2.2.2.2.2.1,x11.2.2.2.2.2.2.2.2.1,x11.2.2.2.2.2.2.2.2.2.1,x11.2.2.2.2.2.2.2.2.2.2),decide (x8=(↑(ByteArray.size x9):Int)))
 else
  M.bind (ldL (.int IntKind.u8) (a2.plus 10)) fun (x7:Int) =>
  if !decide (x7=43) then
   M.bind (ldL (.int IntKind.u8) (a2.plus 10)) fun (x8:Int) =>
   if !decide (x8=45) then
    M.bind (ldLs [li,li,li,li,li,li,li,li,li,li,.int IntKind.u8] a2) fun (x9:Int×Int×Int×Int×Int×Int×Int×Int×Int×Int×Int) =>
    M.bind (stN a1 [vi x9.1,vi x9.2.1,vi x9.2.2.1,vi x9.2.2.2.1,vi x9.2.2.2.2.1,vi x9.2.2.2.2.2.1,vi x9.2.2.2.2.2.2.1,vi x9.2.2.2.2.2.2.2.1,vi x9.2.2.2.2.2.2.2.2.1,vi x9.2.2.2.2.2.2.2.2.2.1,Value.int IntKind.u8 x9.2.2.2.2.2.2.2.2.2.2]) fun x10 =>
    M.bind (ldLs [li,li,li,li,li,li,li,li,li,li,.int IntKind.u8] a1) fun (x11:Int×Int×Int×Int×Int×Int×Int×Int×Int×Int×Int) =>
    M.pure ((x11.1,x11.2.1,x11.2.2.1,x11.2.2.2.1,x11.2.2.2.2.1,x11.2.2.2.2.2.1,x11.2.2.2.2.2.2.1,x11.2.2.2.2.2.2.2.1,x11.2.2.2.2.2.2.2.2.1,x11.2.2.2.2.2.2.2.2.2.1,x11.2.2.2.2.2.2.2.2.2.2),false)
   else
    M.bind (sliceA (a2.plus 1) 8 6 8 1) fun x9 =>
    M.bind (instant_read_D143 n a4 x9 2 58) fun x10 =>
    if !x10 then
     M.bind (ldLs [li,li,li,li,li,li,li,li,li,li,.int IntKind.u8] a2) fun (x11:Int×Int×Int×Int×Int×Int×Int×Int×Int×Int×Int) =>
     M.bind (stN a1 [vi x11.1,vi x11.2.1,vi x11.2.2.1,vi x11.2.2.2.1,vi x11.2.2.2.2.1,vi x11.2.2.2.2.2.1,vi x11.2.2.2.2.2.2.1,vi x11.2.2.2.2.2.2.2.1,vi x11.2.2.2.2.2.2.2.2.1,vi x11.2.2.2.2.2.2.2.2.2.1,Value.int IntKind.u8 x11.2.2.2.2.2.2.2.2.2.2]) fun x12 =>
     M.bind (ldLs [li,li,li,li,li,li,li,li,li,li,.int IntKind.u8] a1) fun (x13:Int×Int×Int×Int×Int×Int×Int×Int×Int×Int×Int) =>
     M.pure ((x13.1,x13.2.1,x13.2.2.1,x13.2.2.2.1,x13.2.2.2.2.1,x13.2.2.2.2.2.1,x13.2.2.2.2.2.2.1,x13.2.2.2.2.2.2.2.1,x13.2.2.2.2.2.2.2.2.1,x13.2.2.2.2.2.2.2.2.2.1,x13.2.2.2.2.2.2.2.2.2.2),false)
    else
     M.bind (ldLs [li,li,li,li,li,li,li,li,li,li,.int IntKind.u8] a2) fun (x11:Int×Int×Int×Int×Int×Int×Int×Int×Int×Int×Int) =>
     M.bind (ldL (li) a3) fun (x12:Int) =>
     M.bind (ldL .str a0) fun (x13:ByteArray) =>
     M.bind (chk [some a3,some a0] (stN a1 [vi x11.1,vi x11.2.1,vi x11.2.2.1,vi x11.2.2.2.1,vi x11.2.2.2.2.1,vi x11.2.2.2.2.2.1,vi x11.2.2.2.2.2.2.1,vi x11.2.2.2.2.2.2.2.1,vi x11.2.2.2.2.2.2.2.2.1,vi x11.2.2.2.2.2.2.2.2.2.1,Value.int IntKind.u8 x11.2.2.2.2.2.2.2.2.2.2])) fun x14 =>
     M.bind (ldLs [li,li,li,li,li,li,li,li,li,li,.int IntKind.u8] a1) fun (x15:Int×Int×Int×Int×Int×Int×Int×Int×Int×Int×Int) =>
     M.pure ((x15.1,x15.2.1,x15.2.2.1,x15.2.2.2.1,x15.2.2.2.2.1,x15.2.2.2.2.2.1,x15.2.2.2.2.2.2.1,x15.2.2.2.2.2.2.2.1,x15.2.2.2.2.2.2.2.2.1,x15.2.2.2.2.2.2.2.2.2.1,x15.2.2.2.2.2.2.2.2.2.2),decide (x12=(↑(ByteArray.size x13):Int)))
  else
   M.bind (sliceA (a2.plus 1) 8 6 8 1) fun x8 =>
   M.bind (instant_read_D143 n a4 x8 2 58) fun x9 =>
   if !x9 then
    M.bind (ldLs [li,li,li,li,li,li,li,li,li,li,.int IntKind.u8] a2) fun (x10:Int×Int×Int×Int×Int×Int×Int×Int×Int×Int×Int) =>
    M.bind (stN a1 [vi x10.1,vi x10.2.1,vi x10.2.2.1,vi x10.2.2.2.1,vi x10.2.2.2.2.1,vi x10.2.2.2.2.2.1,vi x10.2.2.2.2.2.2.1,vi x10.2.2.2.2.2.2.2.1,vi x10.2.2.2.2.2.2.2.2.1,vi x10.2.2.2.2.2.2.2.2.2.1,Value.int IntKind.u8 x10.2.2.2.2.2.2.2.2.2.2]) fun x11 =>
    M.bind (ldLs [li,li,li,li,li,li,li,li,li,li,.int IntKind.u8] a1) fun (x12:Int×Int×Int×Int×Int×Int×Int×Int×Int×Int×Int) =>
    M.pure ((x12.1,x12.2.1,x12.2.2.1,x12.2.2.2.1,x12.2.2.2.2.1,x12.2.2.2.2.2.1,x12.2.2.2.2.2.2.1,x12.2.2.2.2.2.2.2.1,x12.2.2.2.2.2.2.2.2.1,x12.2.2.2.2.2.2.2.2.2.1,x12.2.2.2.2.2.2.2.2.2.2),false)
   else
    M.bind (ldLs [li,li,li,li,li,li,li,li,li,li,.int IntKind.u8] a2) fun (x10:Int×Int×Int×Int×Int×Int×Int×Int×Int×Int×Int) =>
    M.bind (ldL (li) a3) fun (x11:Int) =>
    M.bind (ldL .str a0) fun (x12:ByteArray) =>
    M.bind (chk [some a3,some a0] (stN a1 [vi x10.1,vi x10.2.1,vi x10.2.2.1,vi x10.2.2.2.1,vi x10.2.2.2.2.1,vi x10.2.2.2.2.2.1,vi x10.2.2.2.2.2.2.1,vi x10.2.2.2.2.2.2.2.1,vi x10.2.2.2.2.2.2.2.2.1,vi x10.2.2.2.2.2.2.2.2.2.1,Value.int IntKind.u8 x10.2.2.2.2.2.2.2.2.2.2])) fun x13 =>
    M.bind (ldLs [li,li,li,li,li,li,li,li,li,li,.int IntKind.u8] a1) fun (x14:Int×Int×Int×Int×Int×Int×Int×Int×Int×Int×Int) =>
    M.pure ((x14.1,x14.2.1,x14.2.2.1,x14.2.2.2.1,x14.2.2.2.2.1,x14.2.2.2.2.2.1,x14.2.2.2.2.2.2.1,x14.2.2.2.2.2.2.2.1,x14.2.2.2.2.2.2.2.2.1,x14.2.2.2.2.2.2.2.2.2.1,x14.2.2.2.2.2.2.2.2.2.2),decide (x11=(↑(ByteArray.size x12):Int)))
def instant_read_J3 (n:Nat)(a0:Addr)(a1:Addr)(a2:Addr)(a3:Addr)(a4:Value):M ((Int×Int×Int×Int×Int×Int×Int×Int×Int×Int×Int)×Bool) :=
 M.bind (ldL (li) a3) fun (x0:Int) =>
 M.bind (ldL .str a0) fun (x1:ByteArray) =>
 if decide (x0<(↑(ByteArray.size x1):Int)) then
  M.bind (ldL (li) (a2.plus 0)) fun (x2:Int) =>
  if decide (x2=3) then
   instant_read_J4 n a0 a1 a2 a3 a4
  else
   M.bind (ldLs [li,li,li,li,li,li,li,li,li,li,.int IntKind.u8] a2) fun (x3:Int×Int×Int×Int×Int×Int×Int×Int×Int×Int×Int) =>
   M.bind (ldL (li) a3) fun (x4:Int) =>
   M.bind (ldL .str a0) fun (x5:ByteArray) =>
   M.bind (chk [some a3,some a0] (stN a1 [vi x3.1,vi x3.2.1,vi x3.2.2.1,vi x3.2.2.2.1,vi x3.2.2.2.2.1,vi x3.2.2.2.2.2.1,vi x3.2.2.2.2.2.2.1,vi x3.2.2.2.2.2.2.2.1,vi x3.2.2.2.2.2.2.2.2.1,vi x3.2.2.2.2.2.2.2.2.2.1,Value.int IntKind.u8 x3.2.2.2.2.2.2.2.2.2.2])) fun x6 =>
   M.bind (ldLs [li,li,li,li,li,li,li,li,li,li,.int IntKind.u8] a1) fun (x7:Int×Int×Int×Int×Int×Int×Int×Int×Int×Int×Int) =>
   M.pure ((x7.1,x7.2.1,x7.2.2.1,x7.2.2.2.1,x7.2.2.2.2.1,x7.2.2.2.2.2.1,x7.2.2.2.2.2.2.1,x7.2.2.2.2.2.2.2.1,x7.2.2.2.2.2.2.2.2.1,x7.2.2.2.2.2.2.2.2.2.1,x7.2.2.2.2.2.2.2.2.2.2),decide (x4=(↑(ByteArray.size x5):Int)))
 else
  M.bind (ldLs [li,li,li,li,li,li,li,li,li,li,.int IntKind.u8] a2) fun (x2:Int×Int×Int×Int×Int×Int×Int×Int×Int×Int×Int) =>
  M.bind (ldL (li) a3) fun (x3:Int) =>
  M.bind (ldL .str a0) fun (x4:ByteArray) =>
  M.bind (chk [some a3,some a0] (stN a1 [vi x2.1,vi x2.2.1,vi x2.2.2.1,vi x2.2.2.2.1,vi x2.2.2.2.2.1,vi x2.2.2.2.2.2.1,vi x2.2.2.2.2.2.2.1,vi x2.2.2.2.2.2.2.2.1,vi x2.2.2.2.2.2.2.2.2.1,vi x2.2.2.2.2.2.2.2.2.2.1,Value.int IntKind.u8 x2.2.2.2.2.2.2.2.2.2.2])) fun x5 =>
  M.bind (ldLs [li,li,li,li,li,li,li,li,li,li,.int IntKind.u8] a1) fun (x6:Int×Int×Int×Int×Int×Int×Int×Int×Int×Int×Int) =>
  M.pure ((x6.1,x6.2.1,x6.2.2.1,x6.2.2.2.1,x6.2.2.2.2.1,x6.2.2.2.2.2.1,x6.2.2.2.2.2.2.1,x6.2.2.2.2.2.2.2.1,x6.2.2.2.2.2.2.2.2.1,x6.2.2.2.2.2.2.2.2.2.1,x6.2.2.2.2.2.2.2.2.2.2),decide (x3=(↑(ByteArray.size x4):Int)))
def instant_read_J2 (n:Nat)(a0:Addr)(a1:Addr)(a2:Addr)(a3:Addr)(a4:Value):M ((Int×Int×Int×Int×Int×Int×Int×Int×Int×Int×Int)×Bool) :=
 M.bind (ldL (li) a3) fun (x0:Int) =>
 M.bind (stN a3 [vi (IntKind.i64.wrap (x0+1))]) fun x1 =>
 M.bind (instant_read_L0 n a0 a1 a2 a3 a4 0) fun x2 =>
 if decide (x2=0) then
  M.bind (ldLs [li,li,li,li,li,li,li,li,li,li,.int IntKind.u8] a2) fun (x3:Int×Int×Int×Int×Int×Int×Int×Int×Int×Int×Int) =>
  M.bind (stN a1 [vi x3.1,vi x3.2.1,vi x3.2.2.1,vi x3.2.2.2.1,vi x3.2.2.2.2.1,vi x3.2.2.2.2.2.1,vi x3.2.2.2.2.2.2.1,vi x3.2.2.2.2.2.2.2.1,vi x3.2.2.2.2.2.2.2.2.1,vi x3.2.2.2.2.2.2.2.2.2.1,Value.int IntKind.u8 x3.2.2.2.2.2.2.2.2.2.2]) fun x4 =>
  M.bind (ldLs [li,li,li,li,li,li,li,li,li,li,.int IntKind.u8] a1) fun (x5:Int×Int×Int×Int×Int×Int×Int×Int×Int×Int×Int) =>
  M.pure ((x5.1,x5.2.1,x5.2.2.1,x5.2.2.2.1,x5.2.2.2.2.1,x5.2.2.2.2.2.1,x5.2.2.2.2.2.2.1,x5.2.2.2.2.2.2.2.1,x5.2.2.2.2.2.2.2.2.1,x5.2.2.2.2.2.2.2.2.2.1,x5.2.2.2.2.2.2.2.2.2.2),false)
 else
  M.bind (instant_read_L1 n a0 a1 a2 a3 a4 x2) fun x3 =>
  instant_read_J3 n a0 a1 a2 a3 a4
def instant_read_J1 (n:Nat)(a0:Addr)(a1:Addr)(a2:Addr)(a3:Addr)(a4:Value):M ((Int×Int×Int×Int×Int×Int×Int×Int×Int×Int×Int)×Bool) :=
 M.bind (sliceA (a2.plus 1) 8 3 6 1) fun x0 =>
 M.bind (instant_read_D44 n a4 x0 2 58) fun x1 =>
 if !x1 then
  M.bind (ldLs [li,li,li,li,li,li,li,li,li,li,.int IntKind.u8] a2) fun (x2:Int×Int×Int×Int×Int×Int×Int×Int×Int×Int×Int) =>
  M.bind (stN a1 [vi x2.1,vi x2.2.1,vi x2.2.2.1,vi x2.2.2.2.1,vi x2.2.2.2.2.1,vi x2.2.2.2.2.2.1,vi x2.2.2.2.2.2.2.1,vi x2.2.2.2.2.2.2.2.1,vi x2.2.2.2.2.2.2.2.2.1,vi x2.2.2.2.2.2.2.2.2.2.1,Value.int IntKind.u8 x2.2.2.2.2.2.2.2.2.2.2]) fun x3 =>
  M.bind (ldLs [li,li,li,li,li,li,li,li,li,li,.int IntKind.u8] a1) fun (x4:Int×Int×Int×Int×Int×Int×Int×Int×Int×Int×Int) =>
  M.pure ((x4.1,x4.2.1,x4.2.2.1,x4.2.2.2.1,x4.2.2.2.2.1,x4.2.2.2.2.2.1,x4.2.2.2.2.2.2.1,x4.2.2.2.2.2.2.2.1,x4.2.2.2.2.2.2.2.2.1,x4.2.2.2.2.2.2.2.2.2.1,x4.2.2.2.2.2.2.2.2.2.2),false)
 else
  M.bind (ldL (li) (a2.plus 0)) fun (x2:Int) =>
  M.bind (stN (a2.plus 0) [vi (IntKind.i64.wrap (x2+2))]) fun x3 =>
  M.bind (ldL (li) a3) fun (x4:Int) =>
  M.bind (ldL .str a0) fun (x5:ByteArray) =>
  if decide (x4<(↑(ByteArray.size x5):Int)) then
   M.bind (ldL .str a0) fun (x6:ByteArray) =>
   M.bind (ldL (li) a3) fun (x7:Int) =>
   M.bind (idxS x6 x7) fun x8 =>
   if decide ((↑x8.toNat:Int)=46) then
    instant_read_J2 n a0 a1 a2 a3 a4
   else
    instant_read_J3 n a0 a1 a2 a3 a4
  else
   instant_read_J3 n a0 a1 a2 a3 a4
def instant_read_J0 (n:Nat)(a0:Addr)(a1:Addr)(a2:Addr)(a3:Addr)(a4:Value):M ((Int×Int×Int×Int×Int×Int×Int×Int×Int×Int×Int)×Bool) :=
 M.bind (sliceA (a2.plus 1) 8 0 3 1) fun x0 =>
 M.bind (instant_read_D19 n a4 x0 4 45) fun x1 =>
 if !x1 then
  M.bind (ldLs [li,li,li,li,li,li,li,li,li,li,.int IntKind.u8] a2) fun (x2:Int×Int×Int×Int×Int×Int×Int×Int×Int×Int×Int) =>
  M.bind (stN a1 [vi x2.1,vi x2.2.1,vi x2.2.2.1,vi x2.2.2.2.1,vi x2.2.2.2.2.1,vi x2.2.2.2.2.2.1,vi x2.2.2.2.2.2.2.1,vi x2.2.2.2.2.2.2.2.1,vi x2.2.2.2.2.2.2.2.2.1,vi x2.2.2.2.2.2.2.2.2.2.1,Value.int IntKind.u8 x2.2.2.2.2.2.2.2.2.2.2]) fun x3 =>
  M.bind (ldLs [li,li,li,li,li,li,li,li,li,li,.int IntKind.u8] a1) fun (x4:Int×Int×Int×Int×Int×Int×Int×Int×Int×Int×Int) =>
  M.pure ((x4.1,x4.2.1,x4.2.2.1,x4.2.2.2.1,x4.2.2.2.2.1,x4.2.2.2.2.2.1,x4.2.2.2.2.2.2.1,x4.2.2.2.2.2.2.2.1,x4.2.2.2.2.2.2.2.2.1,x4.2.2.2.2.2.2.2.2.2.1,x4.2.2.2.2.2.2.2.2.2.2),false)
 else
  M.bind (stN (a2.plus 0) [vi 1]) fun x2 =>
  M.bind (ldL (li) a3) fun (x3:Int) =>
  M.bind (ldL .str a0) fun (x4:ByteArray) =>
  if decide (x3=(↑(ByteArray.size x4):Int)) then
   M.bind (ldLs [li,li,li,li,li,li,li,li,li,li,.int IntKind.u8] a2) fun (x5:Int×Int×Int×Int×Int×Int×Int×Int×Int×Int×Int) =>
   M.bind (stN a1 [vi x5.1,vi x5.2.1,vi x5.2.2.1,vi x5.2.2.2.1,vi x5.2.2.2.2.1,vi x5.2.2.2.2.2.1,vi x5.2.2.2.2.2.2.1,vi x5.2.2.2.2.2.2.2.1,vi x5.2.2.2.2.2.2.2.2.1,vi x5.2.2.2.2.2.2.2.2.2.1,Value.int IntKind.u8 x5.2.2.2.2.2.2.2.2.2.2]) fun x6 =>
   M.bind (ldLs [li,li,li,li,li,li,li,li,li,li,.int IntKind.u8] a1) fun (x7:Int×Int×Int×Int×Int×Int×Int×Int×Int×Int×Int) =>
   M.pure ((x7.1,x7.2.1,x7.2.2.1,x7.2.2.2.1,x7.2.2.2.2.1,x7.2.2.2.2.2.1,x7.2.2.2.2.2.2.1,x7.2.2.2.2.2.2.2.1,x7.2.2.2.2.2.2.2.2.1,x7.2.2.2.2.2.2.2.2.2.1,x7.2.2.2.2.2.2.2.2.2.2),true)
  else
   M.bind (ldL .str a0) fun (x5:ByteArray) =>
   M.bind (ldL (li) a3) fun (x6:Int) =>
   M.bind (idxS x5 x6) fun x7 =>
   if !decide ((↑x7.toNat:Int)=84) then
    M.bind (ldL .str a0) fun (x8:ByteArray) =>
    M.bind (ldL (li) a3) fun (x9:Int) =>
    M.bind (idxS x8 x9) fun x10 =>
    if !decide ((↑x10.toNat:Int)=32) then
     M.bind (ldLs [li,li,li,li,li,li,li,li,li,li,.int IntKind.u8] a2) fun (x11:Int×Int×Int×Int×Int×Int×Int×Int×Int×Int×Int) =>
     M.bind (stN a1 [vi x11.1,vi x11.2.1,vi x11.2.2.1,vi x11.2.2.2.1,vi x11.2.2.2.2.1,vi x11.2.2.2.2.2.1,vi x11.2.2.2.2.2.2.1,vi x11.2.2.2.2.2.2.2.1,vi x11.2.2.2.2.2.2.2.2.1,vi x11.2.2.2.2.2.2.2.2.2.1,Value.int IntKind.u8 x11.2.2.2.2.2.2.2.2.2.2]) fun x12 =>
     M.bind (ldLs [li,li,li,li,li,li,li,li,li,li,.int IntKind.u8] a1) fun (x13:Int×Int×Int×Int×Int×Int×Int×Int×Int×Int×Int) =>
     M.pure ((x13.1,x13.2.1,x13.2.2.1,x13.2.2.2.1,x13.2.2.2.2.1,x13.2.2.2.2.2.1,x13.2.2.2.2.2.2.1,x13.2.2.2.2.2.2.2.1,x13.2.2.2.2.2.2.2.2.1,x13.2.2.2.2.2.2.2.2.2.1,x13.2.2.2.2.2.2.2.2.2.2),false)
    else
     M.bind (ldL (li) a3) fun (x11:Int) =>
     M.bind (stN a3 [vi (IntKind.i64.wrap (x11+1))]) fun x12 =>
     instant_read_J1 n a0 a1 a2 a3 a4
   else
    M.bind (ldL (li) a3) fun (x8:Int) =>
    M.bind (stN a3 [vi (IntKind.i64.wrap (x8+1))]) fun x9 =>
    instant_read_J1 n a0 a1 a2 a3 a4
def instant_read (n:Nat)(a0:ByteArray):M ((Int×Int×Int×Int×Int×Int×Int×Int×Int×Int×Int)×Bool) :=
 M.bind (newB none T_string [Value.string a0]) fun x0 =>
 M.bind (newB none T_instant_moment [vi 0,vi 0,vi 0,vi 0,vi 0,vi 0,vi 0,vi 0,vi 0,vi 0,Value.int IntKind.u8 0]) fun x1 =>
 M.bind (newB none T_instant_moment [vi 0,vi 0,vi 0,vi 0,vi 0,vi 0,vi 0,vi 0,vi 0,vi 0,Value.int IntKind.u8 0]) fun x2 =>
 M.bind (newB none T_i64 [vi 0]) fun x3 =>
 M.bind (stN (adr x3) [vi 0]) fun x4 =>
 M.bind (newB none T_fn_i64__i64_bool [Value.nilFunc]) fun x5 =>
 M.bind (stN (adr x5) [Value.func (Fn.func F_instant_read_1) #[] #[Value.pointer (some (adr x3)),Value.pointer (some (adr x0))]]) fun x6 =>
 M.bind (ldL .str (adr x0)) fun (x7:ByteArray) =>
 if decide (2<(↑(ByteArray.size x7):Int)) then
  M.bind (ldL .str (adr x0)) fun (x8:ByteArray) =>
  M.bind (idxS x8 2) fun x9 =>
  if !decide ((↑x9.toNat:Int)=58) then
   instant_read_J0 n (adr x0) (adr x1) (adr x2) (adr x3) (Value.func (Fn.func F_instant_read_2) #[] #[Value.pointer (some (adr x3)),Value.pointer (some (adr x0)),Value.pointer (some (adr x5))])
  else
   instant_read_J1 n (adr x0) (adr x1) (adr x2) (adr x3) (Value.func (Fn.func F_instant_read_2) #[] #[Value.pointer (some (adr x3)),Value.pointer (some (adr x0)),Value.pointer (some (adr x5))])
 else
  instant_read_J1 n (adr x0) (adr x1) (adr x2) (adr x3) (Value.func (Fn.func F_instant_read_2) #[] #[Value.pointer (some (adr x3)),Value.pointer (some (adr x0)),Value.pointer (some (adr x5))])
abbrev q74_E (n:Nat):Ent:=⟨74,[tyS],[.agg [.int .i64,.int .i64,.int .i64,.int .i64,.int .i64,.int .i64,.int .i64,.int .i64,.int .i64,.int .i64,.int .u8],tyB],fun x=>instant_read n x⟩
abbrev q74_L0_a:List (Nat×Ty):=[(1,tyA),(2,tyA),(4,tyA),(5,tyA),(7,tyR),(8,tyI)]
abbrev q74_L0_w:List Nat:=[8,66,67,68,69,70,71,72,73,74,75,76,77,78,79,80,81,82,83,84,85,86,87,88,89,90,91,92,93,94,95,96,97,98,99]
abbrev q74_L0_p:Path:=[0,0,1,1,0,1,0,1,1,1,1,1,1,1,1]
abbrev q74_L0_g (n:Nat)(x:TsDen (tys q74_L0_a)):M (Int):=instant_read_L0 n (x.1) (x.2.1) (x.2.2.1) (x.2.2.2.1) (x.2.2.2.2.1) (x.2.2.2.2.2)
abbrev q74_L0_l (n:Nat):LEnt:=⟨q74_L0_p,q74_L0_a,actL1 q74_L0_a [(8,tyI)] q74_L0_w 0 (q74_L0_g n)⟩
abbrev q74_L1_a:List (Nat×Ty):=[(1,tyA),(2,tyA),(4,tyA),(5,tyA),(7,tyR),(8,tyI)]
abbrev q74_L1_w:List Nat:=[8,103,104,105,106,107,108,109,110]
abbrev q74_L1_p:Path:=[0,1,1,1,1,0,1,0,1,1,1,1,1,1,1,1]
abbrev q74_L1_g (n:Nat)(x:TsDen (tys q74_L1_a)):M (Unit):=instant_read_L1 n (x.1) (x.2.1) (x.2.2.1) (x.2.2.2.1) (x.2.2.2.2.1) (x.2.2.2.2.2)
abbrev q74_L1_l (n:Nat):LEnt:=⟨q74_L1_p,q74_L1_a,actL1 q74_L1_a [] q74_L1_w 2 (q74_L1_g n)⟩
abbrev q74_dt (n:Nat):List DEnt:=[⟨19,[tyL,tyI,.one (.int .u8)],[tyB],fun x a=>instant_read_D19 n x (a.1) (a.2.1) (a.2.2)⟩,
 ⟨44,[tyL,tyI,.one (.int .u8)],[tyB],fun x a=>instant_read_D44 n x (a.1) (a.2.1) (a.2.2)⟩,
 ⟨143,[tyL,tyI,.one (.int .u8)],[tyB],fun x a=>instant_read_D143 n x (a.1) (a.2.1) (a.2.2)⟩]
def q74_dr (i:Nat):Option (List (Nat×List Nat)):=cond (Nat.beq i 21) (some [(0,[]),(1,[]),(2,[]),(3,[]),(4,[]),(5,[]),(6,[]),(7,[]),(8,[]),(9,[]),(10,[])]) (cond (Nat.beq i 33) (some [(0,[]),(1,[]),(2,[]),(3,[]),(4,[]),(5,[1,2]),(6,[])]) (cond (Nat.beq i 36) (some [(0,[]),(1,[]),(2,[]),(3,[]),(4,[]),(5,[1,2]),(6,[])]) (none)))
abbrev q74_L0_jt1 (n:Nat):List (JEnt (Int)):=[]
abbrev q74_L0_jt0 (n:Nat):List (JEnt (Int)):=⟨[0,0,1,0,0,0,1,1,0,1,0,1,1,1,1,1,1,1,1],[.code [1,0,1,0,0,0,1,1,0,1,0,1,1,1,1,1,1,1,1],.blk 1],[(1,tyA),(2,tyA),(4,tyA),(5,tyA),(7,tyR),(8,tyI)],fun x=>instant_read_L0_J0 n (x.1) (x.2.1) (x.2.2.1) (x.2.2.2.1) (x.2.2.2.2.1) (x.2.2.2.2.2)⟩::q74_L0_jt1 n
abbrev q74_lt (n:Nat):List LEnt:=[q74_L0_l n,q74_L1_l n]
abbrev q74_jt5 (n:Nat):List (JEnt ((Int×Int×Int×Int×Int×Int×Int×Int×Int×Int×Int)×Bool)):=[]
abbrev q74_jt4 (n:Nat):List (JEnt ((Int×Int×Int×Int×Int×Int×Int×Int×Int×Int×Int)×Bool)):=⟨[0,0,1,0,1,1,1,1,1,1,1,1,1],[.code [1,0,1,0,1,1,1,1,1,1,1,1,1],.code [1,1,1,1,1,1,1,1,1,1]],[(1,tyA),(2,tyA),(4,tyA),(5,tyA),(7,tyR)],fun x=>instant_read_J4 n (x.1) (x.2.1) (x.2.2.1) (x.2.2.2.1) (x.2.2.2.2)⟩::q74_jt5 n
abbrev q74_jt3 (n:Nat):List (JEnt ((Int×Int×Int×Int×Int×Int×Int×Int×Int×Int×Int)×Bool)):=⟨[0,0,1,1,1,1,1,1,1,1,1],[.code [1,0,1,1,1,1,1,1,1,1,1],.code [1,1,1,1,1,1,1,1,1,1]],[(1,tyA),(2,tyA),(4,tyA),(5,tyA),(7,tyR)],fun x=>instant_read_J3 n (x.1) (x.2.1) (x.2.2.1) (x.2.2.2.1) (x.2.2.2.2)⟩::q74_jt4 n
abbrev q74_jt2 (n:Nat):List (JEnt ((Int×Int×Int×Int×Int×Int×Int×Int×Int×Int×Int)×Bool)):=⟨[0,0,1,0,1,1,1,1,1,1,1,1],[.code [1,0,1,0,1,1,1,1,1,1,1,1],.code [1,1,1,1,1,1,1,1,1]],[(1,tyA),(2,tyA),(4,tyA),(5,tyA),(7,tyR)],fun x=>instant_read_J2 n (x.1) (x.2.1) (x.2.2.1) (x.2.2.2.1) (x.2.2.2.2)⟩::q74_jt3 n
abbrev q74_jt1 (n:Nat):List (JEnt ((Int×Int×Int×Int×Int×Int×Int×Int×Int×Int×Int)×Bool)):=⟨[0,0,1,1,1,1,1,1],[.code [1,0,1,1,1,1,1,1],.code [1,1,1,1,1,1,1]],[(1,tyA),(2,tyA),(4,tyA),(5,tyA),(7,tyR)],fun x=>instant_read_J1 n (x.1) (x.2.1) (x.2.2.1) (x.2.2.2.1) (x.2.2.2.2)⟩::q74_jt2 n
abbrev q74_jt0 (n:Nat):List (JEnt ((Int×Int×Int×Int×Int×Int×Int×Int×Int×Int×Int)×Bool)):=⟨[0,0,0,1,0,1,1,1,1,1],[.code [1,0,0,1,0,1,1,1,1,1],.code [1,0,1,0,1,1,1,1,1],.code [1,1,1,1,1,1]],[(1,tyA),(2,tyA),(4,tyA),(5,tyA),(7,tyR)],fun x=>instant_read_J0 n (x.1) (x.2.1) (x.2.2.1) (x.2.2.2.1) (x.2.2.2.2)⟩::q74_jt1 n
theorem q74_L1_ok (n:Nat){W:Wr}(hW:subW W 155 q74_L1_w=true):LEntOK Tryz.prog (bodyOf Tryz.f74) W (q74_L1_l n) :=
 loop1_t (bodyOf Tryz.f74) q74_L1_p q74_L1_a [] 2 155 q74_L1_w [] (fun _=>[]) q74_dt (fun _=>[]) q74_dr q74_L1_g (fun _=>[]) (by kernel_rfl) (fun _=>by kernel_rfl) (fun n x=>by kernel_rfl) n (fun m hm=>⟨.nil,.nil,(.cons (dent_ok (l:=[⟨105,[tyA,tyA,tyA],fun a c=>instant_read_2 m (a.1) (a.2.1) (a.2.2) (c.1) (c.2.1) (c.2.2)⟩]) (.cons (fun a c=>callOK_cast (by kernel_rfl) ((instant_read_2_ok m) (a.1,a.2.1,a.2.2,c.1,c.2.1,c.2.2))) .nil) (fun x a=>by kernel_rfl)) (.cons (dent_ok (l:=[⟨105,[tyA,tyA,tyA],fun a c=>instant_read_2 m (a.1) (a.2.1) (a.2.2) (c.1) (c.2.1) (c.2.2)⟩]) (.cons (fun a c=>callOK_cast (by kernel_rfl) ((instant_read_2_ok m) (a.1,a.2.1,a.2.2,c.1,c.2.1,c.2.2))) .nil) (fun x a=>by kernel_rfl)) (.cons (dent_ok (l:=[⟨105,[tyA,tyA,tyA],fun a c=>instant_read_2 m (a.1) (a.2.1) (a.2.2) (c.1) (c.2.1) (c.2.2)⟩]) (.cons (fun a c=>callOK_cast (by kernel_rfl) ((instant_read_2_ok m) (a.1,a.2.1,a.2.2,c.1,c.2.1,c.2.2))) .nil) (fun x a=>by kernel_rfl)) .nil))),.nil,.nil⟩) hW
theorem q74_L0_ok (n:Nat){W:Wr}(hW:subW W 155 q74_L0_w=true):LEntOK Tryz.prog (bodyOf Tryz.f74) W (q74_L0_l n) :=
 loop1_t (bodyOf Tryz.f74) q74_L0_p q74_L0_a [(8,tyI)] 0 155 q74_L0_w [] (fun _=>[]) q74_dt (fun _=>[]) q74_dr q74_L0_g q74_L0_jt0 (by kernel_rfl) (fun _=>by kernel_rfl) (fun n x=>by kernel_rfl) n (fun m hm=>⟨.nil,.nil,(.cons (dent_ok (l:=[⟨105,[tyA,tyA,tyA],fun a c=>instant_read_2 m (a.1) (a.2.1) (a.2.2) (c.1) (c.2.1) (c.2.2)⟩]) (.cons (fun a c=>callOK_cast (by kernel_rfl) ((instant_read_2_ok m) (a.1,a.2.1,a.2.2,c.1,c.2.1,c.2.2))) .nil) (fun x a=>by kernel_rfl)) (.cons (dent_ok (l:=[⟨105,[tyA,tyA,tyA],fun a c=>instant_read_2 m (a.1) (a.2.1) (a.2.2) (c.1) (c.2.1) (c.2.2)⟩]) (.cons (fun a c=>callOK_cast (by kernel_rfl) ((instant_read_2_ok m) (a.1,a.2.1,a.2.2,c.1,c.2.1,c.2.2))) .nil) (fun x a=>by kernel_rfl)) (.cons (dent_ok (l:=[⟨105,[tyA,tyA,tyA],fun a c=>instant_read_2 m (a.1) (a.2.1) (a.2.2) (c.1) (c.2.1) (c.2.2)⟩]) (.cons (fun a c=>callOK_cast (by kernel_rfl) ((instant_read_2_ok m) (a.1,a.2.1,a.2.2,c.1,c.2.1,c.2.2))) .nil) (fun x a=>by kernel_rfl)) .nil))),.nil,(.cons (fun x=>by kernel_rfl) .nil)⟩) hW
theorem instant_read_ok (n:Nat):FnOK Tryz.prog (q74_E n) :=
 fn_t (q74_E n) Tryz.f74 (bodyOf Tryz.f74) [(0,tyS)] [] [] (q74_dt n) (q74_lt n) (q74_jt0 n) q74_dr (by kernel_rfl) (by kernel_rfl) (by kernel_rfl) (by kernel_rfl) (by kernel_rfl) ⟨.nil,.nil,(.cons (dent_ok (l:=[⟨105,[tyA,tyA,tyA],fun a c=>instant_read_2 n (a.1) (a.2.1) (a.2.2) (c.1) (c.2.1) (c.2.2)⟩]) (.cons (fun a c=>callOK_cast (by kernel_rfl) ((instant_read_2_ok n) (a.1,a.2.1,a.2.2,c.1,c.2.1,c.2.2))) .nil) (fun x a=>by kernel_rfl)) (.cons (dent_ok (l:=[⟨105,[tyA,tyA,tyA],fun a c=>instant_read_2 n (a.1) (a.2.1) (a.2.2) (c.1) (c.2.1) (c.2.2)⟩]) (.cons (fun a c=>callOK_cast (by kernel_rfl) ((instant_read_2_ok n) (a.1,a.2.1,a.2.2,c.1,c.2.1,c.2.2))) .nil) (fun x a=>by kernel_rfl)) (.cons (dent_ok (l:=[⟨105,[tyA,tyA,tyA],fun a c=>instant_read_2 n (a.1) (a.2.1) (a.2.2) (c.1) (c.2.1) (c.2.2)⟩]) (.cons (fun a c=>callOK_cast (by kernel_rfl) ((instant_read_2_ok n) (a.1,a.2.1,a.2.2,c.1,c.2.1,c.2.2))) .nil) (fun x a=>by kernel_rfl)) .nil))),(.cons (q74_L0_ok n (by kernel_rfl)) (.cons (q74_L1_ok n (by kernel_rfl)) .nil)),(.cons (fun x=>by kernel_rfl) (.cons (fun x=>by kernel_rfl) (.cons (fun x=>by kernel_rfl) (.cons (fun x=>by kernel_rfl) (.cons (fun x=>by kernel_rfl) .nil)))))⟩ (fun x=>by kernel_rfl)
def civil_Leap (n:Nat)(a0:Int):M (Bool) :=
 M.bind (ckM (decide (4≠0))) fun x0 =>
 if decide (a0.tmod 4=0) then
  M.bind (ckM (decide (100≠0))) fun x1 =>
  if !decide (a0.tmod 100=0) then
   M.pure true
  else
   M.bind (ckM (decide (400≠0))) fun x2 =>
   M.pure (decide (a0.tmod 400=0))
 else
  M.pure false
abbrev q158_E (n:Nat):Ent:=⟨158,[tyI],[tyB],fun x=>civil_Leap n x⟩
theorem civil_Leap_ok (n:Nat):FnOK Tryz.prog (q158_E n) :=
 fn_t (q158_E n) Tryz.f158 (bodyOf Tryz.f158) [(0,tyI)] [] [] [] [] [] dr0 (by kernel_rfl) (by kernel_rfl) (by kernel_rfl) (by kernel_rfl) (by kernel_rfl) ⟨.nil,.nil,.nil,.nil,.nil⟩ (fun x=>by kernel_rfl)
end Go.Sh
