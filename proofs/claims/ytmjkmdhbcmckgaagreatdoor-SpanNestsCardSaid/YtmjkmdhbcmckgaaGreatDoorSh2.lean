
import Derived.Test.YtmjkmdhbcmckgaaGreatDoorSh1
set_option maxRecDepth 100000
set_option maxHeartbeats 0
set_option linter.all false
namespace Go.Sh
open Go Go.Ago Go.Proofs
def graph_Check_L1_B (G:Addr→Sl→Sl→Int→Int→M ((Unit) ⊕ (Int)))(n:Nat)(a0:Addr)(a1:Sl)(a2:Sl)(a3:Int)(a4:Int):M ((Unit) ⊕ (Int)) :=
 if decide (a4<a3) then
  M.bind (idxA a2 a4 1) fun x0 =>
  M.bind (ldL .bool x0) fun (x1:Bool) =>
  if x1 then
   M.bind (idxA a1 a4 1) fun x2 =>
   M.bind (ldL (li) x2) fun (x3:Int) =>
   if !decide (x3=1) then
    M.pure (Sum.inr 3)
   else
    G a0 a1 a2 a3 (IntKind.i64.wrap (a4+1))
  else
   G a0 a1 a2 a3 (IntKind.i64.wrap (a4+1))
 else
  M.pure (Sum.inl ())
def graph_Check_L1:Nat→Addr→Sl→Sl→Int→Int→M ((Unit) ⊕ (Int))
 | 0=>fun _ _ _ _ _=>M.fail
 | n+1=>graph_Check_L1_B (graph_Check_L1 n) n
theorem graph_Check_L1_succ (n:Nat):graph_Check_L1 (n+1)=graph_Check_L1_B (graph_Check_L1 n) n:=rfl
def graph_Check_L0_B (G:Addr→Sl→Sl→Int→Int→M ((Unit) ⊕ (Int)))(n:Nat)(a0:Addr)(a1:Sl)(a2:Sl)(a3:Int)(a4:Int):M ((Unit) ⊕ (Int)) :=
 if decide (a4<a3) then
  M.bind (idxA a2 a4 5) fun x0 =>
  M.bind (ldLs [li,.str,.bool,.sl,.sl] x0) fun (x1:Int×ByteArray×Bool×Sl×Sl) =>
  M.bind (newB none T_api_Node [vi 0,Value.string (ofBytes []),Value.bool false,vsl0,vsl0]) fun x2 =>
  M.bind (stN (adr x2) [vi x1.1,Value.string x1.2.1,Value.bool x1.2.2.1,vsl x1.2.2.2.1,vsl x1.2.2.2.2]) fun x3 =>
  M.bind (idxA a1 a4 1) fun x4 =>
  M.bind (ldL .bool x4) fun (x5:Bool) =>
  if !x5 then
   M.pure (Sum.inr 3)
  else
   M.bind (ldLs [li,.str,.bool,.sl,.sl] (adr x2)) fun (x6:Int×ByteArray×Bool×Sl×Sl) =>
   M.bind (graph_form n (x6.1,x6.2.1,x6.2.2.1,x6.2.2.2.1,x6.2.2.2.2)) fun x7 =>
   if !x7 then
    M.pure (Sum.inr 3)
   else
    G a0 a1 a2 a3 (IntKind.i64.wrap (a4+1))
 else
  M.pure (Sum.inl ())
def graph_Check_L0:Nat→Addr→Sl→Sl→Int→Int→M ((Unit) ⊕ (Int))
 | 0=>fun _ _ _ _ _=>M.fail
 | n+1=>graph_Check_L0_B (graph_Check_L0 n) n
theorem graph_Check_L0_succ (n:Nat):graph_Check_L0 (n+1)=graph_Check_L0_B (graph_Check_L0 n) n:=rfl
def graph_Check_J0 (n:Nat)(a0:Addr):M (Int) :=
 M.bind (ldL .sl (a0.plus 0)) fun (x0:Sl) =>
 M.bind (mkS none T_bool [Value.bool false] (↑x0.len:Int) (↑x0.len:Int)) fun x1 =>
 M.bind (ldLs [.sl,li] a0) fun (x2:Sl×Int) =>
 M.bind (ldL (li) (a0.plus 1)) fun (x3:Int) =>
 M.bind (graph_reached n (x2.1,x2.2) x3 x1) fun x4 =>
 M.bind (ldL .sl (a0.plus 0)) fun (x5:Sl) =>
 M.bind (graph_Check_L0 n a0 x1 x5 (↑x5.len:Int) 0) (sumElim (fun x6 =>
  M.bind (ldLs [.sl,li] a0) fun (x7:Sl×Int) =>
  M.bind (graph_counts n (x7.1,x7.2)) fun x8 =>
  M.bind (ldLs [.sl,li] a0) fun (x9:Sl×Int) =>
  M.bind (graph_inKeys n (x9.1,x9.2)) fun x10 =>
  M.bind (graph_Check_L1 n a0 x8 x10 (↑x10.len:Int) 0) (sumElim (fun x11 =>
   M.bind (ldLs [.sl,li] a0) fun (x12:Sl×Int) =>
   M.bind (graph_twice n (x12.1,x12.2)) fun x13 =>
   if x13 then
    M.pure 8
   else
    M.bind (ldLs [.sl,li] a0) fun (x14:Sl×Int) =>
    M.bind (graph_depth n (x14.1,x14.2)) fun x15 =>
    if decide (32<x15.1) then
     M.pure 5
    else
     M.pure 0)
  (fun x11 =>
   M.pure x11)))
 (fun x6 =>
  M.pure x6))
def graph_Check (n:Nat)(a0:Sl×Int):M (Int) :=
 M.bind (newB none T_api_Graph [vsl a0.1,vi a0.2]) fun x0 =>
 M.bind (ldL .sl ((adr x0).plus 0)) fun (x1:Sl) =>
 if decide (4096<(↑x1.len:Int)) then
  M.pure 7
 else
  M.bind (ldL .sl ((adr x0).plus 0)) fun (x2:Sl) =>
  if decide ((↑x2.len:Int)=0) then
   M.pure 3
  else
   M.bind (ldLs [.sl,li] (adr x0)) fun (x3:Sl×Int) =>
   M.bind (graph_indices n (x3.1,x3.2)) fun x4 =>
   if !x4 then
    M.pure 3
   else
    graph_Check_J0 n (adr x0)
abbrev q13_E (n:Nat):Ent:=⟨13,[.agg [.sl,.int .i64]],[tyI],fun x=>graph_Check n x⟩
abbrev q13_L0_a:List (Nat×Ty):=[(1,tyA),(3,tyL),(34,tyL),(35,tyI),(36,tyI)]
abbrev q13_L0_w:List Nat:=[2,4,5,36,37,38,39,40,41,42,43,44,45,46,47,48,49,50,51]
abbrev q13_L0_p:Path:=[0,1,0,1,1,1,1,1]
abbrev q13_L0_g (n:Nat)(x:TsDen (tys q13_L0_a)):M ((Unit) ⊕ (Int)):=graph_Check_L0 n (x.1) (x.2.1) (x.2.2.1) (x.2.2.2.1) (x.2.2.2.2)
abbrev q13_L0_l (n:Nat):LEnt:=⟨q13_L0_p,q13_L0_a,actL2 q13_L0_a [] [(2,tyI)] q13_L0_w 0 .ret (q13_L0_g n)⟩
abbrev q13_L1_a:List (Nat×Ty):=[(1,tyA),(6,tyL),(55,tyL),(56,tyI),(57,tyI)]
abbrev q13_L1_w:List Nat:=[2,7,8,57,58,59,60,61,62,63,64,65,66,67,68,69,70]
abbrev q13_L1_p:Path:=[0,1,0,1,1,1,1,1,1,1]
abbrev q13_L1_g (n:Nat)(x:TsDen (tys q13_L1_a)):M ((Unit) ⊕ (Int)):=graph_Check_L1 n (x.1) (x.2.1) (x.2.2.1) (x.2.2.2.1) (x.2.2.2.2)
abbrev q13_L1_l (n:Nat):LEnt:=⟨q13_L1_p,q13_L1_a,actL2 q13_L1_a [] [(2,tyI)] q13_L1_w 2 .ret (q13_L1_g n)⟩
abbrev q13_ct (n:Nat):List Ent:=[q32_E n,q33_E n,q34_E n,q35_E n,q36_E n,q37_E n,q38_E n]
abbrev q13_lt (n:Nat):List LEnt:=[q13_L0_l n,q13_L1_l n]
abbrev q13_jt1 (n:Nat):List (JEnt (Int)):=[]
abbrev q13_jt0 (n:Nat):List (JEnt (Int)):=⟨[0,1,1,1],[.code [1,1,1,1]],[(1,tyA)],fun x=>graph_Check_J0 n x⟩::q13_jt1 n
theorem q13_L1_ok (n:Nat){W:Wr}(hW:subW W 80 q13_L1_w=true):LEntOK Tryz.prog (bodyOf Tryz.f13) W (q13_L1_l n) :=
 loop2_t (bodyOf Tryz.f13) q13_L1_p q13_L1_a [] [(2,tyI)] 2 .ret 80 q13_L1_w [] q13_ct (fun _=>[]) (fun _=>[]) dr0 q13_L1_g (fun _=>[]) (by kernel_rfl) (fun _=>by kernel_rfl) (fun n x=>by kernel_rfl) n (fun m hm=>⟨.nil,(.cons (graph_indices_ok m) (.cons (graph_reached_ok m) (.cons (graph_form_ok m) (.cons (graph_counts_ok m) (.cons (graph_inKeys_ok m) (.cons (graph_twice_ok m) (.cons (graph_depth_ok m) .nil))))))),.nil,.nil,.nil⟩) hW
theorem q13_L0_ok (n:Nat){W:Wr}(hW:subW W 80 q13_L0_w=true):LEntOK Tryz.prog (bodyOf Tryz.f13) W (q13_L0_l n) :=
 loop2_t (bodyOf Tryz.f13) q13_L0_p q13_L0_a [] [(2,tyI)] 0 .ret 80 q13_L0_w [] q13_ct (fun _=>[]) (fun _=>[]) dr0 q13_L0_g (fun _=>[]) (by kernel_rfl) (fun _=>by kernel_rfl) (fun n x=>by kernel_rfl) n (fun m hm=>⟨.nil,(.cons (graph_indices_ok m) (.cons (graph_reached_ok m) (.cons (graph_form_ok m) (.cons (graph_counts_ok m) (.cons (graph_inKeys_ok m) (.cons (graph_twice_ok m) (.cons (graph_depth_ok m) .nil))))))),.nil,.nil,.nil⟩) hW
theorem graph_Check_ok (n:Nat):FnOK Tryz.prog (q13_E n) :=
 fn_t (q13_E n) Tryz.f13 (bodyOf Tryz.f13) [(0,.agg [.sl,.int .i64])] [] (q13_ct n) [] (q13_lt n) (q13_jt0 n) dr0 (by kernel_rfl) (by kernel_rfl) (by kernel_rfl) (by kernel_rfl) (by kernel_rfl) ⟨.nil,(.cons (graph_indices_ok n) (.cons (graph_reached_ok n) (.cons (graph_form_ok n) (.cons (graph_counts_ok n) (.cons (graph_inKeys_ok n) (.cons (graph_twice_ok n) (.cons (graph_depth_ok n) .nil))))))),.nil,(.cons (q13_L0_ok n (by kernel_rfl)) (.cons (q13_L1_ok n (by kernel_rfl)) .nil)),(.cons (fun x=>by kernel_rfl) .nil)⟩ (fun x=>by kernel_rfl)
def span_children_L0_B (G:Option Nat→Sl→Int→Int→M (Unit))(n:Nat)(a0:Option Nat)(a1:Sl)(a2:Int)(a3:Int):M (Unit) :=
 if decide (a3<a2) then
  M.bind (idxA a1 a3 9) fun x0 =>
  M.bind (ldLs [li,li,li,li,li,li,li,.bool,.bool] x0) fun (x1:Int×Int×Int×Int×Int×Int×Int×Bool×Bool) =>
  M.bind (newB none T_api_Span [vi 0,vi 0,vi 0,vi 0,vi 0,vi 0,vi 0,Value.bool false,Value.bool false]) fun x2 =>
  M.bind (stN (adr x2) [vi x1.1,vi x1.2.1,vi x1.2.2.1,vi x1.2.2.2.1,vi x1.2.2.2.2.1,vi x1.2.2.2.2.2.1,vi x1.2.2.2.2.2.2.1,Value.bool x1.2.2.2.2.2.2.2.1,Value.bool x1.2.2.2.2.2.2.2.2]) fun x3 =>
  M.bind (ldL (li) ((adr x2).plus 1)) fun (x4:Int) =>
  M.bind (ldL (li) ((adr x2).plus 1)) fun (x5:Int) =>
  M.bind (mpGet T_i64 (Ty.one .sl) sl0 a0 (vi x5)) fun (x6:Bool×Sl) =>
  M.bind (app true x6.2 1 T_i64 1 [vi a3]) fun x7 =>
  M.bind (mpSet T_i64 a0 (vi x4) (vsl x7)) fun x8 =>
  G a0 a1 a2 (IntKind.i64.wrap (a3+1))
 else
  M.pure ()
def span_children_L0:Nat→Option Nat→Sl→Int→Int→M (Unit)
 | 0=>fun _ _ _ _=>M.fail
 | n+1=>span_children_L0_B (span_children_L0 n) n
theorem span_children_L0_succ (n:Nat):span_children_L0 (n+1)=span_children_L0_B (span_children_L0 n) n:=rfl
def span_children (n:Nat)(a0:Int×ByteArray×Sl×Int×Sl×Sl):M ((Option Nat)) :=
 M.bind (newB none T_api_Doc [vi a0.1,Value.string a0.2.1,vsl a0.2.2.1,vi a0.2.2.2.1,vsl a0.2.2.2.2.1,vsl a0.2.2.2.2.2]) fun x0 =>
 M.bind (mpNew T_i64) fun x1 =>
 M.bind (ldL .sl ((adr x0).plus 4)) fun (x2:Sl) =>
 M.bind (span_children_L0 n (some x1) x2 (↑x2.len:Int) 0) fun x3 =>
 M.pure (some x1)
abbrev q29_E (n:Nat):Ent:=⟨29,[.agg [.int .i64,.str,.sl,.int .i64,.sl,.sl]],[tyM],fun x=>span_children n x⟩
abbrev q29_L0_a:List (Nat×Ty):=[(3,tyM),(8,tyL),(9,tyI),(10,tyI)]
abbrev q29_L0_w:List Nat:=[4,5,10,11,12,13,14,15,16,17,18,19,20,21,22,23,24,25]
abbrev q29_L0_p:Path:=[0,1,0,1,1]
abbrev q29_L0_g (n:Nat)(x:TsDen (tys q29_L0_a)):M (Unit):=span_children_L0 n (x.1) (x.2.1) (x.2.2.1) (x.2.2.2)
abbrev q29_L0_l (n:Nat):LEnt:=⟨q29_L0_p,q29_L0_a,actL1 q29_L0_a [] q29_L0_w 0 (q29_L0_g n)⟩
def q29_dr (i:Nat):Option (List (Nat×List Nat)):=cond (Nat.beq i 5) (some [(0,[]),(1,[]),(3,[]),(4,[]),(7,[]),(8,[]),(2,[]),(5,[]),(6,[]),(9,[]),(10,[])]) (none)
abbrev q29_lt (n:Nat):List LEnt:=[q29_L0_l n]
theorem q29_L0_ok (n:Nat){W:Wr}(hW:subW W 27 q29_L0_w=true):LEntOK Tryz.prog (bodyOf Tryz.f29) W (q29_L0_l n) :=
 loop1_t (bodyOf Tryz.f29) q29_L0_p q29_L0_a [] 0 27 q29_L0_w [] (fun _=>[]) (fun _=>[]) (fun _=>[]) q29_dr q29_L0_g (fun _=>[]) (by kernel_rfl) (fun _=>by kernel_rfl) (fun n x=>by kernel_rfl) n (fun m hm=>⟨.nil,.nil,.nil,.nil,.nil⟩) hW
theorem span_children_ok (n:Nat):FnOK Tryz.prog (q29_E n) :=
 fn_t (q29_E n) Tryz.f29 (bodyOf Tryz.f29) [(0,.agg [.int .i64,.str,.sl,.int .i64,.sl,.sl])] [] [] [] (q29_lt n) [] q29_dr (by kernel_rfl) (by kernel_rfl) (by kernel_rfl) (by kernel_rfl) (by kernel_rfl) ⟨.nil,.nil,.nil,(.cons (q29_L0_ok n (by kernel_rfl)) .nil),.nil⟩ (fun x=>by kernel_rfl)
structure Cl_span_inKeys_1 where
 span_inKeys_1_L0:Int→Addr→Addr→Sl→Int→Int→M (Unit)
 span_inKeys_1_L1:Addr→Sl→Int→Int→M (Unit)
 span_inKeys_1:Int→Addr→Addr→Addr→M (Unit)
def span_inKeys_1_D27_B (G:Cl_span_inKeys_1)(n:Nat)(x:Value)(a0:Int):M (Unit) :=
 if isFn F_span_inKeys_1 x then
  M.bind (asFn [tyA,tyA,tyA] x) fun (c:Addr×Addr×Addr)=>G.span_inKeys_1 a0 (c.1) (c.2.1) (c.2.2)
 else M.fail
def span_inKeys_1_D42_B (G:Cl_span_inKeys_1)(n:Nat)(x:Value)(a0:Int):M (Unit) :=
 if isFn F_span_inKeys_1 x then
  M.bind (asFn [tyA,tyA,tyA] x) fun (c:Addr×Addr×Addr)=>G.span_inKeys_1 a0 (c.1) (c.2.1) (c.2.2)
 else M.fail
def span_inKeys_1_L0_B (G:Cl_span_inKeys_1)(n:Nat)(a0:Int)(a1:Addr)(a2:Addr)(a3:Sl)(a4:Int)(a5:Int):M (Unit) :=
 if decide (a5<a4) then
  M.bind (idxA a3 a5 1) fun x0 =>
  M.bind (ldL (li) x0) fun (x1:Int) =>
  M.bind (ldL .raw a2) fun (x2:Value) =>
  M.bind (span_inKeys_1_D27_B G n x2 x1) fun x3 =>
  G.span_inKeys_1_L0 a0 a1 a2 a3 a4 (IntKind.i64.wrap (a5+1))
 else
  M.pure ()
def span_inKeys_1_L1_B (G:Cl_span_inKeys_1)(n:Nat)(a0:Addr)(a1:Sl)(a2:Int)(a3:Int):M (Unit) :=
 if decide (a3<a2) then
  M.bind (idxA a1 a3 1) fun x0 =>
  M.bind (ldL (li) x0) fun (x1:Int) =>
  M.bind (ldL .raw a0) fun (x2:Value) =>
  M.bind (span_inKeys_1_D42_B G n x2 x1) fun x3 =>
  G.span_inKeys_1_L1 a0 a1 a2 (IntKind.i64.wrap (a3+1))
 else
  M.pure ()
def span_inKeys_1_B (G:Cl_span_inKeys_1)(n:Nat)(a0:Int)(a1:Addr)(a2:Addr)(a3:Addr):M (Unit) :=
 M.bind (ldL .sl a1) fun (x0:Sl) =>
 M.bind (idxA x0 a0 1) fun x1 =>
 M.bind (ldL .bool x1) fun (x2:Bool) =>
 if x2 then
  M.pure ()
 else
  M.bind (ldL .sl a1) fun (x3:Sl) =>
  M.bind (idxA x3 a0 1) fun x4 =>
  M.bind (stN x4 [Value.bool true]) fun x5 =>
  M.bind (ldL .sl (a2.plus 0)) fun (x6:Sl) =>
  M.bind (idxA x6 a0 5) fun x7 =>
  M.bind (ldL .sl (x7.plus 3)) fun (x8:Sl) =>
  M.bind (G.span_inKeys_1_L0 a0 a2 a3 x8 (↑x8.len:Int) 0) fun x9 =>
  M.bind (ldL .sl (a2.plus 0)) fun (x10:Sl) =>
  M.bind (idxA x10 a0 5) fun x11 =>
  M.bind (ldL .sl (x11.plus 4)) fun (x12:Sl) =>
  M.bind (G.span_inKeys_1_L1 a3 x12 (↑x12.len:Int) 0) fun x13 =>
  M.pure ()
def Cl_span_inKeys_1.at:Nat→Cl_span_inKeys_1
 | 0=>⟨fun _ _ _ _ _ _=>M.fail,fun _ _ _ _=>M.fail,fun _ _ _ _=>M.fail⟩
 | n+1=>⟨span_inKeys_1_L0_B (Cl_span_inKeys_1.at n) n,span_inKeys_1_L1_B (Cl_span_inKeys_1.at n) n,span_inKeys_1_B (Cl_span_inKeys_1.at n) n⟩
def span_inKeys_1_L0 (n:Nat)(a0:Int)(a1:Addr)(a2:Addr)(a3:Sl)(a4:Int)(a5:Int):M (Unit):=(Cl_span_inKeys_1.at n).span_inKeys_1_L0 a0 a1 a2 a3 a4 a5
theorem span_inKeys_1_L0_succ (n:Nat)(a0:Int)(a1:Addr)(a2:Addr)(a3:Sl)(a4:Int)(a5:Int):span_inKeys_1_L0 (n+1) a0 a1 a2 a3 a4 a5=span_inKeys_1_L0_B (Cl_span_inKeys_1.at n) n a0 a1 a2 a3 a4 a5:=rfl
def span_inKeys_1_L1 (n:Nat)(a0:Addr)(a1:Sl)(a2:Int)(a3:Int):M (Unit):=(Cl_span_inKeys_1.at n).span_inKeys_1_L1 a0 a1 a2 a3
theorem span_inKeys_1_L1_succ (n:Nat)(a0:Addr)(a1:Sl)(a2:Int)(a3:Int):span_inKeys_1_L1 (n+1) a0 a1 a2 a3=span_inKeys_1_L1_B (Cl_span_inKeys_1.at n) n a0 a1 a2 a3:=rfl
def span_inKeys_1 (n:Nat)(a0:Int)(a1:Addr)(a2:Addr)(a3:Addr):M (Unit):=(Cl_span_inKeys_1.at n).span_inKeys_1 a0 a1 a2 a3
theorem span_inKeys_1_succ (n:Nat)(a0:Int)(a1:Addr)(a2:Addr)(a3:Addr):span_inKeys_1 (n+1) a0 a1 a2 a3=span_inKeys_1_B (Cl_span_inKeys_1.at n) n a0 a1 a2 a3:=rfl
def span_inKeys_1_D27 (n:Nat)(x:Value)(a0:Int):M (Unit):=span_inKeys_1_D27_B (Cl_span_inKeys_1.at n) n x a0
def span_inKeys_1_D42 (n:Nat)(x:Value)(a0:Int):M (Unit):=span_inKeys_1_D42_B (Cl_span_inKeys_1.at n) n x a0
abbrev q53_E (n:Nat):Ent:=⟨53,[tyI,tyA,tyA,tyA],[],fun x=>span_inKeys_1 n (x.1) (x.2.1) (x.2.2.1) (x.2.2.2)⟩
abbrev q53_L0_a:List (Nat×Ty):=[(0,tyI),(2,tyA),(3,tyA),(21,tyL),(22,tyI),(23,tyI)]
abbrev q53_L0_w:List Nat:=[6,23,24,25,26,27,28,29,30]
abbrev q53_L0_p:Path:=[0,1,0,1,1]
abbrev q53_L0_g (n:Nat)(x:TsDen (tys q53_L0_a)):M (Unit):=span_inKeys_1_L0 n (x.1) (x.2.1) (x.2.2.1) (x.2.2.2.1) (x.2.2.2.2.1) (x.2.2.2.2.2)
abbrev q53_L0_l (n:Nat):LEnt:=⟨q53_L0_p,q53_L0_a,actL1 q53_L0_a [] q53_L0_w 0 (q53_L0_g n)⟩
abbrev q53_L1_a:List (Nat×Ty):=[(3,tyA),(36,tyL),(37,tyI),(38,tyI)]
abbrev q53_L1_w:List Nat:=[8,38,39,40,41,42,43,44,45]
abbrev q53_L1_p:Path:=[0,1,1,1,1]
abbrev q53_L1_g (n:Nat)(x:TsDen (tys q53_L1_a)):M (Unit):=span_inKeys_1_L1 n (x.1) (x.2.1) (x.2.2.1) (x.2.2.2)
abbrev q53_L1_l (n:Nat):LEnt:=⟨q53_L1_p,q53_L1_a,actL1 q53_L1_a [] q53_L1_w 2 (q53_L1_g n)⟩
abbrev q53_dt (n:Nat):List DEnt:=[⟨27,[tyI],[],fun x a=>span_inKeys_1_D27 n x (a)⟩,
 ⟨42,[tyI],[],fun x a=>span_inKeys_1_D42 n x (a)⟩]
abbrev q53_lt (n:Nat):List LEnt:=[q53_L0_l n,q53_L1_l n]
def P_span_inKeys_1 (n:Nat):Prop:=FnOK Tryz.prog (q53_E n)
theorem q53_L0_ok (n:Nat)(H:∀ m,m<n→P_span_inKeys_1 m){W:Wr}(hW:subW W 46 q53_L0_w=true):LEntOK Tryz.prog (bodyOf Tryz.f53) W (q53_L0_l n) :=
 loop1_t (bodyOf Tryz.f53) q53_L0_p q53_L0_a [] 0 46 q53_L0_w [] (fun _=>[]) q53_dt (fun _=>[]) dr0 q53_L0_g (fun _=>[]) (by kernel_rfl) (fun _=>by kernel_rfl) (fun n x=>by kernel_rfl) n (fun m hm=>⟨.nil,.nil,(.cons (dent_ok (l:=[⟨53,[tyA,tyA,tyA],fun a c=>span_inKeys_1 m (a) (c.1) (c.2.1) (c.2.2)⟩]) (.cons (fun a c=>callOK_cast (by kernel_rfl) ((H m hm) (a,c.1,c.2.1,c.2.2))) .nil) (fun x a=>by kernel_rfl)) (.cons (dent_ok (l:=[⟨53,[tyA,tyA,tyA],fun a c=>span_inKeys_1 m (a) (c.1) (c.2.1) (c.2.2)⟩]) (.cons (fun a c=>callOK_cast (by kernel_rfl) ((H m hm) (a,c.1,c.2.1,c.2.2))) .nil) (fun x a=>by kernel_rfl)) .nil)),.nil,.nil⟩) hW
theorem q53_L1_ok (n:Nat)(H:∀ m,m<n→P_span_inKeys_1 m){W:Wr}(hW:subW W 46 q53_L1_w=true):LEntOK Tryz.prog (bodyOf Tryz.f53) W (q53_L1_l n) :=
 loop1_t (bodyOf Tryz.f53) q53_L1_p q53_L1_a [] 2 46 q53_L1_w [] (fun _=>[]) q53_dt (fun _=>[]) dr0 q53_L1_g (fun _=>[]) (by kernel_rfl) (fun _=>by kernel_rfl) (fun n x=>by kernel_rfl) n (fun m hm=>⟨.nil,.nil,(.cons (dent_ok (l:=[⟨53,[tyA,tyA,tyA],fun a c=>span_inKeys_1 m (a) (c.1) (c.2.1) (c.2.2)⟩]) (.cons (fun a c=>callOK_cast (by kernel_rfl) ((H m hm) (a,c.1,c.2.1,c.2.2))) .nil) (fun x a=>by kernel_rfl)) (.cons (dent_ok (l:=[⟨53,[tyA,tyA,tyA],fun a c=>span_inKeys_1 m (a) (c.1) (c.2.1) (c.2.2)⟩]) (.cons (fun a c=>callOK_cast (by kernel_rfl) ((H m hm) (a,c.1,c.2.1,c.2.2))) .nil) (fun x a=>by kernel_rfl)) .nil)),.nil,.nil⟩) hW
theorem span_inKeys_1_ok_step (n:Nat)(H:∀ m,m<n+1→P_span_inKeys_1 m):FnOK Tryz.prog (q53_E (n+1)) :=
 fn_t (q53_E (n+1)) Tryz.f53 (bodyOf Tryz.f53) [(0,tyI),(1,tyA),(2,tyA),(3,tyA)] [] [] (q53_dt n) (q53_lt n) [] dr0 (by kernel_rfl) (by kernel_rfl) (by kernel_rfl) (by kernel_rfl) (by kernel_rfl) ⟨.nil,.nil,(.cons (dent_ok (l:=[⟨53,[tyA,tyA,tyA],fun a c=>span_inKeys_1 n (a) (c.1) (c.2.1) (c.2.2)⟩]) (.cons (fun a c=>callOK_cast (by kernel_rfl) ((H n (Nat.lt_succ_self n)) (a,c.1,c.2.1,c.2.2))) .nil) (fun x a=>by kernel_rfl)) (.cons (dent_ok (l:=[⟨53,[tyA,tyA,tyA],fun a c=>span_inKeys_1 n (a) (c.1) (c.2.1) (c.2.2)⟩]) (.cons (fun a c=>callOK_cast (by kernel_rfl) ((H n (Nat.lt_succ_self n)) (a,c.1,c.2.1,c.2.2))) .nil) (fun x a=>by kernel_rfl)) .nil)),(.cons (q53_L0_ok n (fun k hk=>H k (Nat.lt_succ_of_lt hk)) (by kernel_rfl)) (.cons (q53_L1_ok n (fun k hk=>H k (Nat.lt_succ_of_lt hk)) (by kernel_rfl)) .nil)),.nil⟩ (fun x=>by kernel_rfl)
theorem P_span_inKeys_1_all:∀ n m,m<n→P_span_inKeys_1 m:=by
 intro n
 induction n with
 | zero=>intro m hm;exact absurd hm (Nat.not_lt_zero m)
 | succ n ih =>
  intro m hm
  cases m with
  | zero=>exact fn_zero (fn:=Tryz.f53) (by kernel_rfl) (by kernel_rfl) (by kernel_rfl) (fun _=>rfl)
  | succ k=>exact span_inKeys_1_ok_step k fun m hm=>ih m (by omega)
theorem span_inKeys_1_ok (n:Nat):FnOK Tryz.prog (q53_E n):=(P_span_inKeys_1_all (n+1) n (Nat.lt_succ_self n))
def span_inKeys_D28 (n:Nat)(x:Value)(a0:Int):M (Unit) :=
 if isFn F_span_inKeys_1 x then
  M.bind (asFn [tyA,tyA,tyA] x) fun (c:Addr×Addr×Addr)=>span_inKeys_1 n a0 (c.1) (c.2.1) (c.2.2)
 else M.fail
def span_inKeys_L1_B (G:Addr→Addr→Sl→Int→Int→Sl→Int→Int→M (Unit))(n:Nat)(a0:Addr)(a1:Addr)(a2:Sl)(a3:Int)(a4:Int)(a5:Sl)(a6:Int)(a7:Int):M (Unit) :=
 if decide (a7<a6) then
  M.bind (idxA a5 a7 1) fun x0 =>
  M.bind (ldL (li) x0) fun (x1:Int) =>
  M.bind (ldL .raw a1) fun (x2:Value) =>
  M.bind (span_inKeys_D28 n x2 x1) fun x3 =>
  G a0 a1 a2 a3 a4 a5 a6 (IntKind.i64.wrap (a7+1))
 else
  M.pure ()
def span_inKeys_L1:Nat→Addr→Addr→Sl→Int→Int→Sl→Int→Int→M (Unit)
 | 0=>fun _ _ _ _ _ _ _ _=>M.fail
 | n+1=>span_inKeys_L1_B (span_inKeys_L1 n) n
theorem span_inKeys_L1_succ (n:Nat):span_inKeys_L1 (n+1)=span_inKeys_L1_B (span_inKeys_L1 n) n:=rfl
def span_inKeys_L0_B (G:Addr→Addr→Sl→Int→Int→M (Unit))(n:Nat)(a0:Addr)(a1:Addr)(a2:Sl)(a3:Int)(a4:Int):M (Unit) :=
 if decide (a4<a3) then
  M.bind (idxA a2 a4 5) fun x0 =>
  M.bind (ldLs [li,.str,.bool,.sl,.sl] x0) fun (x1:Int×ByteArray×Bool×Sl×Sl) =>
  M.bind (newB none T_api_Node [vi 0,Value.string (ofBytes []),Value.bool false,vsl0,vsl0]) fun x2 =>
  M.bind (stN (adr x2) [vi x1.1,Value.string x1.2.1,Value.bool x1.2.2.1,vsl x1.2.2.2.1,vsl x1.2.2.2.2]) fun x3 =>
  M.bind (ldL .sl ((adr x2).plus 3)) fun (x4:Sl) =>
  M.bind (span_inKeys_L1 n a0 a1 a2 a3 a4 x4 (↑x4.len:Int) 0) fun x5 =>
  G a0 a1 a2 a3 (IntKind.i64.wrap (a4+1))
 else
  M.pure ()
def span_inKeys_L0:Nat→Addr→Addr→Sl→Int→Int→M (Unit)
 | 0=>fun _ _ _ _ _=>M.fail
 | n+1=>span_inKeys_L0_B (span_inKeys_L0 n) n
theorem span_inKeys_L0_succ (n:Nat):span_inKeys_L0 (n+1)=span_inKeys_L0_B (span_inKeys_L0 n) n:=rfl
def span_inKeys (n:Nat)(a0:Sl×Int):M (Sl) :=
 M.bind (newB none T_api_Graph [vsl a0.1,vi a0.2]) fun x0 =>
 M.bind (ldL .sl ((adr x0).plus 0)) fun (x1:Sl) =>
 M.bind (mkS none T_bool [Value.bool false] (↑x1.len:Int) (↑x1.len:Int)) fun x2 =>
 M.bind (newB none T_sl_bool [vsl0]) fun x3 =>
 M.bind (stN (adr x3) [vsl x2]) fun x4 =>
 M.bind (newB none T_fn_i64__ [Value.nilFunc]) fun x5 =>
 M.bind (stN (adr x5) [Value.func (Fn.func F_span_inKeys_1) #[] #[Value.pointer (some (adr x3)),Value.pointer (some (adr x0)),Value.pointer (some (adr x5))]]) fun x6 =>
 M.bind (ldL .sl ((adr x0).plus 0)) fun (x7:Sl) =>
 M.bind (span_inKeys_L0 n (adr x3) (adr x5) x7 (↑x7.len:Int) 0) fun x8 =>
 M.bind (ldL .sl (adr x3)) fun (x9:Sl) =>
 M.pure x9
abbrev q42_E (n:Nat):Ent:=⟨42,[.agg [.sl,.int .i64]],[tyL],fun x=>span_inKeys n x⟩
abbrev q42_L0_a:List (Nat×Ty):=[(3,tyA),(4,tyA),(15,tyL),(16,tyI),(17,tyI)]
abbrev q42_L0_w:List Nat:=[6,8,17,18,19,20,21,22,23,24,25,26,27,28,29,30,31,32]
abbrev q42_L0_p:Path:=[0,1,0,1,1,1,1]
abbrev q42_L0_g (n:Nat)(x:TsDen (tys q42_L0_a)):M (Unit):=span_inKeys_L0 n (x.1) (x.2.1) (x.2.2.1) (x.2.2.2.1) (x.2.2.2.2)
abbrev q42_L0_l (n:Nat):LEnt:=⟨q42_L0_p,q42_L0_a,actL1 q42_L0_a [] q42_L0_w 0 (q42_L0_g n)⟩
abbrev q42_L1_a:List (Nat×Ty):=[(3,tyA),(4,tyA),(15,tyL),(16,tyI),(17,tyI),(22,tyL),(23,tyI),(24,tyI)]
abbrev q42_L1_w:List Nat:=[8,24,25,26,27,28,29,30,31]
abbrev q42_L1_p:Path:=[0,1,1,0,0,1,1,0,0,1,0,1,1,1,1]
abbrev q42_L1_g (n:Nat)(x:TsDen (tys q42_L1_a)):M (Unit):=span_inKeys_L1 n (x.1) (x.2.1) (x.2.2.1) (x.2.2.2.1) (x.2.2.2.2.1) (x.2.2.2.2.2.1) (x.2.2.2.2.2.2.1) (x.2.2.2.2.2.2.2)
abbrev q42_L1_l (n:Nat):LEnt:=⟨q42_L1_p,q42_L1_a,actL1 q42_L1_a [] q42_L1_w 2 (q42_L1_g n)⟩
abbrev q42_dt (n:Nat):List DEnt:=[⟨28,[tyI],[],fun x a=>span_inKeys_D28 n x (a)⟩]
abbrev q42_L0_lt (n:Nat):List LEnt:=[q42_L1_l n]
abbrev q42_lt (n:Nat):List LEnt:=[q42_L0_l n]
theorem q42_L1_ok (n:Nat){W:Wr}(hW:subW W 34 q42_L1_w=true):LEntOK Tryz.prog (bodyOf Tryz.f42) W (q42_L1_l n) :=
 loop1_t (bodyOf Tryz.f42) q42_L1_p q42_L1_a [] 2 34 q42_L1_w [] (fun _=>[]) q42_dt (fun _=>[]) dr0 q42_L1_g (fun _=>[]) (by kernel_rfl) (fun _=>by kernel_rfl) (fun n x=>by kernel_rfl) n (fun m hm=>⟨.nil,.nil,(.cons (dent_ok (l:=[⟨53,[tyA,tyA,tyA],fun a c=>span_inKeys_1 m (a) (c.1) (c.2.1) (c.2.2)⟩]) (.cons (fun a c=>callOK_cast (by kernel_rfl) ((span_inKeys_1_ok m) (a,c.1,c.2.1,c.2.2))) .nil) (fun x a=>by kernel_rfl)) .nil),.nil,.nil⟩) hW
theorem q42_L0_ok (n:Nat){W:Wr}(hW:subW W 34 q42_L0_w=true):LEntOK Tryz.prog (bodyOf Tryz.f42) W (q42_L0_l n) :=
 loop1_t (bodyOf Tryz.f42) q42_L0_p q42_L0_a [] 0 34 q42_L0_w [] (fun _=>[]) q42_dt q42_L0_lt dr0 q42_L0_g (fun _=>[]) (by kernel_rfl) (fun _=>by kernel_rfl) (fun n x=>by kernel_rfl) n (fun m hm=>⟨.nil,.nil,(.cons (dent_ok (l:=[⟨53,[tyA,tyA,tyA],fun a c=>span_inKeys_1 m (a) (c.1) (c.2.1) (c.2.2)⟩]) (.cons (fun a c=>callOK_cast (by kernel_rfl) ((span_inKeys_1_ok m) (a,c.1,c.2.1,c.2.2))) .nil) (fun x a=>by kernel_rfl)) .nil),(.cons (q42_L1_ok m (by kernel_rfl)) .nil),.nil⟩) hW
theorem span_inKeys_ok (n:Nat):FnOK Tryz.prog (q42_E n) :=
 fn_t (q42_E n) Tryz.f42 (bodyOf Tryz.f42) [(0,.agg [.sl,.int .i64])] [] [] (q42_dt n) (q42_lt n) [] dr0 (by kernel_rfl) (by kernel_rfl) (by kernel_rfl) (by kernel_rfl) (by kernel_rfl) ⟨.nil,.nil,(.cons (dent_ok (l:=[⟨53,[tyA,tyA,tyA],fun a c=>span_inKeys_1 n (a) (c.1) (c.2.1) (c.2.2)⟩]) (.cons (fun a c=>callOK_cast (by kernel_rfl) ((span_inKeys_1_ok n) (a,c.1,c.2.1,c.2.2))) .nil) (fun x a=>by kernel_rfl)) .nil),(.cons (q42_L0_ok n (by kernel_rfl)) .nil),.nil⟩ (fun x=>by kernel_rfl)
def span_occurrences_L2_B (G:Addr→Addr→Sl→Option Nat→Int→Sl→Sl→Int→Int→Sl→Int→Int→M ((Unit) ⊕ (Bool)))(n:Nat)(a0:Addr)(a1:Addr)(a2:Sl)(a3:Option Nat)(a4:Int)(a5:Sl)(a6:Sl)(a7:Int)(a8:Int)(a9:Sl)(a10:Int)(a11:Int):M ((Unit) ⊕ (Bool)) :=
 if decide (a11<a10) then
  M.bind (idxA a9 a11 1) fun x0 =>
  M.bind (ldL (li) x0) fun (x1:Int) =>
  M.bind (ldL .sl (a0.plus 4)) fun (x2:Sl) =>
  M.bind (idxA x2 x1 9) fun x3 =>
  M.bind (ldL (li) (x3.plus 2)) fun (x4:Int) =>
  M.bind (idxA a5 x4 1) fun x5 =>
  M.bind (ldL .bool x5) fun (x6:Bool) =>
  if x6 then
   M.pure (Sum.inr false)
  else
   M.bind (ldL .sl (a0.plus 4)) fun (x7:Sl) =>
   M.bind (idxA x7 x1 9) fun x8 =>
   M.bind (ldL (li) (x8.plus 2)) fun (x9:Int) =>
   M.bind (idxA a5 x9 1) fun x10 =>
   M.bind (stN x10 [Value.bool true]) fun x11 =>
   G a0 a1 a2 a3 a4 a5 a6 a7 a8 a9 a10 (IntKind.i64.wrap (a11+1))
 else
  M.pure (Sum.inl ())
def span_occurrences_L2:Nat→Addr→Addr→Sl→Option Nat→Int→Sl→Sl→Int→Int→Sl→Int→Int→M ((Unit) ⊕ (Bool))
 | 0=>fun _ _ _ _ _ _ _ _ _ _ _ _=>M.fail
 | n+1=>span_occurrences_L2_B (span_occurrences_L2 n) n
theorem span_occurrences_L2_succ (n:Nat):span_occurrences_L2 (n+1)=span_occurrences_L2_B (span_occurrences_L2 n) n:=rfl
def span_occurrences_L3_B (G:Sl→Sl→Int→Int→M ((Unit) ⊕ (Bool)))(n:Nat)(a0:Sl)(a1:Sl)(a2:Int)(a3:Int):M ((Unit) ⊕ (Bool)) :=
 if decide (a3<a2) then
  M.bind (idxA a1 a3 1) fun x0 =>
  M.bind (ldL .bool x0) fun (x1:Bool) =>
  if !x1 then
   M.bind (idxA a0 a3 1) fun x2 =>
   M.bind (ldL (li) x2) fun (x3:Int) =>
   if !decide (x3=1) then
    M.pure (Sum.inr false)
   else
    if x1 then
     M.bind (idxA a0 a3 1) fun x4 =>
     M.bind (ldL (li) x4) fun (x5:Int) =>
     if !decide (x5=0) then
      M.pure (Sum.inr false)
     else
      G a0 a1 a2 (IntKind.i64.wrap (a3+1))
    else
     G a0 a1 a2 (IntKind.i64.wrap (a3+1))
  else
   if x1 then
    M.bind (idxA a0 a3 1) fun x2 =>
    M.bind (ldL (li) x2) fun (x3:Int) =>
    if !decide (x3=0) then
     M.pure (Sum.inr false)
    else
     G a0 a1 a2 (IntKind.i64.wrap (a3+1))
   else
    G a0 a1 a2 (IntKind.i64.wrap (a3+1))
 else
  M.pure (Sum.inl ())
def span_occurrences_L3:Nat→Sl→Sl→Int→Int→M ((Unit) ⊕ (Bool))
 | 0=>fun _ _ _ _=>M.fail
 | n+1=>span_occurrences_L3_B (span_occurrences_L3 n) n
theorem span_occurrences_L3_succ (n:Nat):span_occurrences_L3 (n+1)=span_occurrences_L3_B (span_occurrences_L3 n) n:=rfl
def span_occurrences_L1_B (G:Addr→Addr→Sl→Option Nat→Sl→Int→Int→M ((Unit) ⊕ (Bool)))(n:Nat)(a0:Addr)(a1:Addr)(a2:Sl)(a3:Option Nat)(a4:Sl)(a5:Int)(a6:Int):M ((Unit) ⊕ (Bool)) :=
 if decide (a6<a5) then
  M.bind (idxA a4 a6 9) fun x0 =>
  M.bind (ldLs [li,li,li,li,li,li,li,.bool,.bool] x0) fun (x1:Int×Int×Int×Int×Int×Int×Int×Bool×Bool) =>
  M.bind (newB none T_api_Span [vi 0,vi 0,vi 0,vi 0,vi 0,vi 0,vi 0,Value.bool false,Value.bool false]) fun x2 =>
  M.bind (stN (adr x2) [vi x1.1,vi x1.2.1,vi x1.2.2.1,vi x1.2.2.2.1,vi x1.2.2.2.2.1,vi x1.2.2.2.2.2.1,vi x1.2.2.2.2.2.2.1,Value.bool x1.2.2.2.2.2.2.2.1,Value.bool x1.2.2.2.2.2.2.2.2]) fun x3 =>
  M.bind (ldL .bool ((adr x2).plus 7)) fun (x4:Bool) =>
  if x4 then
   G a0 a1 a2 a3 a4 a5 (IntKind.i64.wrap (a6+1))
  else
   M.bind (ldL (li) ((adr x2).plus 0)) fun (x5:Int) =>
   M.bind (idxA a2 x5 1) fun x6 =>
   M.bind (ldL (li) x6) fun (x7:Int) =>
   M.bind (idxA a2 x5 1) fun x8 =>
   M.bind (stN x8 [vi (IntKind.i64.wrap (x7+1))]) fun x9 =>
   M.bind (ldL .sl (a1.plus 0)) fun (x10:Sl) =>
   M.bind (ldL (li) ((adr x2).plus 0)) fun (x11:Int) =>
   M.bind (idxA x10 x11 5) fun x12 =>
   M.bind (ldL .sl (x12.plus 4)) fun (x13:Sl) =>
   M.bind (mkS none T_bool [Value.bool false] (↑x13.len:Int) (↑x13.len:Int)) fun x14 =>
   M.bind (mpGet T_i64 (Ty.one .sl) sl0 a3 (vi a6)) fun (x15:Bool×Sl) =>
   M.bind (span_occurrences_L2 n a0 a1 a2 a3 a6 x14 a4 a5 a6 x15.2 (↑x15.2.len:Int) 0) (sumElim (fun x16 =>
    M.bind (mpGet T_i64 (Ty.one .sl) sl0 a3 (vi a6)) fun (x17:Bool×Sl) =>
    if !decide ((↑x17.2.len:Int)=(↑x14.len:Int)) then
     M.pure (Sum.inr false)
    else
     G a0 a1 a2 a3 a4 a5 (IntKind.i64.wrap (a6+1)))
   (fun x16 =>
    M.pure (Sum.inr x16)))
 else
  M.pure (Sum.inl ())
def span_occurrences_L1:Nat→Addr→Addr→Sl→Option Nat→Sl→Int→Int→M ((Unit) ⊕ (Bool))
 | 0=>fun _ _ _ _ _ _ _=>M.fail
 | n+1=>span_occurrences_L1_B (span_occurrences_L1 n) n
theorem span_occurrences_L1_succ (n:Nat):span_occurrences_L1 (n+1)=span_occurrences_L1_B (span_occurrences_L1 n) n:=rfl
def span_occurrences_L0_J0_B (G:Addr→Addr→Sl→Int→Int→M ((Unit) ⊕ (Bool)))(n:Nat)(a0:Addr)(a1:Addr)(a2:Addr)(a3:Sl)(a4:Int)(a5:Int):M ((Unit) ⊕ (Bool)) :=
 M.bind (ldL .sl (a1.plus 0)) fun (x0:Sl) =>
 M.bind (ldL .sl (a0.plus 4)) fun (x1:Sl) =>
 M.bind (ldL (li) (a2.plus 1)) fun (x2:Int) =>
 M.bind (idxA x1 x2 9) fun x3 =>
 M.bind (ldL (li) (x3.plus 0)) fun (x4:Int) =>
 M.bind (idxA x0 x4 5) fun x5 =>
 M.bind (ldL .sl (x5.plus 4)) fun (x6:Sl) =>
 M.bind (ldL (li) (a2.plus 2)) fun (x7:Int) =>
 if decide (x7<0) then
  M.pure (Sum.inr false)
 else
  M.bind (ldL (li) (a2.plus 2)) fun (x8:Int) =>
  if decide ((↑x6.len:Int)≤x8) then
   M.pure (Sum.inr false)
  else
   M.bind (ldL (li) (a2.plus 0)) fun (x9:Int) =>
   M.bind (ldL (li) (a2.plus 2)) fun (x10:Int) =>
   M.bind (idxA x6 x10 1) fun x11 =>
   M.bind (ldL (li) x11) fun (x12:Int) =>
   if !decide (x9=x12) then
    M.pure (Sum.inr false)
   else
    G a0 a1 a3 a4 (IntKind.i64.wrap (a5+1))
def span_occurrences_L0_B (G:Addr→Addr→Sl→Int→Int→M ((Unit) ⊕ (Bool)))(n:Nat)(a0:Addr)(a1:Addr)(a2:Sl)(a3:Int)(a4:Int):M ((Unit) ⊕ (Bool)) :=
 if decide (a4<a3) then
  M.bind (idxA a2 a4 9) fun x0 =>
  M.bind (ldLs [li,li,li,li,li,li,li,.bool,.bool] x0) fun (x1:Int×Int×Int×Int×Int×Int×Int×Bool×Bool) =>
  M.bind (newB none T_api_Span [vi 0,vi 0,vi 0,vi 0,vi 0,vi 0,vi 0,Value.bool false,Value.bool false]) fun x2 =>
  M.bind (stN (adr x2) [vi x1.1,vi x1.2.1,vi x1.2.2.1,vi x1.2.2.2.1,vi x1.2.2.2.2.1,vi x1.2.2.2.2.2.1,vi x1.2.2.2.2.2.2.1,Value.bool x1.2.2.2.2.2.2.2.1,Value.bool x1.2.2.2.2.2.2.2.2]) fun x3 =>
  M.bind (ldL (li) ((adr x2).plus 1)) fun (x4:Int) =>
  if decide (x4<0) then
   M.pure (Sum.inr false)
  else
   M.bind (ldL (li) ((adr x2).plus 1)) fun (x5:Int) =>
   if decide (a4<x5) then
    M.pure (Sum.inr false)
   else
    M.bind (ldL .sl (a0.plus 4)) fun (x6:Sl) =>
    M.bind (ldL (li) ((adr x2).plus 1)) fun (x7:Int) =>
    M.bind (idxA x6 x7 9) fun x8 =>
    M.bind (ldL .bool (x8.plus 7)) fun (x9:Bool) =>
    if x9 then
     M.pure (Sum.inr false)
    else
     span_occurrences_L0_J0_B G n a0 a1 (adr x2) a2 a3 a4
 else
  M.pure (Sum.inl ())
def span_occurrences_L0:Nat→Addr→Addr→Sl→Int→Int→M ((Unit) ⊕ (Bool))
 | 0=>fun _ _ _ _ _=>M.fail
 | n+1=>span_occurrences_L0_B (span_occurrences_L0 n) n
theorem span_occurrences_L0_succ (n:Nat):span_occurrences_L0 (n+1)=span_occurrences_L0_B (span_occurrences_L0 n) n:=rfl
def span_occurrences_L0_J0 (n:Nat)(a0:Addr)(a1:Addr)(a2:Addr)(a3:Sl)(a4:Int)(a5:Int):M ((Unit) ⊕ (Bool)):=span_occurrences_L0_J0_B (span_occurrences_L0 n) n a0 a1 a2 a3 a4 a5
def span_occurrences_J1 (n:Nat)(a0:Addr)(a1:Addr):M (Bool) :=
 M.bind (ldL .sl (a0.plus 4)) fun (x0:Sl) =>
 M.bind (sliceL x0 1 (↑x0.len:Int) T_api_Span 9) fun x1 =>
 M.bind (span_occurrences_L0 n a0 a1 x1 (↑x1.len:Int) 0) (sumElim (fun x2 =>
  M.bind (ldL .sl (a1.plus 0)) fun (x3:Sl) =>
  M.bind (mkS none T_i64 [vi 0] (↑x3.len:Int) (↑x3.len:Int)) fun x4 =>
  M.bind (ldLs [li,.str,.sl,li,.sl,.sl] a0) fun (x5:Int×ByteArray×Sl×Int×Sl×Sl) =>
  M.bind (span_children n (x5.1,x5.2.1,x5.2.2.1,x5.2.2.2.1,x5.2.2.2.2.1,x5.2.2.2.2.2)) fun x6 =>
  M.bind (ldL .sl (a0.plus 4)) fun (x7:Sl) =>
  M.bind (span_occurrences_L1 n a0 a1 x4 x6 x7 (↑x7.len:Int) 0) (sumElim (fun x8 =>
   M.bind (ldLs [.sl,li] a1) fun (x9:Sl×Int) =>
   M.bind (span_inKeys n (x9.1,x9.2)) fun x10 =>
   M.bind (span_occurrences_L3 n x4 x10 (↑x10.len:Int) 0) (sumElim (fun x11 =>
    M.pure true)
   (fun x11 =>
    M.pure x11)))
  (fun x8 =>
   M.pure x8)))
 (fun x2 =>
  M.pure x2))
def span_occurrences_J0 (n:Nat)(a0:Addr)(a1:Addr):M (Bool) :=
 M.bind (ldL .sl (a0.plus 4)) fun (x0:Sl) =>
 M.bind (idxA x0 0 9) fun x1 =>
 M.bind (ldLs [li,li,li,li,li,li,li,.bool,.bool] x1) fun (x2:Int×Int×Int×Int×Int×Int×Int×Bool×Bool) =>
 M.bind (newB none T_api_Span [vi 0,vi 0,vi 0,vi 0,vi 0,vi 0,vi 0,Value.bool false,Value.bool false]) fun x3 =>
 M.bind (stN (adr x3) [vi x2.1,vi x2.2.1,vi x2.2.2.1,vi x2.2.2.2.1,vi x2.2.2.2.2.1,vi x2.2.2.2.2.2.1,vi x2.2.2.2.2.2.2.1,Value.bool x2.2.2.2.2.2.2.2.1,Value.bool x2.2.2.2.2.2.2.2.2]) fun x4 =>
 M.bind (ldL (li) ((adr x3).plus 0)) fun (x5:Int) =>
 M.bind (ldL (li) (a1.plus 1)) fun (x6:Int) =>
 if !decide (x5=x6) then
  M.pure false
 else
  M.bind (ldL (li) ((adr x3).plus 1)) fun (x7:Int) =>
  if !decide (x7=-1) then
   M.pure false
  else
   M.bind (ldL (li) ((adr x3).plus 2)) fun (x8:Int) =>
   if !decide (x8=0) then
    M.pure false
   else
    M.bind (ldL .bool ((adr x3).plus 7)) fun (x9:Bool) =>
    if x9 then
     M.pure false
    else
     span_occurrences_J1 n a0 a1
def span_occurrences (n:Nat)(a0:Int×ByteArray×Sl×Int×Sl×Sl):M (Bool) :=
 M.bind (newB none T_api_Doc [vi a0.1,Value.string a0.2.1,vsl a0.2.2.1,vi a0.2.2.2.1,vsl a0.2.2.2.2.1,vsl a0.2.2.2.2.2]) fun x0 =>
 M.bind (ldLs [.sl,li] ((adr x0).plus 2)) fun (x1:Sl×Int) =>
 M.bind (newB none T_api_Graph [vsl0,vi 0]) fun x2 =>
 M.bind (stN (adr x2) [vsl x1.1,vi x1.2]) fun x3 =>
 M.bind (ldLs [.sl,li] (adr x2)) fun (x4:Sl×Int) =>
 M.bind (graph_Check n (x4.1,x4.2)) fun x5 =>
 if !decide (x5=0) then
  M.pure false
 else
  M.bind (ldL .sl ((adr x0).plus 4)) fun (x6:Sl) =>
  if decide ((↑x6.len:Int)=0) then
   M.pure false
  else
   span_occurrences_J0 n (adr x0) (adr x2)
abbrev q23_E (n:Nat):Ent:=⟨23,[.agg [.int .i64,.str,.sl,.int .i64,.sl,.sl]],[tyB],fun x=>span_occurrences n x⟩
abbrev q23_L0_a:List (Nat×Ty):=[(1,tyA),(3,tyA),(53,tyL),(54,tyI),(55,tyI)]
abbrev q23_L0_w:List Nat:=[2,5,6,7,55,56,57,58,59,60,61,62,63,64,65,66,67,68,69,70,71,72,73,74,75,76,77,78,79,80,81,82,83,84,85,86,87,88,89,90,91,92,93,94,95,96,97,98,99,100,101,102,103,104,105,106,107,108,109,110]
abbrev q23_L0_p:Path:=[0,1,0,1,1,1,1,1]
abbrev q23_L0_g (n:Nat)(x:TsDen (tys q23_L0_a)):M ((Unit) ⊕ (Bool)):=span_occurrences_L0 n (x.1) (x.2.1) (x.2.2.1) (x.2.2.2.1) (x.2.2.2.2)
abbrev q23_L0_l (n:Nat):LEnt:=⟨q23_L0_p,q23_L0_a,actL2 q23_L0_a [] [(2,tyB)] q23_L0_w 0 .ret (q23_L0_g n)⟩
abbrev q23_L1_a:List (Nat×Ty):=[(1,tyA),(3,tyA),(8,tyL),(9,tyM),(118,tyL),(119,tyI),(120,tyI)]
abbrev q23_L1_w:List Nat:=[2,10,11,12,14,120,121,122,123,124,125,126,127,128,129,130,131,132,133,134,135,136,137,138,139,140,141,142,143,144,145,146,147,148,149,150,151,152,153,154,155,156,157,158,159,160,161,162,163,164,165,166,167,168,169,170,171,172,173,174,175,176]
abbrev q23_L1_p:Path:=[0,1,0,1,1,1,1,1,1,1,1]
abbrev q23_L1_g (n:Nat)(x:TsDen (tys q23_L1_a)):M ((Unit) ⊕ (Bool)):=span_occurrences_L1 n (x.1) (x.2.1) (x.2.2.1) (x.2.2.2.1) (x.2.2.2.2.1) (x.2.2.2.2.2.1) (x.2.2.2.2.2.2)
abbrev q23_L1_l (n:Nat):LEnt:=⟨q23_L1_p,q23_L1_a,actL2 q23_L1_a [] [(2,tyB)] q23_L1_w 2 .ret (q23_L1_g n)⟩
abbrev q23_L2_a:List (Nat×Ty):=[(1,tyA),(3,tyA),(8,tyL),(9,tyM),(10,tyI),(12,tyL),(118,tyL),(119,tyI),(120,tyI),(145,tyL),(146,tyI),(147,tyI)]
abbrev q23_L2_w:List Nat:=[2,14,147,148,149,150,151,152,153,154,155,156,157,158,159,160,161,162,163,164,165,166,167,168]
abbrev q23_L2_p:Path:=[0,1,0,1,1,1,1,0,0,1,1,0,0,1,0,1,1,1,1,1,1,1,1]
abbrev q23_L2_g (n:Nat)(x:TsDen (tys q23_L2_a)):M ((Unit) ⊕ (Bool)):=span_occurrences_L2 n (x.1) (x.2.1) (x.2.2.1) (x.2.2.2.1) (x.2.2.2.2.1) (x.2.2.2.2.2.1) (x.2.2.2.2.2.2.1) (x.2.2.2.2.2.2.2.1) (x.2.2.2.2.2.2.2.2.1) (x.2.2.2.2.2.2.2.2.2.1) (x.2.2.2.2.2.2.2.2.2.2.1) (x.2.2.2.2.2.2.2.2.2.2.2)
abbrev q23_L2_l (n:Nat):LEnt:=⟨q23_L2_p,q23_L2_a,actL2 q23_L2_a [] [(2,tyB)] q23_L2_w 4 .ret (q23_L2_g n)⟩
abbrev q23_L3_a:List (Nat×Ty):=[(8,tyL),(178,tyL),(179,tyI),(180,tyI)]
abbrev q23_L3_w:List Nat:=[2,15,16,180,181,182,183,184,185,186,187,188,189,190,191,192,193,194,195,196,197,198,199,200,201,202,203,204]
abbrev q23_L3_p:Path:=[0,1,0,1,1,1,1,1,1,1,1,1]
abbrev q23_L3_g (n:Nat)(x:TsDen (tys q23_L3_a)):M ((Unit) ⊕ (Bool)):=span_occurrences_L3 n (x.1) (x.2.1) (x.2.2.1) (x.2.2.2)
abbrev q23_L3_l (n:Nat):LEnt:=⟨q23_L3_p,q23_L3_a,actL2 q23_L3_a [] [(2,tyB)] q23_L3_w 6 .ret (q23_L3_g n)⟩
abbrev q23_ct (n:Nat):List Ent:=[q13_E n,q29_E n,q42_E n]
def q23_dr (i:Nat):Option (List (Nat×List Nat)):=cond (Nat.beq i 12) (some [(0,[]),(2,[]),(4,[]),(1,[]),(3,[]),(5,[]),(6,[]),(7,[]),(8,[]),(9,[]),(10,[]),(11,[]),(12,[])]) (cond (Nat.beq i 13) (some [(0,[]),(1,[]),(2,[]),(3,[]),(4,[]),(6,[]),(7,[]),(5,[]),(8,[]),(9,[]),(10,[]),(11,[]),(13,[]),(14,[]),(12,[]),(15,[]),(16,[]),(17,[]),(18,[]),(19,[])]) (none))
abbrev q23_L1_lt (n:Nat):List LEnt:=[q23_L2_l n]
abbrev q23_L0_jt1 (n:Nat):List (JEnt ((Unit) ⊕ (Bool))):=[]
abbrev q23_L0_jt0 (n:Nat):List (JEnt ((Unit) ⊕ (Bool))):=⟨[0,1,1,0,0,1,1,0,0,1,0,1,1,1,1,1],[.code [1,1,1,0,0,1,1,0,0,1,0,1,1,1,1,1],.blk 1,.code [1,1,1,0,0,1,0,1,1,1,1,1]],[(1,tyA),(3,tyA),(6,tyA),(53,tyL),(54,tyI),(55,tyI)],fun x=>span_occurrences_L0_J0 n (x.1) (x.2.1) (x.2.2.1) (x.2.2.2.1) (x.2.2.2.2.1) (x.2.2.2.2.2)⟩::q23_L0_jt1 n
abbrev q23_lt (n:Nat):List LEnt:=[q23_L0_l n,q23_L1_l n,q23_L3_l n]
abbrev q23_jt2 (n:Nat):List (JEnt (Bool)):=[]
abbrev q23_jt1 (n:Nat):List (JEnt (Bool)):=⟨[0,0,1,1,1,1,1],[.code [1,0,1,1,1,1,1],.code [1,1,1,1,1,1]],[(1,tyA),(3,tyA)],fun x=>span_occurrences_J1 n (x.1) (x.2)⟩::q23_jt2 n
abbrev q23_jt0 (n:Nat):List (JEnt (Bool)):=⟨[0,1,1,1],[.code [1,1,1,1]],[(1,tyA),(3,tyA)],fun x=>span_occurrences_J0 n (x.1) (x.2)⟩::q23_jt1 n
theorem q23_L2_ok (n:Nat){W:Wr}(hW:subW W 205 q23_L2_w=true):LEntOK Tryz.prog (bodyOf Tryz.f23) W (q23_L2_l n) :=
 loop2_t (bodyOf Tryz.f23) q23_L2_p q23_L2_a [] [(2,tyB)] 4 .ret 205 q23_L2_w [] q23_ct (fun _=>[]) (fun _=>[]) q23_dr q23_L2_g (fun _=>[]) (by kernel_rfl) (fun _=>by kernel_rfl) (fun n x=>by kernel_rfl) n (fun m hm=>⟨.nil,(.cons (graph_Check_ok m) (.cons (span_children_ok m) (.cons (span_inKeys_ok m) .nil))),.nil,.nil,.nil⟩) hW
theorem q23_L3_ok (n:Nat){W:Wr}(hW:subW W 205 q23_L3_w=true):LEntOK Tryz.prog (bodyOf Tryz.f23) W (q23_L3_l n) :=
 loop2_t (bodyOf Tryz.f23) q23_L3_p q23_L3_a [] [(2,tyB)] 6 .ret 205 q23_L3_w [] q23_ct (fun _=>[]) (fun _=>[]) q23_dr q23_L3_g (fun _=>[]) (by kernel_rfl) (fun _=>by kernel_rfl) (fun n x=>by kernel_rfl) n (fun m hm=>⟨.nil,(.cons (graph_Check_ok m) (.cons (span_children_ok m) (.cons (span_inKeys_ok m) .nil))),.nil,.nil,.nil⟩) hW
theorem q23_L1_ok (n:Nat){W:Wr}(hW:subW W 205 q23_L1_w=true):LEntOK Tryz.prog (bodyOf Tryz.f23) W (q23_L1_l n) :=
 loop2_t (bodyOf Tryz.f23) q23_L1_p q23_L1_a [] [(2,tyB)] 2 .ret 205 q23_L1_w [] q23_ct (fun _=>[]) q23_L1_lt q23_dr q23_L1_g (fun _=>[]) (by kernel_rfl) (fun _=>by kernel_rfl) (fun n x=>by kernel_rfl) n (fun m hm=>⟨.nil,(.cons (graph_Check_ok m) (.cons (span_children_ok m) (.cons (span_inKeys_ok m) .nil))),.nil,(.cons (q23_L2_ok m (by kernel_rfl)) .nil),.nil⟩) hW
theorem q23_L0_ok (n:Nat){W:Wr}(hW:subW W 205 q23_L0_w=true):LEntOK Tryz.prog (bodyOf Tryz.f23) W (q23_L0_l n) :=
 loop2_t (bodyOf Tryz.f23) q23_L0_p q23_L0_a [] [(2,tyB)] 0 .ret 205 q23_L0_w [] q23_ct (fun _=>[]) (fun _=>[]) q23_dr q23_L0_g q23_L0_jt0 (by kernel_rfl) (fun _=>by kernel_rfl) (fun n x=>by kernel_rfl) n (fun m hm=>⟨.nil,(.cons (graph_Check_ok m) (.cons (span_children_ok m) (.cons (span_inKeys_ok m) .nil))),.nil,.nil,(.cons (fun x=>by kernel_rfl) .nil)⟩) hW
theorem span_occurrences_ok (n:Nat):FnOK Tryz.prog (q23_E n) :=
 fn_t (q23_E n) Tryz.f23 (bodyOf Tryz.f23) [(0,.agg [.int .i64,.str,.sl,.int .i64,.sl,.sl])] [] (q23_ct n) [] (q23_lt n) (q23_jt0 n) q23_dr (by kernel_rfl) (by kernel_rfl) (by kernel_rfl) (by kernel_rfl) (by kernel_rfl) ⟨.nil,(.cons (graph_Check_ok n) (.cons (span_children_ok n) (.cons (span_inKeys_ok n) .nil))),.nil,(.cons (q23_L0_ok n (by kernel_rfl)) (.cons (q23_L1_ok n (by kernel_rfl)) (.cons (q23_L3_ok n (by kernel_rfl)) .nil))),(.cons (fun x=>by kernel_rfl) (.cons (fun x=>by kernel_rfl) .nil))⟩ (fun x=>by kernel_rfl)
def span_Check_3 (n:Nat)(a0:Addr):M (Bool×Int) :=
 M.bind (ldLs [li,.str,.sl,li,.sl,.sl] a0) fun (x0:Int×ByteArray×Sl×Int×Sl×Sl) =>
 M.bind (span_occurrences n (x0.1,x0.2.1,x0.2.2.1,x0.2.2.2.1,x0.2.2.2.2.1,x0.2.2.2.2.2)) fun x1 =>
 M.pure (x1,3)
abbrev q22_E (n:Nat):Ent:=⟨22,[tyA],[tyB,tyI],fun x=>span_Check_3 n x⟩
abbrev q22_ct (n:Nat):List Ent:=[q23_E n]
theorem span_Check_3_ok (n:Nat):FnOK Tryz.prog (q22_E n) :=
 fn_t (q22_E n) Tryz.f22 (bodyOf Tryz.f22) [(0,tyA)] [] (q22_ct n) [] [] [] dr0 (by kernel_rfl) (by kernel_rfl) (by kernel_rfl) (by kernel_rfl) (by kernel_rfl) ⟨.nil,(.cons (span_occurrences_ok n) .nil),.nil,.nil,.nil⟩ (fun x=>by kernel_rfl)
def span_ranges_L1_B (G:Addr→Int→Int→Sl→Int→Int→M ((Unit) ⊕ (Bool)))(n:Nat)(a0:Addr)(a1:Int)(a2:Int)(a3:Sl)(a4:Int)(a5:Int):M ((Unit) ⊕ (Bool)) :=
 if decide (a5<a4) then
  M.bind (idxA a3 a5 3) fun x0 =>
  M.bind (ldLs [li,li,.str] x0) fun (x1:Int×Int×ByteArray) =>
  M.bind (newB none T_api_Note [vi 0,vi 0,Value.string (ofBytes [])]) fun x2 =>
  M.bind (stN (adr x2) [vi x1.1,vi x1.2.1,Value.string x1.2.2]) fun x3 =>
  M.bind (ldL (li) ((adr x2).plus 0)) fun (x4:Int) =>
  if decide (x4<a2) then
   M.pure (Sum.inr false)
  else
   M.bind (ldL (li) ((adr x2).plus 0)) fun (x5:Int) =>
   M.bind (ldL (li) ((adr x2).plus 1)) fun (x6:Int) =>
   if decide (x6≤x5) then
    M.pure (Sum.inr false)
   else
    M.bind (ldL (li) ((adr x2).plus 1)) fun (x7:Int) =>
    if decide (a1<x7) then
     M.pure (Sum.inr false)
    else
     M.bind (ldL .str ((adr x2).plus 2)) fun (x8:ByteArray) =>
     M.bind (ldL .str (a0.plus 1)) fun (x9:ByteArray) =>
     M.bind (ldL (li) ((adr x2).plus 0)) fun (x10:Int) =>
     M.bind (ldL (li) ((adr x2).plus 1)) fun (x11:Int) =>
     M.bind (sliceS x9 x10 x11) fun x12 =>
     if !eqS x8 x12 then
      M.pure (Sum.inr false)
     else
      M.bind (ldL (li) ((adr x2).plus 1)) fun (x13:Int) =>
      G a0 a1 x13 a3 a4 (IntKind.i64.wrap (a5+1))
 else
  M.pure (Sum.inl ())
def span_ranges_L1:Nat→Addr→Int→Int→Sl→Int→Int→M ((Unit) ⊕ (Bool))
 | 0=>fun _ _ _ _ _ _=>M.fail
 | n+1=>span_ranges_L1_B (span_ranges_L1 n) n
theorem span_ranges_L1_succ (n:Nat):span_ranges_L1 (n+1)=span_ranges_L1_B (span_ranges_L1 n) n:=rfl
def span_ranges_L0_J1_B (G:Addr→Int→Sl→Int→Int→M ((Unit) ⊕ (Bool)))(n:Nat)(a0:Addr)(a1:Int)(a2:Addr)(a3:Bool)(a4:Sl)(a5:Int)(a6:Int):M ((Unit) ⊕ (Bool)) :=
 if !a3 then
  M.bind (ldL (li) (a2.plus 5)) fun (x0:Int) =>
  if !decide (x0=0) then
   M.pure (Sum.inr false)
  else
   M.bind (ldL (li) (a2.plus 6)) fun (x1:Int) =>
   if !decide (x1=0) then
    M.pure (Sum.inr false)
   else
    G a0 a1 a4 a5 (IntKind.i64.wrap (a6+1))
 else
  G a0 a1 a4 a5 (IntKind.i64.wrap (a6+1))
def span_ranges_L0_J0_B (G:Addr→Int→Sl→Int→Int→M ((Unit) ⊕ (Bool)))(n:Nat)(a0:Addr)(a1:Int)(a2:Addr)(a3:Sl)(a4:Int)(a5:Int):M ((Unit) ⊕ (Bool)) :=
 M.bind (ldL (li) (a2.plus 1)) fun (x0:Int) =>
 if decide (0≤x0) then
  M.bind (ldL .sl ((a0.plus 2).plus 0)) fun (x1:Sl) =>
  M.bind (ldL .sl (a0.plus 4)) fun (x2:Sl) =>
  M.bind (ldL (li) (a2.plus 1)) fun (x3:Int) =>
  M.bind (idxA x2 x3 9) fun x4 =>
  M.bind (ldL (li) (x4.plus 0)) fun (x5:Int) =>
  M.bind (idxA x1 x5 5) fun x6 =>
  M.bind (ldL (li) (x6.plus 0)) fun (x7:Int) =>
  span_ranges_L0_J1_B G n a0 a1 a2 (decide (x7=10)) a3 a4 a5
 else
  span_ranges_L0_J1_B G n a0 a1 a2 false a3 a4 a5
def span_ranges_L0_B (G:Addr→Int→Sl→Int→Int→M ((Unit) ⊕ (Bool)))(n:Nat)(a0:Addr)(a1:Int)(a2:Sl)(a3:Int)(a4:Int):M ((Unit) ⊕ (Bool)) :=
 if decide (a4<a3) then
  M.bind (idxA a2 a4 9) fun x0 =>
  M.bind (ldLs [li,li,li,li,li,li,li,.bool,.bool] x0) fun (x1:Int×Int×Int×Int×Int×Int×Int×Bool×Bool) =>
  M.bind (newB none T_api_Span [vi 0,vi 0,vi 0,vi 0,vi 0,vi 0,vi 0,Value.bool false,Value.bool false]) fun x2 =>
  M.bind (stN (adr x2) [vi x1.1,vi x1.2.1,vi x1.2.2.1,vi x1.2.2.2.1,vi x1.2.2.2.2.1,vi x1.2.2.2.2.2.1,vi x1.2.2.2.2.2.2.1,Value.bool x1.2.2.2.2.2.2.2.1,Value.bool x1.2.2.2.2.2.2.2.2]) fun x3 =>
  M.bind (ldL (li) ((adr x2).plus 3)) fun (x4:Int) =>
  if decide (x4<0) then
   M.pure (Sum.inr false)
  else
   M.bind (ldL (li) ((adr x2).plus 3)) fun (x5:Int) =>
   M.bind (ldL (li) ((adr x2).plus 4)) fun (x6:Int) =>
   if decide (x6<x5) then
    M.pure (Sum.inr false)
   else
    M.bind (ldL (li) ((adr x2).plus 4)) fun (x7:Int) =>
    if decide (a1<x7) then
     M.pure (Sum.inr false)
    else
     M.bind (ldL (li) ((adr x2).plus 5)) fun (x8:Int) =>
     if decide (x8<0) then
      M.pure (Sum.inr false)
     else
      M.bind (ldL (li) ((adr x2).plus 5)) fun (x9:Int) =>
      M.bind (ldL (li) ((adr x2).plus 6)) fun (x10:Int) =>
      if decide (x10<x9) then
       M.pure (Sum.inr false)
      else
       M.bind (ldL (li) ((adr x2).plus 6)) fun (x11:Int) =>
       if decide (a1<x11) then
        M.pure (Sum.inr false)
       else
        span_ranges_L0_J0_B G n a0 a1 (adr x2) a2 a3 a4
 else
  M.pure (Sum.inl ())
def span_ranges_L0:Nat→Addr→Int→Sl→Int→Int→M ((Unit) ⊕ (Bool))
 | 0=>fun _ _ _ _ _=>M.fail
 | n+1=>span_ranges_L0_B (span_ranges_L0 n) n
theorem span_ranges_L0_succ (n:Nat):span_ranges_L0 (n+1)=span_ranges_L0_B (span_ranges_L0 n) n:=rfl
def span_ranges_L0_J0 (n:Nat)(a0:Addr)(a1:Int)(a2:Addr)(a3:Sl)(a4:Int)(a5:Int):M ((Unit) ⊕ (Bool)):=span_ranges_L0_J0_B (span_ranges_L0 n) n a0 a1 a2 a3 a4 a5
def span_ranges_L0_J1 (n:Nat)(a0:Addr)(a1:Int)(a2:Addr)(a3:Bool)(a4:Sl)(a5:Int)(a6:Int):M ((Unit) ⊕ (Bool)):=span_ranges_L0_J1_B (span_ranges_L0 n) n a0 a1 a2 a3 a4 a5 a6
def span_ranges (n:Nat)(a0:Int×ByteArray×Sl×Int×Sl×Sl):M (Bool) :=
 M.bind (newB none T_api_Doc [vi a0.1,Value.string a0.2.1,vsl a0.2.2.1,vi a0.2.2.2.1,vsl a0.2.2.2.2.1,vsl a0.2.2.2.2.2]) fun x0 =>
 M.bind (ldL .str ((adr x0).plus 1)) fun (x1:ByteArray) =>
 M.bind (ldL .sl ((adr x0).plus 4)) fun (x2:Sl) =>
 M.bind (span_ranges_L0 n (adr x0) (↑(ByteArray.size x1):Int) x2 (↑x2.len:Int) 0) (sumElim (fun x3 =>
  M.bind (ldL .sl ((adr x0).plus 5)) fun (x4:Sl) =>
  M.bind (span_ranges_L1 n (adr x0) (↑(ByteArray.size x1):Int) 0 x4 (↑x4.len:Int) 0) (sumElim (fun x5 =>
   M.pure true)
  (fun x5 =>
   M.pure x5)))
 (fun x3 =>
  M.pure x3))
abbrev q25_E (n:Nat):Ent:=⟨25,[.agg [.int .i64,.str,.sl,.int .i64,.sl,.sl]],[tyB],fun x=>span_ranges n x⟩
abbrev q25_L0_a:List (Nat×Ty):=[(1,tyA),(3,tyI),(14,tyL),(15,tyI),(16,tyI)]
abbrev q25_L0_w:List Nat:=[2,5,6,16,17,18,19,20,21,22,23,24,25,26,27,28,29,30,31,32,33,34,35,36,37,38,39,40,41,42,43,44,45,46,47,48,49,50,51,52,53,54,55,56,57,58,59,60,61,62,63,64,65,66,67,68,69,70,71,72,73,74,75,76,77,78,79,80,81,82,83,84,85]
abbrev q25_L0_p:Path:=[0,1,0,1,1]
abbrev q25_L0_g (n:Nat)(x:TsDen (tys q25_L0_a)):M ((Unit) ⊕ (Bool)):=span_ranges_L0 n (x.1) (x.2.1) (x.2.2.1) (x.2.2.2.1) (x.2.2.2.2)
abbrev q25_L0_l (n:Nat):LEnt:=⟨q25_L0_p,q25_L0_a,actL2 q25_L0_a [] [(2,tyB)] q25_L0_w 0 .ret (q25_L0_g n)⟩
abbrev q25_L1_a:List (Nat×Ty):=[(1,tyA),(3,tyI),(7,tyI),(87,tyL),(88,tyI),(89,tyI)]
abbrev q25_L1_w:List Nat:=[2,7,9,89,90,91,92,93,94,95,96,97,98,99,100,101,102,103,104,105,106,107,108,109,110,111,112,113,114,115,116,117,118,119,120,121,122,123,124]
abbrev q25_L1_p:Path:=[0,1,0,1,1,1,1]
abbrev q25_L1_g (n:Nat)(x:TsDen (tys q25_L1_a)):M ((Unit) ⊕ (Bool)):=span_ranges_L1 n (x.1) (x.2.1) (x.2.2.1) (x.2.2.2.1) (x.2.2.2.2.1) (x.2.2.2.2.2)
abbrev q25_L1_l (n:Nat):LEnt:=⟨q25_L1_p,q25_L1_a,actL2 q25_L1_a [] [(2,tyB)] q25_L1_w 2 .ret (q25_L1_g n)⟩
def q25_dr (i:Nat):Option (List (Nat×List Nat)):=cond (Nat.beq i 7) (some [(0,[]),(1,[]),(2,[]),(3,[]),(4,[]),(5,[]),(7,[]),(9,[]),(6,[]),(8,[]),(10,[]),(11,[]),(12,[]),(13,[]),(14,[]),(15,[]),(16,[]),(17,[]),(18,[]),(19,[])]) (cond (Nat.beq i 15) (some [(0,[]),(2,[]),(1,[]),(3,[]),(4,[]),(5,[]),(7,[]),(6,[]),(8,[]),(9,[]),(10,[]),(11,[]),(12,[]),(14,[]),(13,[]),(15,[]),(16,[]),(17,[]),(18,[]),(20,[]),(22,[]),(24,[]),(19,[]),(21,[]),(23,[]),(25,[]),(26,[]),(27,[]),(28,[])]) (none))
abbrev q25_L0_jt2 (n:Nat):List (JEnt ((Unit) ⊕ (Bool))):=[]
abbrev q25_L0_jt1 (n:Nat):List (JEnt ((Unit) ⊕ (Bool))):=⟨[0,1,1,1,0,0,1,1,0,0,1,0,1,1],[.code [1,1,1,1,0,0,1,1,0,0,1,0,1,1],.blk 1,.code [1,1,1,0,0,1,0,1,1]],[(1,tyA),(3,tyI),(5,tyA),(6,tyB),(14,tyL),(15,tyI),(16,tyI)],fun x=>span_ranges_L0_J1 n (x.1) (x.2.1) (x.2.2.1) (x.2.2.2.1) (x.2.2.2.2.1) (x.2.2.2.2.2.1) (x.2.2.2.2.2.2)⟩::q25_L0_jt2 n
abbrev q25_L0_jt0 (n:Nat):List (JEnt ((Unit) ⊕ (Bool))):=⟨[0,1,1,0,0,1,1,0,0,1,0,1,1],[.code [1,1,1,0,0,1,1,0,0,1,0,1,1],.blk 1,.code [1,1,1,0,0,1,0,1,1]],[(1,tyA),(3,tyI),(5,tyA),(14,tyL),(15,tyI),(16,tyI)],fun x=>span_ranges_L0_J0 n (x.1) (x.2.1) (x.2.2.1) (x.2.2.2.1) (x.2.2.2.2.1) (x.2.2.2.2.2)⟩::q25_L0_jt1 n
abbrev q25_lt (n:Nat):List LEnt:=[q25_L0_l n,q25_L1_l n]
theorem q25_L1_ok (n:Nat){W:Wr}(hW:subW W 125 q25_L1_w=true):LEntOK Tryz.prog (bodyOf Tryz.f25) W (q25_L1_l n) :=
 loop2_t (bodyOf Tryz.f25) q25_L1_p q25_L1_a [] [(2,tyB)] 2 .ret 125 q25_L1_w [] (fun _=>[]) (fun _=>[]) (fun _=>[]) q25_dr q25_L1_g (fun _=>[]) (by kernel_rfl) (fun _=>by kernel_rfl) (fun n x=>by kernel_rfl) n (fun m hm=>⟨.nil,.nil,.nil,.nil,.nil⟩) hW
theorem q25_L0_ok (n:Nat){W:Wr}(hW:subW W 125 q25_L0_w=true):LEntOK Tryz.prog (bodyOf Tryz.f25) W (q25_L0_l n) :=
 loop2_t (bodyOf Tryz.f25) q25_L0_p q25_L0_a [] [(2,tyB)] 0 .ret 125 q25_L0_w [] (fun _=>[]) (fun _=>[]) (fun _=>[]) q25_dr q25_L0_g q25_L0_jt0 (by kernel_rfl) (fun _=>by kernel_rfl) (fun n x=>by kernel_rfl) n (fun m hm=>⟨.nil,.nil,.nil,.nil,(.cons (fun x=>by kernel_rfl) (.cons (fun x=>by kernel_rfl) .nil))⟩) hW
theorem span_ranges_ok (n:Nat):FnOK Tryz.prog (q25_E n) :=
 fn_t (q25_E n) Tryz.f25 (bodyOf Tryz.f25) [(0,.agg [.int .i64,.str,.sl,.int .i64,.sl,.sl])] [] [] [] (q25_lt n) [] q25_dr (by kernel_rfl) (by kernel_rfl) (by kernel_rfl) (by kernel_rfl) (by kernel_rfl) ⟨.nil,.nil,.nil,(.cons (q25_L0_ok n (by kernel_rfl)) (.cons (q25_L1_ok n (by kernel_rfl)) .nil)),.nil⟩ (fun x=>by kernel_rfl)
def span_Check_4 (n:Nat)(a0:Addr):M (Bool×Int) :=
 M.bind (ldLs [li,.str,.sl,li,.sl,.sl] a0) fun (x0:Int×ByteArray×Sl×Int×Sl×Sl) =>
 M.bind (span_ranges n (x0.1,x0.2.1,x0.2.2.1,x0.2.2.2.1,x0.2.2.2.2.1,x0.2.2.2.2.2)) fun x1 =>
 M.pure (x1,2)
abbrev q24_E (n:Nat):Ent:=⟨24,[tyA],[tyB,tyI],fun x=>span_Check_4 n x⟩
abbrev q24_ct (n:Nat):List Ent:=[q25_E n]
theorem span_Check_4_ok (n:Nat):FnOK Tryz.prog (q24_E n) :=
 fn_t (q24_E n) Tryz.f24 (bodyOf Tryz.f24) [(0,tyA)] [] (q24_ct n) [] [] [] dr0 (by kernel_rfl) (by kernel_rfl) (by kernel_rfl) (by kernel_rfl) (by kernel_rfl) ⟨.nil,(.cons (span_ranges_ok n) .nil),.nil,.nil,.nil⟩ (fun x=>by kernel_rfl)
def span_ordered_L0_B (G:Addr→Sl→Sl→Int→Int→M (Unit))(n:Nat)(a0:Addr)(a1:Sl)(a2:Sl)(a3:Int)(a4:Int):M (Unit) :=
 if decide (a4<a3) then
  M.bind (idxA a2 a4 1) fun x0 =>
  M.bind (ldL (li) x0) fun (x1:Int) =>
  M.bind (ldL .sl (a0.plus 4)) fun (x2:Sl) =>
  M.bind (idxA x2 x1 9) fun x3 =>
  M.bind (ldL (li) (x3.plus 2)) fun (x4:Int) =>
  M.bind (idxA a1 x4 1) fun x5 =>
  M.bind (stN x5 [vi x1]) fun x6 =>
  G a0 a1 a2 a3 (IntKind.i64.wrap (a4+1))
 else
  M.pure ()
def span_ordered_L0:Nat→Addr→Sl→Sl→Int→Int→M (Unit)
 | 0=>fun _ _ _ _ _=>M.fail
 | n+1=>span_ordered_L0_B (span_ordered_L0 n) n
theorem span_ordered_L0_succ (n:Nat):span_ordered_L0 (n+1)=span_ordered_L0_B (span_ordered_L0 n) n:=rfl
def span_ordered (n:Nat)(a0:Int×ByteArray×Sl×Int×Sl×Sl)(a1:Sl):M (Sl) :=
 M.bind (newB none T_api_Doc [vi a0.1,Value.string a0.2.1,vsl a0.2.2.1,vi a0.2.2.2.1,vsl a0.2.2.2.2.1,vsl a0.2.2.2.2.2]) fun x0 =>
 M.bind (mkS none T_i64 [vi 0] (↑a1.len:Int) (↑a1.len:Int)) fun x1 =>
 M.bind (span_ordered_L0 n (adr x0) x1 a1 (↑a1.len:Int) 0) fun x2 =>
 M.pure x1
abbrev q28_E (n:Nat):Ent:=⟨28,[.agg [.int .i64,.str,.sl,.int .i64,.sl,.sl],tyL],[tyL],fun x=>span_ordered n (x.1) (x.2)⟩
abbrev q28_L0_a:List (Nat×Ty):=[(2,tyA),(5,tyL),(11,tyL),(12,tyI),(13,tyI)]
abbrev q28_L0_w:List Nat:=[7,13,14,15,16,17,18,19,20,21,22,23,24,25,26]
abbrev q28_L0_p:Path:=[0,1,0,1,1]
abbrev q28_L0_g (n:Nat)(x:TsDen (tys q28_L0_a)):M (Unit):=span_ordered_L0 n (x.1) (x.2.1) (x.2.2.1) (x.2.2.2.1) (x.2.2.2.2)
abbrev q28_L0_l (n:Nat):LEnt:=⟨q28_L0_p,q28_L0_a,actL1 q28_L0_a [] q28_L0_w 0 (q28_L0_g n)⟩
abbrev q28_lt (n:Nat):List LEnt:=[q28_L0_l n]
theorem q28_L0_ok (n:Nat){W:Wr}(hW:subW W 28 q28_L0_w=true):LEntOK Tryz.prog (bodyOf Tryz.f28) W (q28_L0_l n) :=
 loop1_t (bodyOf Tryz.f28) q28_L0_p q28_L0_a [] 0 28 q28_L0_w [] (fun _=>[]) (fun _=>[]) (fun _=>[]) dr0 q28_L0_g (fun _=>[]) (by kernel_rfl) (fun _=>by kernel_rfl) (fun n x=>by kernel_rfl) n (fun m hm=>⟨.nil,.nil,.nil,.nil,.nil⟩) hW
theorem span_ordered_ok (n:Nat):FnOK Tryz.prog (q28_E n) :=
 fn_t (q28_E n) Tryz.f28 (bodyOf Tryz.f28) [(0,.agg [.int .i64,.str,.sl,.int .i64,.sl,.sl]),(1,tyL)] [] [] [] (q28_lt n) [] dr0 (by kernel_rfl) (by kernel_rfl) (by kernel_rfl) (by kernel_rfl) (by kernel_rfl) ⟨.nil,.nil,.nil,(.cons (q28_L0_ok n (by kernel_rfl)) .nil),.nil⟩ (fun x=>by kernel_rfl)
def span_nested_L1_B (G:Addr→Option Nat→Addr→Int→Bool→Sl→Int→Int→Sl→Int→Int→M ((Int) ⊕ (Bool)))(n:Nat)(a0:Addr)(a1:Option Nat)(a2:Addr)(a3:Int)(a4:Bool)(a5:Sl)(a6:Int)(a7:Int)(a8:Sl)(a9:Int)(a10:Int):M ((Int) ⊕ (Bool)) :=
 if decide (a10<a9) then
  M.bind (idxA a8 a10 1) fun x0 =>
  M.bind (ldL (li) x0) fun (x1:Int) =>
  M.bind (ldL .sl (a0.plus 4)) fun (x2:Sl) =>
  M.bind (idxA x2 x1 9) fun x3 =>
  M.bind (ldLs [li,li,li,li,li,li,li,.bool,.bool] x3) fun (x4:Int×Int×Int×Int×Int×Int×Int×Bool×Bool) =>
  M.bind (newB none T_api_Span [vi 0,vi 0,vi 0,vi 0,vi 0,vi 0,vi 0,Value.bool false,Value.bool false]) fun x5 =>
  M.bind (stN (adr x5) [vi x4.1,vi x4.2.1,vi x4.2.2.1,vi x4.2.2.2.1,vi x4.2.2.2.2.1,vi x4.2.2.2.2.2.1,vi x4.2.2.2.2.2.2.1,Value.bool x4.2.2.2.2.2.2.2.1,Value.bool x4.2.2.2.2.2.2.2.2]) fun x6 =>
  if a4 then
   M.bind (ldL (li) ((adr x5).plus 5)) fun (x7:Int) =>
   if decide (x7<a3) then
    M.pure (Sum.inr false)
   else
    M.bind (ldL (li) ((adr x5).plus 6)) fun (x8:Int) =>
    M.bind (ldL (li) ((adr x5).plus 3)) fun (x9:Int) =>
    if decide (x9<x8) then
     M.pure (Sum.inr false)
    else
     M.bind (ldL (li) ((adr x5).plus 4)) fun (x10:Int) =>
     G a0 a1 a2 x10 a4 a5 a6 a7 a8 a9 (IntKind.i64.wrap (a10+1))
  else
   M.bind (ldL (li) ((adr x5).plus 3)) fun (x7:Int) =>
   if decide (x7<a3) then
    M.pure (Sum.inr false)
   else
    M.bind (ldL (li) ((adr x5).plus 4)) fun (x8:Int) =>
    G a0 a1 a2 x8 a4 a5 a6 a7 a8 a9 (IntKind.i64.wrap (a10+1))
 else
  M.pure (Sum.inl a3)
def span_nested_L1:Nat→Addr→Option Nat→Addr→Int→Bool→Sl→Int→Int→Sl→Int→Int→M ((Int) ⊕ (Bool))
 | 0=>fun _ _ _ _ _ _ _ _ _ _ _=>M.fail
 | n+1=>span_nested_L1_B (span_nested_L1 n) n
theorem span_nested_L1_succ (n:Nat):span_nested_L1 (n+1)=span_nested_L1_B (span_nested_L1 n) n:=rfl
def span_nested_L0_J0_B (G:Addr→Option Nat→Sl→Int→Int→M ((Unit) ⊕ (Bool)))(n:Nat)(a0:Addr)(a1:Option Nat)(a2:Int)(a3:Addr)(a4:Sl)(a5:Int)(a6:Int):M ((Unit) ⊕ (Bool)) :=
 M.bind (ldL (li) (a3.plus 3)) fun (x0:Int) =>
 M.bind (ldL .sl ((a0.plus 2).plus 0)) fun (x1:Sl) =>
 M.bind (ldL (li) (a3.plus 0)) fun (x2:Int) =>
 M.bind (idxA x1 x2 5) fun x3 =>
 M.bind (ldL (li) (x3.plus 0)) fun (x4:Int) =>
 M.bind (ldLs [li,.str,.sl,li,.sl,.sl] a0) fun (x5:Int×ByteArray×Sl×Int×Sl×Sl) =>
 M.bind (mpGet T_i64 (Ty.one .sl) sl0 a1 (vi a2)) fun (x6:Bool×Sl) =>
 M.bind (span_ordered n (x5.1,x5.2.1,x5.2.2.1,x5.2.2.2.1,x5.2.2.2.2.1,x5.2.2.2.2.2) x6.2) fun x7 =>
 M.bind (span_nested_L1 n a0 a1 a3 x0 (decide (x4=10)) a4 a5 a6 x7 (↑x7.len:Int) 0) (sumElim (fun x8 =>
  M.bind (ldL (li) (a3.plus 4)) fun (x9:Int) =>
  if decide (x9<x8) then
   M.pure (Sum.inr false)
  else
   G a0 a1 a4 a5 (IntKind.i64.wrap (a6+1)))
 (fun x8 =>
  M.pure (Sum.inr x8)))
def span_nested_L0_B (G:Addr→Option Nat→Sl→Int→Int→M ((Unit) ⊕ (Bool)))(n:Nat)(a0:Addr)(a1:Option Nat)(a2:Sl)(a3:Int)(a4:Int):M ((Unit) ⊕ (Bool)) :=
 if decide (a4<a3) then
  M.bind (idxA a2 a4 9) fun x0 =>
  M.bind (ldLs [li,li,li,li,li,li,li,.bool,.bool] x0) fun (x1:Int×Int×Int×Int×Int×Int×Int×Bool×Bool) =>
  M.bind (newB none T_api_Span [vi 0,vi 0,vi 0,vi 0,vi 0,vi 0,vi 0,Value.bool false,Value.bool false]) fun x2 =>
  M.bind (stN (adr x2) [vi x1.1,vi x1.2.1,vi x1.2.2.1,vi x1.2.2.2.1,vi x1.2.2.2.2.1,vi x1.2.2.2.2.2.1,vi x1.2.2.2.2.2.2.1,Value.bool x1.2.2.2.2.2.2.2.1,Value.bool x1.2.2.2.2.2.2.2.2]) fun x3 =>
  M.bind (ldL .bool ((adr x2).plus 8)) fun (x4:Bool) =>
  if !x4 then
   G a0 a1 a2 a3 (IntKind.i64.wrap (a4+1))
  else
   M.bind (ldL .bool ((adr x2).plus 7)) fun (x5:Bool) =>
   if x5 then
    G a0 a1 a2 a3 (IntKind.i64.wrap (a4+1))
   else
    span_nested_L0_J0_B G n a0 a1 a4 (adr x2) a2 a3 a4
 else
  M.pure (Sum.inl ())
def span_nested_L0:Nat→Addr→Option Nat→Sl→Int→Int→M ((Unit) ⊕ (Bool))
 | 0=>fun _ _ _ _ _=>M.fail
 | n+1=>span_nested_L0_B (span_nested_L0 n) n
theorem span_nested_L0_succ (n:Nat):span_nested_L0 (n+1)=span_nested_L0_B (span_nested_L0 n) n:=rfl
def span_nested_L0_J0 (n:Nat)(a0:Addr)(a1:Option Nat)(a2:Int)(a3:Addr)(a4:Sl)(a5:Int)(a6:Int):M ((Unit) ⊕ (Bool)):=span_nested_L0_J0_B (span_nested_L0 n) n a0 a1 a2 a3 a4 a5 a6
def span_nested (n:Nat)(a0:Int×ByteArray×Sl×Int×Sl×Sl):M (Bool) :=
 M.bind (newB none T_api_Doc [vi a0.1,Value.string a0.2.1,vsl a0.2.2.1,vi a0.2.2.2.1,vsl a0.2.2.2.2.1,vsl a0.2.2.2.2.2]) fun x0 =>
 M.bind (ldLs [li,.str,.sl,li,.sl,.sl] (adr x0)) fun (x1:Int×ByteArray×Sl×Int×Sl×Sl) =>
 M.bind (span_children n (x1.1,x1.2.1,x1.2.2.1,x1.2.2.2.1,x1.2.2.2.2.1,x1.2.2.2.2.2)) fun x2 =>
 M.bind (ldL .sl ((adr x0).plus 4)) fun (x3:Sl) =>
 M.bind (span_nested_L0 n (adr x0) x2 x3 (↑x3.len:Int) 0) (sumElim (fun x4 =>
  M.pure true)
 (fun x4 =>
  M.pure x4))
abbrev q27_E (n:Nat):Ent:=⟨27,[.agg [.int .i64,.str,.sl,.int .i64,.sl,.sl]],[tyB],fun x=>span_nested n x⟩
abbrev q27_L0_a:List (Nat×Ty):=[(1,tyA),(3,tyM),(14,tyL),(15,tyI),(16,tyI)]
abbrev q27_L0_w:List Nat:=[2,4,5,6,7,9,10,16,17,18,19,20,21,22,23,24,25,26,27,28,29,30,31,32,33,34,35,36,37,38,39,40,41,42,43,44,45,46,47,48,49,50,51,52,53,54,55,56,57,58,59,60,61,62,63,64,65,66,67,68,69,70,71,72]
abbrev q27_L0_p:Path:=[0,1,0,1,1]
abbrev q27_L0_g (n:Nat)(x:TsDen (tys q27_L0_a)):M ((Unit) ⊕ (Bool)):=span_nested_L0 n (x.1) (x.2.1) (x.2.2.1) (x.2.2.2.1) (x.2.2.2.2)
abbrev q27_L0_l (n:Nat):LEnt:=⟨q27_L0_p,q27_L0_a,actL2 q27_L0_a [] [(2,tyB)] q27_L0_w 0 .ret (q27_L0_g n)⟩
abbrev q27_L1_a:List (Nat×Ty):=[(1,tyA),(3,tyM),(5,tyA),(6,tyI),(7,tyB),(14,tyL),(15,tyI),(16,tyI),(43,tyL),(44,tyI),(45,tyI)]
abbrev q27_L1_w:List Nat:=[2,6,9,10,45,46,47,48,49,50,51,52,53,54,55,56,57,58,59,60,61,62,63,64,65,66,67]
abbrev q27_L1_p:Path:=[0,1,0,1,1,1,1,0,0,1,1,0,0,1,0,1,1]
abbrev q27_L1_g (n:Nat)(x:TsDen (tys q27_L1_a)):M ((Int) ⊕ (Bool)):=span_nested_L1 n (x.1) (x.2.1) (x.2.2.1) (x.2.2.2.1) (x.2.2.2.2.1) (x.2.2.2.2.2.1) (x.2.2.2.2.2.2.1) (x.2.2.2.2.2.2.2.1) (x.2.2.2.2.2.2.2.2.1) (x.2.2.2.2.2.2.2.2.2.1) (x.2.2.2.2.2.2.2.2.2.2)
abbrev q27_L1_l (n:Nat):LEnt:=⟨q27_L1_p,q27_L1_a,actL2 q27_L1_a [(6,tyI)] [(2,tyB)] q27_L1_w 2 .ret (q27_L1_g n)⟩
abbrev q27_ct (n:Nat):List Ent:=[q28_E n,q29_E n]
abbrev q27_L0_lt (n:Nat):List LEnt:=[q27_L1_l n]
abbrev q27_L0_jt1 (n:Nat):List (JEnt ((Unit) ⊕ (Bool))):=[]
abbrev q27_L0_jt0 (n:Nat):List (JEnt ((Unit) ⊕ (Bool))):=⟨[0,1,1,0,0,1,1,0,0,1,0,1,1],[.code [1,1,1,0,0,1,1,0,0,1,0,1,1],.blk 1,.code [1,1,1,0,0,1,0,1,1]],[(1,tyA),(3,tyM),(4,tyI),(5,tyA),(14,tyL),(15,tyI),(16,tyI)],fun x=>span_nested_L0_J0 n (x.1) (x.2.1) (x.2.2.1) (x.2.2.2.1) (x.2.2.2.2.1) (x.2.2.2.2.2.1) (x.2.2.2.2.2.2)⟩::q27_L0_jt1 n
abbrev q27_lt (n:Nat):List LEnt:=[q27_L0_l n]
theorem q27_L1_ok (n:Nat){W:Wr}(hW:subW W 73 q27_L1_w=true):LEntOK Tryz.prog (bodyOf Tryz.f27) W (q27_L1_l n) :=
 loop2_t (bodyOf Tryz.f27) q27_L1_p q27_L1_a [(6,tyI)] [(2,tyB)] 2 .ret 73 q27_L1_w [] q27_ct (fun _=>[]) (fun _=>[]) dr0 q27_L1_g (fun _=>[]) (by kernel_rfl) (fun _=>by kernel_rfl) (fun n x=>by kernel_rfl) n (fun m hm=>⟨.nil,(.cons (span_ordered_ok m) (.cons (span_children_ok m) .nil)),.nil,.nil,.nil⟩) hW
theorem q27_L0_ok (n:Nat){W:Wr}(hW:subW W 73 q27_L0_w=true):LEntOK Tryz.prog (bodyOf Tryz.f27) W (q27_L0_l n) :=
 loop2_t (bodyOf Tryz.f27) q27_L0_p q27_L0_a [] [(2,tyB)] 0 .ret 73 q27_L0_w [] q27_ct (fun _=>[]) q27_L0_lt dr0 q27_L0_g q27_L0_jt0 (by kernel_rfl) (fun _=>by kernel_rfl) (fun n x=>by kernel_rfl) n (fun m hm=>⟨.nil,(.cons (span_ordered_ok m) (.cons (span_children_ok m) .nil)),.nil,(.cons (q27_L1_ok m (by kernel_rfl)) .nil),(.cons (fun x=>by kernel_rfl) .nil)⟩) hW
theorem span_nested_ok (n:Nat):FnOK Tryz.prog (q27_E n) :=
 fn_t (q27_E n) Tryz.f27 (bodyOf Tryz.f27) [(0,.agg [.int .i64,.str,.sl,.int .i64,.sl,.sl])] [] (q27_ct n) [] (q27_lt n) [] dr0 (by kernel_rfl) (by kernel_rfl) (by kernel_rfl) (by kernel_rfl) (by kernel_rfl) ⟨.nil,(.cons (span_ordered_ok n) (.cons (span_children_ok n) .nil)),.nil,(.cons (q27_L0_ok n (by kernel_rfl)) .nil),.nil⟩ (fun x=>by kernel_rfl)
def span_Check_5 (n:Nat)(a0:Addr):M (Bool×Int) :=
 M.bind (ldLs [li,.str,.sl,li,.sl,.sl] a0) fun (x0:Int×ByteArray×Sl×Int×Sl×Sl) =>
 M.bind (span_nested n (x0.1,x0.2.1,x0.2.2.1,x0.2.2.2.1,x0.2.2.2.2.1,x0.2.2.2.2.2)) fun x1 =>
 M.pure (x1,17)
abbrev q26_E (n:Nat):Ent:=⟨26,[tyA],[tyB,tyI],fun x=>span_Check_5 n x⟩
abbrev q26_ct (n:Nat):List Ent:=[q27_E n]
theorem span_Check_5_ok (n:Nat):FnOK Tryz.prog (q26_E n) :=
 fn_t (q26_E n) Tryz.f26 (bodyOf Tryz.f26) [(0,tyA)] [] (q26_ct n) [] [] [] dr0 (by kernel_rfl) (by kernel_rfl) (by kernel_rfl) (by kernel_rfl) (by kernel_rfl) ⟨.nil,(.cons (span_nested_ok n) .nil),.nil,.nil,.nil⟩ (fun x=>by kernel_rfl)
def span_Check_D19 (n:Nat)(x:Value):M (Bool×Int) :=
 if isFn F_span_Check_1 x then
  M.bind (asFn [tyA] x) fun (c:Addr)=>span_Check_1 n (c)
 else if isFn F_span_Check_2 x then
  M.bind (asFn [tyA] x) fun (c:Addr)=>span_Check_2 n (c)
 else if isFn F_span_Check_3 x then
  M.bind (asFn [tyA] x) fun (c:Addr)=>span_Check_3 n (c)
 else if isFn F_span_Check_4 x then
  M.bind (asFn [tyA] x) fun (c:Addr)=>span_Check_4 n (c)
 else if isFn F_span_Check_5 x then
  M.bind (asFn [tyA] x) fun (c:Addr)=>span_Check_5 n (c)
 else M.fail
def span_Check_L0_B (G:(Value×Value×Value×Value×Value)→Int→M ((Unit) ⊕ (Int)))(n:Nat)(a0:Value×Value×Value×Value×Value)(a1:Int):M ((Unit) ⊕ (Int)) :=
 if decide (a1<5) then
  M.bind (idxC .raw 5 [a0.1,a0.2.1,a0.2.2.1,a0.2.2.2.1,a0.2.2.2.2] a1) fun x0 =>
  M.bind (span_Check_D19 n x0) fun x1 =>
  if !x1.1 then
   M.pure (Sum.inr x1.2)
  else
   G (a0.1,a0.2.1,a0.2.2.1,a0.2.2.2.1,a0.2.2.2.2) (IntKind.i64.wrap (a1+1))
 else
  M.pure (Sum.inl ())
def span_Check_L0:Nat→(Value×Value×Value×Value×Value)→Int→M ((Unit) ⊕ (Int))
 | 0=>fun _ _=>M.fail
 | n+1=>span_Check_L0_B (span_Check_L0 n) n
theorem span_Check_L0_succ (n:Nat):span_Check_L0 (n+1)=span_Check_L0_B (span_Check_L0 n) n:=rfl
def span_Check (n:Nat)(a0:Int×ByteArray×Sl×Int×Sl×Sl):M (Int) :=
 M.bind (newB none T_api_Doc [vi a0.1,Value.string a0.2.1,vsl a0.2.2.1,vi a0.2.2.2.1,vsl a0.2.2.2.2.1,vsl a0.2.2.2.2.2]) fun x0 =>
 M.bind (newB none T_ar5_fn__bool_api_Errno [Value.nilFunc,Value.nilFunc,Value.nilFunc,Value.nilFunc,Value.nilFunc]) fun x1 =>
 M.bind (stN (adr x1) [Value.func (Fn.func F_span_Check_1) #[] #[Value.pointer (some (adr x0))],Value.func (Fn.func F_span_Check_2) #[] #[Value.pointer (some (adr x0))],Value.func (Fn.func F_span_Check_3) #[] #[Value.pointer (some (adr x0))],Value.func (Fn.func F_span_Check_4) #[] #[Value.pointer (some (adr x0))],Value.func (Fn.func F_span_Check_5) #[] #[Value.pointer (some (adr x0))]]) fun x2 =>
 M.bind (ldLs [.raw,.raw,.raw,.raw,.raw] (adr x1)) fun (x3:Value×Value×Value×Value×Value) =>
 M.bind (span_Check_L0 n (x3.1,x3.2.1,x3.2.2.1,x3.2.2.2.1,x3.2.2.2.2) 0) (sumElim (fun x4 =>
  M.pure 0)
 (fun x4 =>
  M.pure x4))
abbrev q8_E (n:Nat):Ent:=⟨8,[.agg [.int .i64,.str,.sl,.int .i64,.sl,.sl]],[tyI],fun x=>span_Check n x⟩
abbrev q8_L0_a:List (Nat×Ty):=[(14,.agg [.raw,.raw,.raw,.raw,.raw]),(15,tyI)]
abbrev q8_L0_w:List Nat:=[2,5,6,7,15,16,17,18,19,20,21,22,23,24,25,26]
abbrev q8_L0_p:Path:=[0,1,0,1,1]
abbrev q8_L0_g (n:Nat)(x:TsDen (tys q8_L0_a)):M ((Unit) ⊕ (Int)):=span_Check_L0 n (x.1) (x.2)
abbrev q8_L0_l (n:Nat):LEnt:=⟨q8_L0_p,q8_L0_a,actL2 q8_L0_a [] [(2,tyI)] q8_L0_w 0 .ret (q8_L0_g n)⟩
abbrev q8_dt (n:Nat):List DEnt:=[⟨19,[],[tyB,tyI],fun x _=>span_Check_D19 n x⟩]
abbrev q8_lt (n:Nat):List LEnt:=[q8_L0_l n]
theorem q8_L0_ok (n:Nat){W:Wr}(hW:subW W 27 q8_L0_w=true):LEntOK Tryz.prog (bodyOf Tryz.f8) W (q8_L0_l n) :=
 loop2_t (bodyOf Tryz.f8) q8_L0_p q8_L0_a [] [(2,tyI)] 0 .ret 27 q8_L0_w [] (fun _=>[]) q8_dt (fun _=>[]) dr0 q8_L0_g (fun _=>[]) (by kernel_rfl) (fun _=>by kernel_rfl) (fun n x=>by kernel_rfl) n (fun m hm=>⟨.nil,.nil,(.cons (dent_ok (l:=[⟨20,[tyA],fun _ c=>span_Check_1 m (c)⟩,⟨21,[tyA],fun _ c=>span_Check_2 m (c)⟩,⟨22,[tyA],fun _ c=>span_Check_3 m (c)⟩,⟨24,[tyA],fun _ c=>span_Check_4 m (c)⟩,⟨26,[tyA],fun _ c=>span_Check_5 m (c)⟩]) (.cons (fun a c=>callOK_cast (by kernel_rfl) ((span_Check_1_ok m) (c))) (.cons (fun a c=>callOK_cast (by kernel_rfl) ((span_Check_2_ok m) (c))) (.cons (fun a c=>callOK_cast (by kernel_rfl) ((span_Check_3_ok m) (c))) (.cons (fun a c=>callOK_cast (by kernel_rfl) ((span_Check_4_ok m) (c))) (.cons (fun a c=>callOK_cast (by kernel_rfl) ((span_Check_5_ok m) (c))) .nil))))) (fun x a=>by kernel_rfl)) .nil),.nil,.nil⟩) hW
theorem span_Check_ok (n:Nat):FnOK Tryz.prog (q8_E n) :=
 fn_t (q8_E n) Tryz.f8 (bodyOf Tryz.f8) [(0,.agg [.int .i64,.str,.sl,.int .i64,.sl,.sl])] [] [] (q8_dt n) (q8_lt n) [] dr0 (by kernel_rfl) (by kernel_rfl) (by kernel_rfl) (by kernel_rfl) (by kernel_rfl) ⟨.nil,.nil,(.cons (dent_ok (l:=[⟨20,[tyA],fun _ c=>span_Check_1 n (c)⟩,⟨21,[tyA],fun _ c=>span_Check_2 n (c)⟩,⟨22,[tyA],fun _ c=>span_Check_3 n (c)⟩,⟨24,[tyA],fun _ c=>span_Check_4 n (c)⟩,⟨26,[tyA],fun _ c=>span_Check_5 n (c)⟩]) (.cons (fun a c=>callOK_cast (by kernel_rfl) ((span_Check_1_ok n) (c))) (.cons (fun a c=>callOK_cast (by kernel_rfl) ((span_Check_2_ok n) (c))) (.cons (fun a c=>callOK_cast (by kernel_rfl) ((span_Check_3_ok n) (c))) (.cons (fun a c=>callOK_cast (by kernel_rfl) ((span_Check_4_ok n) (c))) (.cons (fun a c=>callOK_cast (by kernel_rfl) ((span_Check_5_ok n) (c))) .nil))))) (fun x a=>by kernel_rfl)) .nil),(.cons (q8_L0_ok n (by kernel_rfl)) .nil),.nil⟩ (fun x=>by kernel_rfl)
def span_Children (n:Nat)(a0:Int×ByteArray×Sl×Int×Sl×Sl)(a1:Int):M (Sl) :=
 M.bind (newB none T_api_Doc [vi a0.1,Value.string a0.2.1,vsl a0.2.2.1,vi a0.2.2.2.1,vsl a0.2.2.2.2.1,vsl a0.2.2.2.2.2]) fun x0 =>
 M.bind (ldLs [li,.str,.sl,li,.sl,.sl] (adr x0)) fun (x1:Int×ByteArray×Sl×Int×Sl×Sl) =>
 M.bind (span_Check n (x1.1,x1.2.1,x1.2.2.1,x1.2.2.2.1,x1.2.2.2.2.1,x1.2.2.2.2.2)) fun x2 =>
 if !decide (x2=0) then
  M.pure sl0
 else
  if decide (a1<0) then
   M.pure sl0
  else
   M.bind (ldL .sl ((adr x0).plus 4)) fun (x3:Sl) =>
   if decide ((↑x3.len:Int)≤a1) then
    M.pure sl0
   else
    M.bind (ldLs [li,.str,.sl,li,.sl,.sl] (adr x0)) fun (x4:Int×ByteArray×Sl×Int×Sl×Sl) =>
    M.bind (ldLs [li,.str,.sl,li,.sl,.sl] (adr x0)) fun (x5:Int×ByteArray×Sl×Int×Sl×Sl) =>
    M.bind (chk [some (adr x0)] (span_children n (x5.1,x5.2.1,x5.2.2.1,x5.2.2.2.1,x5.2.2.2.2.1,x5.2.2.2.2.2))) fun x6 =>
    M.bind (mpGet T_i64 (Ty.one .sl) sl0 x6 (vi a1)) fun (x7:Bool×Sl) =>
    M.bind (span_ordered n (x4.1,x4.2.1,x4.2.2.1,x4.2.2.2.1,x4.2.2.2.2.1,x4.2.2.2.2.2) x7.2) fun x8 =>
    M.pure x8
abbrev q9_E (n:Nat):Ent:=⟨9,[.agg [.int .i64,.str,.sl,.int .i64,.sl,.sl],tyI],[tyL],fun x=>span_Children n (x.1) (x.2)⟩
abbrev q9_ct (n:Nat):List Ent:=[q8_E n,q28_E n,q29_E n]
def q9_dr (i:Nat):Option (List (Nat×List Nat)):=cond (Nat.beq i 3) (some [(3,[]),(0,[]),(1,[]),(2,[0]),(4,[]),(5,[]),(6,[])]) (none)
theorem span_Children_ok (n:Nat):FnOK Tryz.prog (q9_E n) :=
 fn_t (q9_E n) Tryz.f9 (bodyOf Tryz.f9) [(0,.agg [.int .i64,.str,.sl,.int .i64,.sl,.sl]),(1,tyI)] [] (q9_ct n) [] [] [] q9_dr (by kernel_rfl) (by kernel_rfl) (by kernel_rfl) (by kernel_rfl) (by kernel_rfl) ⟨.nil,(.cons (span_Check_ok n) (.cons (span_ordered_ok n) (.cons (span_children_ok n) .nil))),.nil,.nil,.nil⟩ (fun x=>by kernel_rfl)
def span_At_L0_B (G:Int→Addr→Int→Sl→Int→Int→M (Int))(n:Nat)(a0:Int)(a1:Addr)(a2:Int)(a3:Sl)(a4:Int)(a5:Int):M (Int) :=
 if decide (a5<a4) then
  M.bind (idxA a3 a5 9) fun x0 =>
  M.bind (ldLs [li,li,li,li,li,li,li,.bool,.bool] x0) fun (x1:Int×Int×Int×Int×Int×Int×Int×Bool×Bool) =>
  M.bind (newB none T_api_Span [vi 0,vi 0,vi 0,vi 0,vi 0,vi 0,vi 0,Value.bool false,Value.bool false]) fun x2 =>
  M.bind (stN (adr x2) [vi x1.1,vi x1.2.1,vi x1.2.2.1,vi x1.2.2.2.1,vi x1.2.2.2.2.1,vi x1.2.2.2.2.2.1,vi x1.2.2.2.2.2.2.1,Value.bool x1.2.2.2.2.2.2.2.1,Value.bool x1.2.2.2.2.2.2.2.2]) fun x3 =>
  M.bind (ldL (li) ((adr x2).plus 3)) fun (x4:Int) =>
  if decide (x4≤a0) then
   M.bind (ldL (li) ((adr x2).plus 4)) fun (x5:Int) =>
   if decide (a0<x5) then
    if decide (a2<0) then
     G a0 a1 a5 a3 a4 (IntKind.i64.wrap (a5+1))
    else
     M.bind (ldL (li) ((adr x2).plus 4)) fun (x6:Int) =>
     M.bind (ldL (li) ((adr x2).plus 3)) fun (x7:Int) =>
     M.bind (ldL .sl (a1.plus 4)) fun (x8:Sl) =>
     M.bind (idxA x8 a2 9) fun x9 =>
     M.bind (ldL (li) (x9.plus 4)) fun (x10:Int) =>
     M.bind (ldL .sl (a1.plus 4)) fun (x11:Sl) =>
     M.bind (idxA x11 a2 9) fun x12 =>
     M.bind (ldL (li) (x12.plus 3)) fun (x13:Int) =>
     if decide (IntKind.i64.wrap (x6 - x7)≤IntKind.i64.wrap (x10 - x13)) then
      G a0 a1 a5 a3 a4 (IntKind.i64.wrap (a5+1))
     else
      G a0 a1 a2 a3 a4 (IntKind.i64.wrap (a5+1))
   else
    G a0 a1 a2 a3 a4 (IntKind.i64.wrap (a5+1))
  else
   G a0 a1 a2 a3 a4 (IntKind.i64.wrap (a5+1))
 else
  M.pure a2
def span_At_L0:Nat→Int→Addr→Int→Sl→Int→Int→M (Int)
 | 0=>fun _ _ _ _ _ _=>M.fail
 | n+1=>span_At_L0_B (span_At_L0 n) n
theorem span_At_L0_succ (n:Nat):span_At_L0 (n+1)=span_At_L0_B (span_At_L0 n) n:=rfl
def span_At (n:Nat)(a0:Int×ByteArray×Sl×Int×Sl×Sl)(a1:Int):M (Int×Bool) :=
 M.bind (newB none T_api_Doc [vi a0.1,Value.string a0.2.1,vsl a0.2.2.1,vi a0.2.2.2.1,vsl a0.2.2.2.2.1,vsl a0.2.2.2.2.2]) fun x0 =>
 M.bind (ldLs [li,.str,.sl,li,.sl,.sl] (adr x0)) fun (x1:Int×ByteArray×Sl×Int×Sl×Sl) =>
 M.bind (span_Check n (x1.1,x1.2.1,x1.2.2.1,x1.2.2.2.1,x1.2.2.2.2.1,x1.2.2.2.2.2)) fun x2 =>
 if !decide (x2=0) then
  M.pure (0,false)
 else
  M.bind (ldL .sl ((adr x0).plus 4)) fun (x3:Sl) =>
  M.bind (span_At_L0 n a1 (adr x0) (-1) x3 (↑x3.len:Int) 0) fun x4 =>
  M.pure (if x4<0 then 0 else x4,decide (0≤x4))
abbrev q10_E (n:Nat):Ent:=⟨10,[.agg [.int .i64,.str,.sl,.int .i64,.sl,.sl],tyI],[tyI,tyB],fun x=>span_At n (x.1) (x.2)⟩
abbrev q10_L0_a:List (Nat×Ty):=[(1,tyI),(2,tyA),(6,tyI),(13,tyL),(14,tyI),(15,tyI)]
abbrev q10_L0_w:List Nat:=[6,7,8,15,16,17,18,19,20,21,22,23,24,25,26,27,28,29,30,31,32,33,34,35,36,37,38,39,40,41,42,43,44,45,46,47,48,49,50,51,52,53,54,55,56]
abbrev q10_L0_p:Path:=[0,1,0,1,1,1]
abbrev q10_L0_g (n:Nat)(x:TsDen (tys q10_L0_a)):M (Int):=span_At_L0 n (x.1) (x.2.1) (x.2.2.1) (x.2.2.2.1) (x.2.2.2.2.1) (x.2.2.2.2.2)
abbrev q10_L0_l (n:Nat):LEnt:=⟨q10_L0_p,q10_L0_a,actL1 q10_L0_a [(6,tyI)] q10_L0_w 0 (q10_L0_g n)⟩
abbrev q10_ct (n:Nat):List Ent:=[q8_E n]
def q10_dr (i:Nat):Option (List (Nat×List Nat)):=cond (Nat.beq i 7) (some [(0,[]),(2,[]),(1,[]),(3,[]),(4,[]),(5,[]),(6,[]),(7,[]),(8,[]),(9,[]),(10,[]),(11,[]),(12,[]),(13,[]),(14,[]),(16,[]),(19,[]),(21,[]),(25,[]),(27,[]),(15,[]),(17,[]),(18,[]),(20,[]),(22,[]),(23,[]),(24,[]),(26,[]),(28,[]),(29,[]),(30,[]),(31,[]),(32,[]),(33,[]),(34,[])]) (none)
abbrev q10_lt (n:Nat):List LEnt:=[q10_L0_l n]
theorem q10_L0_ok (n:Nat){W:Wr}(hW:subW W 61 q10_L0_w=true):LEntOK Tryz.prog (bodyOf Tryz.f10) W (q10_L0_l n) :=
 loop1_t (bodyOf Tryz.f10) q10_L0_p q10_L0_a [(6,tyI)] 0 61 q10_L0_w [] q10_ct (fun _=>[]) (fun _=>[]) q10_dr q10_L0_g (fun _=>[]) (by kernel_rfl) (fun _=>by kernel_rfl) (fun n x=>by kernel_rfl) n (fun m hm=>⟨.nil,(.cons (span_Check_ok m) .nil),.nil,.nil,.nil⟩) hW
theorem span_At_ok (n:Nat):FnOK Tryz.prog (q10_E n) :=
 fn_t (q10_E n) Tryz.f10 (bodyOf Tryz.f10) [(0,.agg [.int .i64,.str,.sl,.int .i64,.sl,.sl]),(1,tyI)] [] (q10_ct n) [] (q10_lt n) [] q10_dr (by kernel_rfl) (by kernel_rfl) (by kernel_rfl) (by kernel_rfl) (by kernel_rfl) ⟨.nil,(.cons (span_Check_ok n) .nil),.nil,(.cons (q10_L0_ok n (by kernel_rfl)) .nil),.nil⟩ (fun x=>by kernel_rfl)
def rosettalaw18_example (n:Nat):M (Int×ByteArray×Sl×Int×Sl×Sl) :=
 M.bind (newB none T_api_Doc [vi 0,Value.string (ofBytes []),vsl0,vi 0,vsl0,vsl0]) fun x0 =>
 M.bind (newB none T_i64 [vi 1,vi 2]) fun x1 =>
 M.bind (newB none T_api_Node [vi 9,Value.string (ofBytes []),Value.bool false,vsl0,Value.slice (some (adr x1)) 2 3,vi 2,Value.string (ofBytes [55]),Value.bool false,vsl0,vsl0,vi 2,Value.string (ofBytes [56]),Value.bool false,vsl0,vsl0]) fun x2 =>
 M.bind (newB none T_api_Span [vi 0,vi (-1),vi 0,vi 0,vi 6,vi 0,vi 0,Value.bool false,Value.bool true,vi 1,vi 0,vi 0,vi 1,vi 2,vi 0,vi 0,Value.bool false,Value.bool true,vi 2,vi 0,vi 1,vi 4,vi 5,vi 0,vi 0,Value.bool false,Value.bool true]) fun x3 =>
 M.bind (stN (adr x0) [vi 0,Value.string (ofBytes [91,55,44,32,56,93]),Value.slice (some (adr x2)) 3 4,vi 0,Value.slice (some (adr x3)) 3 4,vsl0]) fun x4 =>
 M.bind (ldLs [li,.str,.sl,li,.sl,.sl] (adr x0)) fun (x5:Int×ByteArray×Sl×Int×Sl×Sl) =>
 M.pure (x5.1,x5.2.1,x5.2.2.1,x5.2.2.2.1,x5.2.2.2.2.1,x5.2.2.2.2.2)
abbrev q16_E (n:Nat):Ent:=⟨16,[],[.agg [.int .i64,.str,.sl,.int .i64,.sl,.sl]],fun _=>rosettalaw18_example n⟩
theorem rosettalaw18_example_ok (n:Nat):FnOK Tryz.prog (q16_E n) :=
 fn_t (q16_E n) Tryz.f16 (bodyOf Tryz.f16) [] [] [] [] [] [] dr0 (by kernel_rfl) (by kernel_rfl) (by kernel_rfl) (by kernel_rfl) (by kernel_rfl) ⟨.nil,.nil,.nil,.nil,.nil⟩ (fun x=>by kernel_rfl)
def span_Path_L0_B (G:Int→Addr→Sl→M (Sl))(n:Nat)(a0:Int)(a1:Addr)(a2:Sl):M (Sl) :=
 if decide (0<a0) then
  M.bind (ldL .sl (a1.plus 4)) fun (x0:Sl) =>
  M.bind (idxA x0 a0 9) fun x1 =>
  M.bind (ldLs [li,li,li,li,li,li,li,.bool,.bool] x1) fun (x2:Int×Int×Int×Int×Int×Int×Int×Bool×Bool) =>
  M.bind (newB none T_api_Span [vi 0,vi 0,vi 0,vi 0,vi 0,vi 0,vi 0,Value.bool false,Value.bool false]) fun x3 =>
  M.bind (stN (adr x3) [vi x2.1,vi x2.2.1,vi x2.2.2.1,vi x2.2.2.2.1,vi x2.2.2.2.2.1,vi x2.2.2.2.2.2.1,vi x2.2.2.2.2.2.2.1,Value.bool x2.2.2.2.2.2.2.2.1,Value.bool x2.2.2.2.2.2.2.2.2]) fun x4 =>
  M.bind (reserve 14) fun x5 =>
  M.bind (ldL .sl ((a1.plus 2).plus 0)) fun (x6:Sl) =>
  M.bind (ldL .sl (a1.plus 4)) fun (x7:Sl) =>
  M.bind (ldL (li) ((adr x3).plus 1)) fun (x8:Int) =>
  M.bind (idxA x7 x8 9) fun x9 =>
  M.bind (ldL (li) (x9.plus 0)) fun (x10:Int) =>
  M.bind (idxA x6 x10 5) fun x11 =>
  M.bind (ldLs [li,.str,.bool,.sl,.sl] x11) fun (x12:Int×ByteArray×Bool×Sl×Sl) =>
  M.bind (newB (some (x5+12)) T_api_Node [vi 0,Value.string (ofBytes []),Value.bool false,vsl0,vsl0]) fun x13 =>
  M.bind (stN (adr x13) [vi x12.1,Value.string x12.2.1,Value.bool x12.2.2.1,vsl x12.2.2.2.1,vsl x12.2.2.2.2]) fun x14 =>
  M.bind (ldL (li) ((adr x3).plus 2)) fun (x15:Int) =>
  M.bind (newB none T_api_Step [vi 0,Value.string (ofBytes [])]) fun x16 =>
  M.bind (stN (adr x16) [vi x15,Value.string (ofBytes [])]) fun x17 =>
  M.bind (ldL (li) ((adr x13).plus 0)) fun (x18:Int) =>
  if decide (x18=10) then
   M.bind (ldLs [.sl,li] (a1.plus 2)) fun (x19:Sl×Int) =>
   M.bind (ldL .sl ((adr x13).plus 3)) fun (x20:Sl) =>
   M.bind (ldL (li) ((adr x3).plus 2)) fun (x21:Int) =>
   M.bind (idxA x20 x21 1) fun x22 =>
   M.bind (ldL (li) x22) fun (x23:Int) =>
   M.fail
  else
   M.bind (ldLs [li,.str] (adr x16)) fun (x19:Int×ByteArray) =>
   M.bind (newB none T_api_Step [vi x19.1,Value.string x19.2]) fun x20 =>
   M.bind (rdS a2 2) fun x21 =>
   M.bind (app false { a:=some (adr x20),len:=1,cap:=2 } 2 58 a2.len x21) fun x22 =>
   M.bind (ldL (li) ((adr x3).plus 1)) fun (x23:Int) =>
   G x23 a1 x22
 else
  M.pure a2
def span_Path_L0:Nat→Int→Addr→Sl→M (Sl)
 | 0=>fun _ _ _=>M.fail
 | n+1=>span_Path_L0_B (span_Path_L0 n) n
theorem span_Path_L0_succ (n:Nat):span_Path_L0 (n+1)=span_Path_L0_B (span_Path_L0 n) n:=rfl
def span_Path (n:Nat)(a0:Int×ByteArray×Sl×Int×Sl×Sl)(a1:Int):M (Sl×Int) :=
 M.bind (newB none T_api_Doc [vi a0.1,Value.string a0.2.1,vsl a0.2.2.1,vi a0.2.2.2.1,vsl a0.2.2.2.2.1,vsl a0.2.2.2.2.2]) fun x0 =>
 M.bind (ldLs [li,.str,.sl,li,.sl,.sl] (adr x0)) fun (x1:Int×ByteArray×Sl×Int×Sl×Sl) =>
 M.bind (span_Check n (x1.1,x1.2.1,x1.2.2.1,x1.2.2.2.1,x1.2.2.2.2.1,x1.2.2.2.2.2)) fun x2 =>
 if !decide (x2=0) then
  M.pure (sl0,3)
 else
  if decide (a1<0) then
   M.pure (sl0,2)
  else
   M.bind (ldL .sl ((adr x0).plus 4)) fun (x3:Sl) =>
   if decide ((↑x3.len:Int)≤a1) then
    M.pure (sl0,2)
   else
    M.bind (span_Path_L0 n a1 (adr x0) sl0) fun x4 =>
    M.pure (x4,0)
abbrev q17_E (n:Nat):Ent:=⟨17,[.agg [.int .i64,.str,.sl,.int .i64,.sl,.sl],tyI],[tyL,tyI],fun x=>span_Path n (x.1) (x.2)⟩
abbrev q17_L0_a:List (Nat×Ty):=[(1,tyI),(2,tyA),(6,tyL)]
abbrev q17_L0_w:List Nat:=[1,6,7,8,9,22,23,24,25,26,27,28,29,30,31,32,33,34,35,36,37,38,39,40,41,42,43,44,45,46,47,48,49,50,51,52,53,54,55,56,57,58,59,60,61,62]
abbrev q17_L0_p:Path:=[0,0,1,1,1,1]
abbrev q17_L0_g (n:Nat)(x:TsDen (tys q17_L0_a)):M (Sl):=span_Path_L0 n (x.1) (x.2.1) (x.2.2)
abbrev q17_L0_l (n:Nat):LEnt:=⟨q17_L0_p,q17_L0_a,actL1 q17_L0_a [(6,tyL)] q17_L0_w 0 (q17_L0_g n)⟩
abbrev q17_ct (n:Nat):List Ent:=[q8_E n]
def q17_dr (i:Nat):Option (List (Nat×List Nat)):=cond (Nat.beq i 8) (some [(0,[]),(1,[]),(3,[]),(5,[]),(2,[]),(4,[]),(6,[]),(7,[]),(8,[]),(9,[]),(10,[]),(11,[]),(12,[]),(13,[])]) (cond (Nat.beq i 11) (some [(0,[]),(2,[]),(4,[]),(1,[]),(3,[]),(5,[]),(6,[]),(7,[]),(8,[]),(9,[]),(10,[])]) (none))
abbrev q17_lt (n:Nat):List LEnt:=[q17_L0_l n]
theorem q17_L0_ok (n:Nat){W:Wr}(hW:subW W 64 q17_L0_w=true):LEntOK Tryz.prog (bodyOf Tryz.f17) W (q17_L0_l n) :=
 loop1_t (bodyOf Tryz.f17) q17_L0_p q17_L0_a [(6,tyL)] 0 64 q17_L0_w [] q17_ct (fun _=>[]) (fun _=>[]) q17_dr q17_L0_g (fun _=>[]) (by kernel_rfl) (fun _=>by kernel_rfl) (fun n x=>by kernel_rfl) n (fun m hm=>⟨.nil,(.cons (span_Check_ok m) .nil),.nil,.nil,.nil⟩) hW
theorem span_Path_ok (n:Nat):FnOK Tryz.prog (q17_E n) :=
 fn_t (q17_E n) Tryz.f17 (bodyOf Tryz.f17) [(0,.agg [.int .i64,.str,.sl,.int .i64,.sl,.sl]),(1,tyI)] [] (q17_ct n) [] (q17_lt n) [] q17_dr (by kernel_rfl) (by kernel_rfl) (by kernel_rfl) (by kernel_rfl) (by kernel_rfl) ⟨.nil,(.cons (span_Check_ok n) .nil),.nil,(.cons (q17_L0_ok n (by kernel_rfl)) .nil),.nil⟩ (fun x=>by kernel_rfl)
def span_Text_J0 (n:Nat)(a0:Int)(a1:Addr):M (ByteArray×Int) :=
 M.bind (ldL .str (a1.plus 1)) fun (x0:ByteArray) =>
 M.bind (ldL .sl (a1.plus 4)) fun (x1:Sl) =>
 M.bind (idxA x1 a0 9) fun x2 =>
 M.bind (ldL (li) (x2.plus 3)) fun (x3:Int) =>
 M.bind (ldL .sl (a1.plus 4)) fun (x4:Sl) =>
 M.bind (idxA x4 a0 9) fun x5 =>
 M.bind (ldL (li) (x5.plus 4)) fun (x6:Int) =>
 M.bind (sliceS x0 x3 x6) fun x7 =>
 M.pure (x7,0)
def span_Text (n:Nat)(a0:Int×ByteArray×Sl×Int×Sl×Sl)(a1:Int):M (ByteArray×Int) :=
 M.bind (newB none T_api_Doc [vi a0.1,Value.string a0.2.1,vsl a0.2.2.1,vi a0.2.2.2.1,vsl a0.2.2.2.2.1,vsl a0.2.2.2.2.2]) fun x0 =>
 M.bind (ldLs [li,.str,.sl,li,.sl,.sl] (adr x0)) fun (x1:Int×ByteArray×Sl×Int×Sl×Sl) =>
 M.bind (span_Check n (x1.1,x1.2.1,x1.2.2.1,x1.2.2.2.1,x1.2.2.2.2.1,x1.2.2.2.2.2)) fun x2 =>
 if !decide (x2=0) then
  M.pure ((ofBytes []),3)
 else
  if decide (a1<0) then
   M.pure ((ofBytes []),2)
  else
   M.bind (ldL .sl ((adr x0).plus 4)) fun (x3:Sl) =>
   if decide ((↑x3.len:Int)≤a1) then
    M.pure ((ofBytes []),2)
   else
    span_Text_J0 n a1 (adr x0)
abbrev q18_E (n:Nat):Ent:=⟨18,[.agg [.int .i64,.str,.sl,.int .i64,.sl,.sl],tyI],[tyS,tyI],fun x=>span_Text n (x.1) (x.2)⟩
abbrev q18_ct (n:Nat):List Ent:=[q8_E n]
def q18_dr (i:Nat):Option (List (Nat×List Nat)):=cond (Nat.beq i 5) (some [(0,[]),(2,[]),(4,[]),(8,[]),(10,[]),(1,[]),(3,[]),(5,[]),(6,[]),(7,[]),(9,[]),(11,[]),(12,[]),(13,[]),(14,[]),(15,[]),(16,[])]) (none)
abbrev q18_jt1 (n:Nat):List (JEnt (ByteArray×Int)):=[]
abbrev q18_jt0 (n:Nat):List (JEnt (ByteArray×Int)):=⟨[0,1,1,1],[.code [1,1,1,1]],[(1,tyI),(2,tyA)],fun x=>span_Text_J0 n (x.1) (x.2)⟩::q18_jt1 n
theorem span_Text_ok (n:Nat):FnOK Tryz.prog (q18_E n) :=
 fn_t (q18_E n) Tryz.f18 (bodyOf Tryz.f18) [(0,.agg [.int .i64,.str,.sl,.int .i64,.sl,.sl]),(1,tyI)] [] (q18_ct n) [] [] (q18_jt0 n) q18_dr (by kernel_rfl) (by kernel_rfl) (by kernel_rfl) (by kernel_rfl) (by kernel_rfl) ⟨.nil,(.cons (span_Check_ok n) .nil),.nil,.nil,(.cons (fun x=>by kernel_rfl) .nil)⟩ (fun x=>by kernel_rfl)
def rosettaref13_ints_L0_B (G:Sl→Sl→Int→M ((Unit) ⊕ (Bool)))(n:Nat)(a0:Sl)(a1:Sl)(a2:Int):M ((Unit) ⊕ (Bool)) :=
 if decide (a2<(↑a0.len:Int)) then
  M.bind (idxA a0 a2 1) fun x0 =>
  M.bind (idxA a1 a2 1) fun x1 =>
  M.bind (ldL (li) x0) fun (x2:Int) =>
  M.bind (ldL (li) x1) fun (x3:Int) =>
  if !decide (x2=x3) then
   M.pure (Sum.inr false)
  else
   G a0 a1 (IntKind.i64.wrap (a2+1))
 else
  M.pure (Sum.inl ())
def rosettaref13_ints_L0:Nat→Sl→Sl→Int→M ((Unit) ⊕ (Bool))
 | 0=>fun _ _ _=>M.fail
 | n+1=>rosettaref13_ints_L0_B (rosettaref13_ints_L0 n) n
theorem rosettaref13_ints_L0_succ (n:Nat):rosettaref13_ints_L0 (n+1)=rosettaref13_ints_L0_B (rosettaref13_ints_L0 n) n:=rfl
def rosettaref13_ints (n:Nat)(a0:Sl)(a1:Sl):M (Bool) :=
 if !decide ((↑a0.len:Int)=(↑a1.len:Int)) then
  M.pure false
 else
  M.bind (rosettaref13_ints_L0 n a0 a1 0) (sumElim (fun x0 =>
   M.pure true)
  (fun x0 =>
   M.pure x0))
abbrev q41_E (n:Nat):Ent:=⟨41,[tyL,tyL],[tyB],fun x=>rosettaref13_ints n (x.1) (x.2)⟩
abbrev q41_L0_a:List (Nat×Ty):=[(0,tyL),(1,tyL),(5,tyI)]
abbrev q41_L0_w:List Nat:=[4,5,11,12,13,14,15,16,17,18,19,20,21,22,23,24,25]
abbrev q41_L0_p:Path:=[0,1,0,1,1]
abbrev q41_L0_g (n:Nat)(x:TsDen (tys q41_L0_a)):M ((Unit) ⊕ (Bool)):=rosettaref13_ints_L0 n (x.1) (x.2.1) (x.2.2)
abbrev q41_L0_l (n:Nat):LEnt:=⟨q41_L0_p,q41_L0_a,actL2 q41_L0_a [] [(4,tyB)] q41_L0_w 0 .ret (q41_L0_g n)⟩
def q41_dr (i:Nat):Option (List (Nat×List Nat)):=cond (Nat.beq i 6) (some [(0,[]),(1,[]),(2,[]),(4,[]),(5,[]),(6,[]),(3,[]),(7,[]),(8,[])]) (none)
abbrev q41_lt (n:Nat):List LEnt:=[q41_L0_l n]
theorem q41_L0_ok (n:Nat){W:Wr}(hW:subW W 26 q41_L0_w=true):LEntOK Tryz.prog (bodyOf Tryz.f41) W (q41_L0_l n) :=
 loop2_t (bodyOf Tryz.f41) q41_L0_p q41_L0_a [] [(4,tyB)] 0 .ret 26 q41_L0_w [] (fun _=>[]) (fun _=>[]) (fun _=>[]) q41_dr q41_L0_g (fun _=>[]) (by kernel_rfl) (fun _=>by kernel_rfl) (fun n x=>by kernel_rfl) n (fun m hm=>⟨.nil,.nil,.nil,.nil,.nil⟩) hW
theorem rosettaref13_ints_ok (n:Nat):FnOK Tryz.prog (q41_E n) :=
 fn_t (q41_E n) Tryz.f41 (bodyOf Tryz.f41) [(0,tyL),(1,tyL)] [] [] [] (q41_lt n) [] q41_dr (by kernel_rfl) (by kernel_rfl) (by kernel_rfl) (by kernel_rfl) (by kernel_rfl) ⟨.nil,.nil,.nil,(.cons (q41_L0_ok n (by kernel_rfl)) .nil),.nil⟩ (fun x=>by kernel_rfl)
def rosettaref13_Ints (n:Nat)(a0:Sl)(a1:Sl):M (Bool) :=
 M.bind (rosettaref13_ints n a0 a1) fun x0 =>
 M.pure x0
abbrev q19_E (n:Nat):Ent:=⟨19,[tyL,tyL],[tyB],fun x=>rosettaref13_Ints n (x.1) (x.2)⟩
abbrev q19_ct (n:Nat):List Ent:=[q41_E n]
theorem rosettaref13_Ints_ok (n:Nat):FnOK Tryz.prog (q19_E n) :=
 fn_t (q19_E n) Tryz.f19 (bodyOf Tryz.f19) [(0,tyL),(1,tyL)] [] (q19_ct n) [] [] [] dr0 (by kernel_rfl) (by kernel_rfl) (by kernel_rfl) (by kernel_rfl) (by kernel_rfl) ⟨.nil,(.cons (rosettaref13_ints_ok n) .nil),.nil,.nil,.nil⟩ (fun x=>by kernel_rfl)
def rosettalaw18_awake (n:Nat):M (Bool) :=
 M.bind (rosettalaw18_example n) fun x0 =>
 M.bind (newB none T_api_Doc [vi 0,Value.string (ofBytes []),vsl0,vi 0,vsl0,vsl0]) fun x1 =>
 M.bind (stN (adr x1) [vi x0.1,Value.string x0.2.1,vsl x0.2.2.1,vi x0.2.2.2.1,vsl x0.2.2.2.2.1,vsl x0.2.2.2.2.2]) fun x2 =>
 M.bind (ldLs [li,.str,.sl,li,.sl,.sl] (adr x1)) fun (x3:Int×ByteArray×Sl×Int×Sl×Sl) =>
 M.bind (span_At n (x3.1,x3.2.1,x3.2.2.1,x3.2.2.2.1,x3.2.2.2.2.1,x3.2.2.2.2.2) 4) fun x4 =>
 M.bind (ldLs [li,.str,.sl,li,.sl,.sl] (adr x1)) fun (x5:Int×ByteArray×Sl×Int×Sl×Sl) =>
 M.bind (span_Path n (x5.1,x5.2.1,x5.2.2.1,x5.2.2.2.1,x5.2.2.2.2.1,x5.2.2.2.2.2) 2) fun x6 =>
 M.bind (ldLs [li,.str,.sl,li,.sl,.sl] (adr x1)) fun (x7:Int×ByteArray×Sl×Int×Sl×Sl) =>
 M.bind (span_Text n (x7.1,x7.2.1,x7.2.2.1,x7.2.2.2.1,x7.2.2.2.2.1,x7.2.2.2.2.2) 1) fun x8 =>
 M.bind (ldLs [li,.str,.sl,li,.sl,.sl] (adr x1)) fun (x9:Int×ByteArray×Sl×Int×Sl×Sl) =>
 M.bind (span_Check n (x9.1,x9.2.1,x9.2.2.1,x9.2.2.2.1,x9.2.2.2.2.1,x9.2.2.2.2.2)) fun x10 =>
 if decide (x10=0) then
  if x4.2 then
   if decide (x4.1=2) then
    if decide (x6.2=0) then
     if decide ((↑x6.1.len:Int)=1) then
      M.bind (idxA x6.1 0 2) fun x11 =>
      M.bind (ldLs [li,.str] x11) fun (x12:Int×ByteArray) =>
      if decide (x12.1=1) && (eqS x12.2 (ofBytes []) && true) then
       if decide (x8.2=0) then
        if eqS x8.1 (ofBytes [55]) then
         M.bind (ldLs [li,.str,.sl,li,.sl,.sl] (adr x1)) fun (x13:Int×ByteArray×Sl×Int×Sl×Sl) =>
         M.bind (span_Children n (x13.1,x13.2.1,x13.2.2.1,x13.2.2.2.1,x13.2.2.2.2.1,x13.2.2.2.2.2) 0) fun x14 =>
         M.bind (newB none T_i64 [vi 1,vi 2]) fun x15 =>
         M.bind (rosettaref13_Ints n x14 { a:=some (adr x15),len:=2,cap:=3 }) fun x16 =>
         M.pure x16
        else
         M.pure false
       else
        M.pure false
      else
       M.pure false
     else
      M.pure false
    else
     M.pure false
   else
    M.pure false
  else
   M.pure false
 else
  M.pure false
abbrev q6_E (n:Nat):Ent:=⟨6,[],[tyB],fun _=>rosettalaw18_awake n⟩
abbrev q6_ct (n:Nat):List Ent:=[q8_E n,q9_E n,q10_E n,q16_E n,q17_E n,q18_E n,q19_E n]
theorem rosettalaw18_awake_ok (n:Nat):FnOK Tryz.prog (q6_E n) :=
 fn_t (q6_E n) Tryz.f6 (bodyOf Tryz.f6) [] [] (q6_ct n) [] [] [] dr0 (by kernel_rfl) (by kernel_rfl) (by kernel_rfl) (by kernel_rfl) (by kernel_rfl) ⟨.nil,(.cons (span_Check_ok n) (.cons (span_Children_ok n) (.cons (span_At_ok n) (.cons (rosettalaw18_example_ok n) (.cons (span_Path_ok n) (.cons (span_Text_ok n) (.cons (rosettaref13_Ints_ok n) .nil))))))),.nil,.nil,.nil⟩ (fun x=>by kernel_rfl)
def rosettalaw10_Few_L0_J0_B (G:Addr→Int→Int→Int→M ((Int×Int) ⊕ (Bool)))(n:Nat)(a0:Addr)(a1:Int)(a2:Int)(a3:Int)(a4:Addr):M ((Int×Int) ⊕ (Bool)) :=
 M.bind (ldL .sl (a4.plus 3)) fun (x0:Sl) =>
 M.bind (ldL .sl (a4.plus 4)) fun (x1:Sl) =>
 M.bind (ldL .str (a4.plus 1)) fun (x2:ByteArray) =>
 G a0 (IntKind.i64.wrap (a1+IntKind.i64.wrap ((↑x0.len:Int)+(↑x1.len:Int)))) (IntKind.i64.wrap (a2+(↑(ByteArray.size x2):Int))) (IntKind.i64.wrap (a3+1))
def rosettalaw10_Few_L0_B (G:Addr→Int→Int→Int→M ((Int×Int) ⊕ (Bool)))(n:Nat)(a0:Addr)(a1:Int)(a2:Int)(a3:Int):M ((Int×Int) ⊕ (Bool)) :=
 M.bind (ldL .sl (a0.plus 0)) fun (x0:Sl) =>
 if decide (a3<(↑x0.len:Int)) then
  M.bind (ldL .sl (a0.plus 0)) fun (x1:Sl) =>
  M.bind (idxA x1 a3 5) fun x2 =>
  M.bind (ldLs [li,.str,.bool,.sl,.sl] x2) fun (x3:Int×ByteArray×Bool×Sl×Sl) =>
  M.bind (newB none T_api_Node [vi 0,Value.string (ofBytes []),Value.bool false,vsl0,vsl0]) fun x4 =>
  M.bind (stN (adr x4) [vi x3.1,Value.string x3.2.1,Value.bool x3.2.2.1,vsl x3.2.2.2.1,vsl x3.2.2.2.2]) fun x5 =>
  M.bind (ldL .str ((adr x4).plus 1)) fun (x6:ByteArray) =>
  if decide (100<(↑(ByteArray.size x6):Int)) then
   M.pure (Sum.inr false)
  else
   M.bind (ldL .sl ((adr x4).plus 3)) fun (x7:Sl) =>
   if decide (80<(↑x7.len:Int)) then
    M.pure (Sum.inr false)
   else
    M.bind (ldL .sl ((adr x4).plus 4)) fun (x8:Sl) =>
    if decide (80<(↑x8.len:Int)) then
     M.pure (Sum.inr false)
    else
     rosettalaw10_Few_L0_J0_B G n a0 a1 a2 a3 (adr x4)
 else
  M.pure (Sum.inl (a1,a2))
def rosettalaw10_Few_L0:Nat→Addr→Int→Int→Int→M ((Int×Int) ⊕ (Bool))
 | 0=>fun _ _ _ _=>M.fail
 | n+1=>rosettalaw10_Few_L0_B (rosettalaw10_Few_L0 n) n
theorem rosettalaw10_Few_L0_succ (n:Nat):rosettalaw10_Few_L0 (n+1)=rosettalaw10_Few_L0_B (rosettalaw10_Few_L0 n) n:=rfl
def rosettalaw10_Few_L0_J0 (n:Nat)(a0:Addr)(a1:Int)(a2:Int)(a3:Int)(a4:Addr):M ((Int×Int) ⊕ (Bool)):=rosettalaw10_Few_L0_J0_B (rosettalaw10_Few_L0 n) n a0 a1 a2 a3 a4
def rosettalaw10_Few (n:Nat)(a0:Sl×Int):M (Bool) :=
 M.bind (newB none T_api_Graph [vsl a0.1,vi a0.2]) fun x0 =>
 M.bind (ldL .sl ((adr x0).plus 0)) fun (x1:Sl) =>
 if decide (40<(↑x1.len:Int)) then
  M.pure false
 else
  M.bind (rosettalaw10_Few_L0 n (adr x0) 0 0 0) (sumElim (fun x2 =>
   if decide (x2.1≤240) then
    M.pure (decide (x2.2≤300))
   else
    M.pure false)
  (fun x2 =>
   M.pure x2))
abbrev q12_E (n:Nat):Ent:=⟨12,[.agg [.sl,.int .i64]],[tyB],fun x=>rosettalaw10_Few n x⟩
abbrev q12_L0_a:List (Nat×Ty):=[(1,tyA),(3,tyI),(4,tyI),(5,tyI)]
abbrev q12_L0_w:List Nat:=[2,3,4,5,6,11,12,13,14,15,16,17,18,19,20,21,22,23,24,25,26,27,28,29,30,31,32,33,34,35,36,37,38,39,40,41,42,43,44,45,46,47,48,49,50,51,52]
abbrev q12_L0_p:Path:=[0,1,0,1,1,1]
abbrev q12_L0_g (n:Nat)(x:TsDen (tys q12_L0_a)):M ((Int×Int) ⊕ (Bool)):=rosettalaw10_Few_L0 n (x.1) (x.2.1) (x.2.2.1) (x.2.2.2)
abbrev q12_L0_l (n:Nat):LEnt:=⟨q12_L0_p,q12_L0_a,actL2 q12_L0_a [(3,tyI),(4,tyI)] [(2,tyB)] q12_L0_w 0 .ret (q12_L0_g n)⟩
abbrev q12_L0_jt1 (n:Nat):List (JEnt ((Int×Int) ⊕ (Bool))):=[]
abbrev q12_L0_jt0 (n:Nat):List (JEnt ((Int×Int) ⊕ (Bool))):=⟨[0,1,1,0,0,1,0,0,1,0,1,1,1],[.code [1,1,1,0,0,1,0,0,1,0,1,1,1],.blk 1,.code [1,1,0,0,1,0,1,1,1]],[(1,tyA),(3,tyI),(4,tyI),(5,tyI),(6,tyA)],fun x=>rosettalaw10_Few_L0_J0 n (x.1) (x.2.1) (x.2.2.1) (x.2.2.2.1) (x.2.2.2.2)⟩::q12_L0_jt1 n
abbrev q12_lt (n:Nat):List LEnt:=[q12_L0_l n]
theorem q12_L0_ok (n:Nat){W:Wr}(hW:subW W 59 q12_L0_w=true):LEntOK Tryz.prog (bodyOf Tryz.f12) W (q12_L0_l n) :=
 loop2_t (bodyOf Tryz.f12) q12_L0_p q12_L0_a [(3,tyI),(4,tyI)] [(2,tyB)] 0 .ret 59 q12_L0_w [] (fun _=>[]) (fun _=>[]) (fun _=>[]) dr0 q12_L0_g q12_L0_jt0 (by kernel_rfl) (fun _=>by kernel_rfl) (fun n x=>by kernel_rfl) n (fun m hm=>⟨.nil,.nil,.nil,.nil,(.cons (fun x=>by kernel_rfl) .nil)⟩) hW
theorem rosettalaw10_Few_ok (n:Nat):FnOK Tryz.prog (q12_E n) :=
 fn_t (q12_E n) Tryz.f12 (bodyOf Tryz.f12) [(0,.agg [.sl,.int .i64])] [] [] [] (q12_lt n) [] dr0 (by kernel_rfl) (by kernel_rfl) (by kernel_rfl) (by kernel_rfl) (by kernel_rfl) ⟨.nil,.nil,.nil,(.cons (q12_L0_ok n (by kernel_rfl)) .nil),.nil⟩ (fun x=>by kernel_rfl)
def rosettalaw18_Few (n:Nat)(a0:Int×ByteArray×Sl×Int×Sl×Sl):M (Bool) :=
 M.bind (newB none T_api_Doc [vi a0.1,Value.string a0.2.1,vsl a0.2.2.1,vi a0.2.2.2.1,vsl a0.2.2.2.2.1,vsl a0.2.2.2.2.2]) fun x0 =>
 M.bind (ldLs [.sl,li] ((adr x0).plus 2)) fun (x1:Sl×Int) =>
 M.bind (rosettalaw10_Few n (x1.1,x1.2)) fun x2 =>
 if x2 then
  M.bind (ldL .str ((adr x0).plus 1)) fun (x3:ByteArray) =>
  if decide ((↑(ByteArray.size x3):Int)≤2000) then
   M.bind (ldL .sl ((adr x0).plus 4)) fun (x4:Sl) =>
   if decide ((↑x4.len:Int)≤60) then
    M.bind (ldL .sl ((adr x0).plus 5)) fun (x5:Sl) =>
    M.pure (decide ((↑x5.len:Int)≤40))
   else
    M.pure false
  else
   M.pure false
 else
  M.pure false
abbrev q7_E (n:Nat):Ent:=⟨7,[.agg [.int .i64,.str,.sl,.int .i64,.sl,.sl]],[tyB],fun x=>rosettalaw18_Few n x⟩
abbrev q7_ct (n:Nat):List Ent:=[q12_E n]
theorem rosettalaw18_Few_ok (n:Nat):FnOK Tryz.prog (q7_E n) :=
 fn_t (q7_E n) Tryz.f7 (bodyOf Tryz.f7) [(0,.agg [.int .i64,.str,.sl,.int .i64,.sl,.sl])] [] (q7_ct n) [] [] [] dr0 (by kernel_rfl) (by kernel_rfl) (by kernel_rfl) (by kernel_rfl) (by kernel_rfl) ⟨.nil,(.cons (rosettalaw10_Few_ok n) .nil),.nil,.nil,.nil⟩ (fun x=>by kernel_rfl)
def rosettalaw18_SpanNests_L1_J0_B (G:Int→Addr→Int→Bool→Bool→Int→M ((Bool) ⊕ (Bool)))(n:Nat)(a0:Int)(a1:Addr)(a2:Int)(a3:Bool)(a4:Bool)(a5:Int)(a6:Addr):M ((Bool) ⊕ (Bool)) :=
 if !a3 then
  M.pure (Sum.inr false)
 else
  M.bind (ldL (li) (a6.plus 3)) fun (x0:Int) =>
  M.bind (ldL .sl (a1.plus 4)) fun (x1:Sl) =>
  M.bind (idxA x1 a2 9) fun x2 =>
  M.bind (ldL (li) (x2.plus 3)) fun (x3:Int) =>
  if decide (x3<x0) then
   M.pure (Sum.inr false)
  else
   M.bind (ldL (li) (a6.plus 4)) fun (x4:Int) =>
   M.bind (ldL .sl (a1.plus 4)) fun (x5:Sl) =>
   M.bind (idxA x5 a2 9) fun x6 =>
   M.bind (ldL (li) (x6.plus 4)) fun (x7:Int) =>
   if decide (x4<x7) then
    M.pure (Sum.inr false)
   else
    G a0 a1 a2 a3 true (IntKind.i64.wrap (a5+1))
def rosettalaw18_SpanNests_L1_B (G:Int→Addr→Int→Bool→Bool→Int→M ((Bool) ⊕ (Bool)))(n:Nat)(a0:Int)(a1:Addr)(a2:Int)(a3:Bool)(a4:Bool)(a5:Int):M ((Bool) ⊕ (Bool)) :=
 M.bind (ldL .sl (a1.plus 4)) fun (x0:Sl) =>
 if decide (a5<(↑x0.len:Int)) then
  M.bind (ldL .sl (a1.plus 4)) fun (x1:Sl) =>
  M.bind (idxA x1 a5 9) fun x2 =>
  M.bind (ldLs [li,li,li,li,li,li,li,.bool,.bool] x2) fun (x3:Int×Int×Int×Int×Int×Int×Int×Bool×Bool) =>
  M.bind (newB none T_api_Span [vi 0,vi 0,vi 0,vi 0,vi 0,vi 0,vi 0,Value.bool false,Value.bool false]) fun x4 =>
  M.bind (stN (adr x4) [vi x3.1,vi x3.2.1,vi x3.2.2.1,vi x3.2.2.2.1,vi x3.2.2.2.2.1,vi x3.2.2.2.2.2.1,vi x3.2.2.2.2.2.2.1,Value.bool x3.2.2.2.2.2.2.2.1,Value.bool x3.2.2.2.2.2.2.2.2]) fun x5 =>
  M.bind (ldL (li) ((adr x4).plus 3)) fun (x6:Int) =>
  if decide (x6≤a0) then
   M.bind (ldL (li) ((adr x4).plus 4)) fun (x7:Int) =>
   if decide (a0<x7) then
    rosettalaw18_SpanNests_L1_J0_B G n a0 a1 a2 a3 a4 a5 (adr x4)
   else
    G a0 a1 a2 a3 a4 (IntKind.i64.wrap (a5+1))
  else
   G a0 a1 a2 a3 a4 (IntKind.i64.wrap (a5+1))
 else
  M.pure (Sum.inl a4)
def rosettalaw18_SpanNests_L1:Nat→Int→Addr→Int→Bool→Bool→Int→M ((Bool) ⊕ (Bool))
 | 0=>fun _ _ _ _ _ _=>M.fail
 | n+1=>rosettalaw18_SpanNests_L1_B (rosettalaw18_SpanNests_L1 n) n
theorem rosettalaw18_SpanNests_L1_succ (n:Nat):rosettalaw18_SpanNests_L1 (n+1)=rosettalaw18_SpanNests_L1_B (rosettalaw18_SpanNests_L1 n) n:=rfl
def rosettalaw18_SpanNests_L1_J0 (n:Nat)(a0:Int)(a1:Addr)(a2:Int)(a3:Bool)(a4:Bool)(a5:Int)(a6:Addr):M ((Bool) ⊕ (Bool)):=rosettalaw18_SpanNests_L1_J0_B (rosettalaw18_SpanNests_L1 n) n a0 a1 a2 a3 a4 a5 a6
def rosettalaw18_SpanNests_L0_B (G:Int→Addr→Int→M ((Unit) ⊕ (Bool)))(n:Nat)(a0:Int)(a1:Addr)(a2:Int):M ((Unit) ⊕ (Bool)) :=
 M.bind (ldL .sl (a1.plus 4)) fun (x0:Sl) =>
 if decide (a2<(↑x0.len:Int)) then
  M.bind (ldL .sl (a1.plus 4)) fun (x1:Sl) =>
  M.bind (idxA x1 a2 9) fun x2 =>
  M.bind (ldL .bool (x2.plus 8)) fun (x3:Bool) =>
  if !x3 then
   M.bind (ldLs [li,.str,.sl,li,.sl,.sl] a1) fun (x4:Int×ByteArray×Sl×Int×Sl×Sl) =>
   M.bind (span_Children n (x4.1,x4.2.1,x4.2.2.1,x4.2.2.2.1,x4.2.2.2.2.1,x4.2.2.2.2.2) a2) fun x5 =>
   if decide (0<(↑x5.len:Int)) then
    M.pure (Sum.inr true)
   else
    G a0 a1 (IntKind.i64.wrap (a2+1))
  else
   G a0 a1 (IntKind.i64.wrap (a2+1))
 else
  M.pure (Sum.inl ())
def rosettalaw18_SpanNests_L0:Nat→Int→Addr→Int→M ((Unit) ⊕ (Bool))
 | 0=>fun _ _ _=>M.fail
 | n+1=>rosettalaw18_SpanNests_L0_B (rosettalaw18_SpanNests_L0 n) n
theorem rosettalaw18_SpanNests_L0_succ (n:Nat):rosettalaw18_SpanNests_L0 (n+1)=rosettalaw18_SpanNests_L0_B (rosettalaw18_SpanNests_L0 n) n:=rfl
def rosettalaw18_SpanNests_J0 (n:Nat)(a0:Int)(a1:Addr):M (Bool) :=
 M.bind (rosettalaw18_SpanNests_L0 n a0 a1 0) (sumElim (fun x0 =>
  M.bind (ldLs [li,.str,.sl,li,.sl,.sl] a1) fun (x1:Int×ByteArray×Sl×Int×Sl×Sl) =>
  M.bind (span_At n (x1.1,x1.2.1,x1.2.2.1,x1.2.2.2.1,x1.2.2.2.2.1,x1.2.2.2.2.2) a0) fun x2 =>
  M.bind (rosettalaw18_SpanNests_L1 n a0 a1 x2.1 x2.2 false 0) (sumElim (fun x3 =>
   M.pure (x2.2 == x3))
  (fun x3 =>
   M.pure x3)))
 (fun x0 =>
  M.pure x0))
def rosettalaw18_SpanNests (n:Nat)(a0:Int×ByteArray×Sl×Int×Sl×Sl)(a1:Int):M (Bool) :=
 M.bind (newB none T_api_Doc [vi a0.1,Value.string a0.2.1,vsl a0.2.2.1,vi a0.2.2.2.1,vsl a0.2.2.2.2.1,vsl a0.2.2.2.2.2]) fun x0 =>
 M.bind (rosettalaw18_awake n) fun x1 =>
 if !x1 then
  M.pure false
 else
  M.bind (ldLs [li,.str,.sl,li,.sl,.sl] (adr x0)) fun (x2:Int×ByteArray×Sl×Int×Sl×Sl) =>
  M.bind (rosettalaw18_Few n (x2.1,x2.2.1,x2.2.2.1,x2.2.2.2.1,x2.2.2.2.2.1,x2.2.2.2.2.2)) fun x3 =>
  if !x3 then
   M.pure true
  else
   M.bind (ldLs [li,.str,.sl,li,.sl,.sl] (adr x0)) fun (x4:Int×ByteArray×Sl×Int×Sl×Sl) =>
   M.bind (span_Check n (x4.1,x4.2.1,x4.2.2.1,x4.2.2.2.1,x4.2.2.2.2.1,x4.2.2.2.2.2)) fun x5 =>
   if !decide (x5=0) then
    M.pure true
   else
    rosettalaw18_SpanNests_J0 n a1 (adr x0)
abbrev q3_E (n:Nat):Ent:=⟨3,[.agg [.int .i64,.str,.sl,.int .i64,.sl,.sl],tyI],[tyB],fun x=>rosettalaw18_SpanNests n (x.1) (x.2)⟩
abbrev q3_L0_a:List (Nat×Ty):=[(1,tyI),(2,tyA),(5,tyI)]
abbrev q3_L0_w:List Nat:=[4,5,21,22,23,24,25,26,27,28,29,30,31,32,33,34,35,36,37,38,39,40,41]
abbrev q3_L0_p:Path:=[0,1,0,1,1,1]
abbrev q3_L0_g (n:Nat)(x:TsDen (tys q3_L0_a)):M ((Unit) ⊕ (Bool)):=rosettalaw18_SpanNests_L0 n (x.1) (x.2.1) (x.2.2)
abbrev q3_L0_l (n:Nat):LEnt:=⟨q3_L0_p,q3_L0_a,actL2 q3_L0_a [] [(4,tyB)] q3_L0_w 0 .ret (q3_L0_g n)⟩
abbrev q3_L1_a:List (Nat×Ty):=[(1,tyI),(2,tyA),(6,tyI),(7,tyB),(8,tyB),(9,tyI)]
abbrev q3_L1_w:List Nat:=[4,8,9,10,48,49,50,51,52,53,54,55,56,57,58,59,60,61,62,63,64,65,66,67,68,69,70,71,72,73,74,75,76,77,78,79,80,81,82,83,84,85,86,87,88,89,90,91,92,93]
abbrev q3_L1_p:Path:=[0,1,0,1,1,1,1,1,1]
abbrev q3_L1_g (n:Nat)(x:TsDen (tys q3_L1_a)):M ((Bool) ⊕ (Bool)):=rosettalaw18_SpanNests_L1 n (x.1) (x.2.1) (x.2.2.1) (x.2.2.2.1) (x.2.2.2.2.1) (x.2.2.2.2.2)
abbrev q3_L1_l (n:Nat):LEnt:=⟨q3_L1_p,q3_L1_a,actL2 q3_L1_a [(8,tyB)] [(4,tyB)] q3_L1_w 2 .ret (q3_L1_g n)⟩
abbrev q3_ct (n:Nat):List Ent:=[q6_E n,q7_E n,q8_E n,q9_E n,q10_E n]
def q3_dr (i:Nat):Option (List (Nat×List Nat)):=cond (Nat.beq i 18) (some [(0,[]),(1,[]),(2,[]),(3,[]),(5,[]),(7,[]),(4,[]),(6,[]),(8,[]),(9,[]),(10,[]),(11,[]),(12,[]),(13,[]),(14,[]),(16,[]),(18,[]),(15,[]),(17,[]),(19,[]),(20,[]),(21,[]),(22,[]),(23,[])]) (none)
abbrev q3_L1_jt1 (n:Nat):List (JEnt ((Bool) ⊕ (Bool))):=[]
abbrev q3_L1_jt0 (n:Nat):List (JEnt ((Bool) ⊕ (Bool))):=⟨[0,0,1,1,0,0,1,0,0,1,0,1,1,1,1,1,1],[.code [1,0,1,1,0,0,1,0,0,1,0,1,1,1,1,1,1],.blk 3,.code [1,1,0,0,1,0,1,1,1,1,1,1]],[(1,tyI),(2,tyA),(6,tyI),(7,tyB),(8,tyB),(9,tyI),(10,tyA)],fun x=>rosettalaw18_SpanNests_L1_J0 n (x.1) (x.2.1) (x.2.2.1) (x.2.2.2.1) (x.2.2.2.2.1) (x.2.2.2.2.2.1) (x.2.2.2.2.2.2)⟩::q3_L1_jt1 n
abbrev q3_lt (n:Nat):List LEnt:=[q3_L0_l n,q3_L1_l n]
abbrev q3_jt1 (n:Nat):List (JEnt (Bool)):=[]
abbrev q3_jt0 (n:Nat):List (JEnt (Bool)):=⟨[0,0,1,1,1],[.code [1,0,1,1,1],.code [1,1,1,1]],[(1,tyI),(2,tyA)],fun x=>rosettalaw18_SpanNests_J0 n (x.1) (x.2)⟩::q3_jt1 n
theorem q3_L1_ok (n:Nat){W:Wr}(hW:subW W 97 q3_L1_w=true):LEntOK Tryz.prog (bodyOf Tryz.f3) W (q3_L1_l n) :=
 loop2_t (bodyOf Tryz.f3) q3_L1_p q3_L1_a [(8,tyB)] [(4,tyB)] 2 .ret 97 q3_L1_w [] q3_ct (fun _=>[]) (fun _=>[]) q3_dr q3_L1_g q3_L1_jt0 (by kernel_rfl) (fun _=>by kernel_rfl) (fun n x=>by kernel_rfl) n (fun m hm=>⟨.nil,(.cons (rosettalaw18_awake_ok m) (.cons (rosettalaw18_Few_ok m) (.cons (span_Check_ok m) (.cons (span_Children_ok m) (.cons (span_At_ok m) .nil))))),.nil,.nil,(.cons (fun x=>by kernel_rfl) .nil)⟩) hW
theorem q3_L0_ok (n:Nat){W:Wr}(hW:subW W 97 q3_L0_w=true):LEntOK Tryz.prog (bodyOf Tryz.f3) W (q3_L0_l n) :=
 loop2_t (bodyOf Tryz.f3) q3_L0_p q3_L0_a [] [(4,tyB)] 0 .ret 97 q3_L0_w [] q3_ct (fun _=>[]) (fun _=>[]) q3_dr q3_L0_g (fun _=>[]) (by kernel_rfl) (fun _=>by kernel_rfl) (fun n x=>by kernel_rfl) n (fun m hm=>⟨.nil,(.cons (rosettalaw18_awake_ok m) (.cons (rosettalaw18_Few_ok m) (.cons (span_Check_ok m) (.cons (span_Children_ok m) (.cons (span_At_ok m) .nil))))),.nil,.nil,.nil⟩) hW
theorem rosettalaw18_SpanNests_ok (n:Nat):FnOK Tryz.prog (q3_E n) :=
 fn_t (q3_E n) Tryz.f3 (bodyOf Tryz.f3) [(0,.agg [.int .i64,.str,.sl,.int .i64,.sl,.sl]),(1,tyI)] [] (q3_ct n) [] (q3_lt n) (q3_jt0 n) q3_dr (by kernel_rfl) (by kernel_rfl) (by kernel_rfl) (by kernel_rfl) (by kernel_rfl) ⟨.nil,(.cons (rosettalaw18_awake_ok n) (.cons (rosettalaw18_Few_ok n) (.cons (span_Check_ok n) (.cons (span_Children_ok n) (.cons (span_At_ok n) .nil))))),.nil,(.cons (q3_L0_ok n (by kernel_rfl)) (.cons (q3_L1_ok n (by kernel_rfl)) .nil)),(.cons (fun x=>by kernel_rfl) .nil)⟩ (fun x=>by kernel_rfl)
end Go.Sh
