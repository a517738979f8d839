
import Derived.Test.YtlbigfjnapgioaaGreatDoorSh2
import Derived.Test.YtlbigfjnapgioaaGreatDoorMo
set_option maxRecDepth 100000
set_option maxHeartbeats 0
set_option linter.all false
namespace Go.Sh
open Go Go.Ago Go.Proofs
def canon_Compare_J0 (n : Nat) (a0 : Addr) (a1 : Addr) : M (Int × Int) :=
 M.bind (reserve 12) fun x0 =>
 M.bind (ldLs [.sl,li] a0) fun (x1 : Sl × Int) =>
 M.bind (ldL (li) (a0.plus 1)) fun (x2 : Int) =>
 M.bind (ldLs [.sl,li] a1) fun (x3 : Sl × Int) =>
 M.bind (ldL (li) (a1.plus 1)) fun (x4 : Int) =>
 M.bind (mpNewAt (x0 + 8) T_ar2_i64) fun x5 =>
 M.bind (chk [some (a0.plus 1),some a1,some (a1.plus 1)] (canon_of n (x1.1,x1.2))) fun x6 =>
 M.bind (chk [some (a0.plus 1),some (a1.plus 1)] (canon_of n (x3.1,x3.2))) fun x7 =>
 M.bind (canon_compare n x6 x2 x7 x4 (some x5)) fun x8 =>
 M.pure (x8,0)
def canon_Compare (n : Nat) (a0 : Sl × Int) (a1 : Sl × Int) : M (Int × Int) :=
 M.bind (newB none T_api_Graph [vsl a0.1,vi a0.2]) fun x0 =>
 M.bind (newB none T_api_Graph [vsl a1.1,vi a1.2]) fun x1 =>
 M.bind (ldLs [.sl,li] (adr x0)) fun (x2 : Sl × Int) =>
 M.bind (graph_Check n (x2.1,x2.2)) fun x3 =>
 if !decide (x3 = 0) then
  M.pure (0,3)
 else
  M.bind (ldLs [.sl,li] (adr x1)) fun (x4 : Sl × Int) =>
  M.bind (graph_Check n (x4.1,x4.2)) fun x5 =>
  if !decide (x5 = 0) then
   M.pure (0,3)
  else
   M.bind (ldLs [.sl,li] (adr x0)) fun (x6 : Sl × Int) =>
   M.bind (canon_acyclic n (x6.1,x6.2)) fun x7 =>
   if !decide (x7 = 0) then
    M.pure (0,14)
   else
    M.bind (ldLs [.sl,li] (adr x1)) fun (x8 : Sl × Int) =>
    M.bind (canon_acyclic n (x8.1,x8.2)) fun x9 =>
    if !decide (x9 = 0) then
     M.pure (0,14)
    else
     canon_Compare_J0 n (adr x0) (adr x1)
abbrev q121_E (n : Nat) : Ent:=⟨121,[.agg [.sl,.int .i64],.agg [.sl,.int .i64]],[tyI,tyI],fun x=>canon_Compare n (x.1) (x.2)⟩
abbrev q121_dt (n : Nat) : List DEnt:=[]
abbrev q121_ct (n : Nat) : List Ent:=[q15_E n,q70_E n,q108_E n,q145_E n]
def q121_dr (i : Nat) : Option (List (Nat × List Nat)):=cond (Nat.beq i 5) (some [(2,[]),(6,[]),(0,[]),(3,[]),(4,[]),(7,[]),(8,[]),(1,[3,4,7]),(5,[3,7]),(9,[]),(10,[]),(11,[])]) (none)
abbrev q121_jt1 (n : Nat) : List (JEnt (Int × Int)):=[]
abbrev q121_jt0 (n : Nat) : List (JEnt (Int × Int)):=⟨[0,1,1,1],[.code [1,1,1,1]],[(2,tyA),(3,tyA)],fun x=>canon_Compare_J0 n (x.1) (x.2)⟩ :: q121_jt1 n
theorem canon_Compare_mo (n : Nat) : AllMo (q121_ct n) [70]:=AllMo.one (e:=q70_E n) (fun x=>canon_of_anti n x) (lookS_find (by kernel_rfl))
theorem canon_Compare_ok (n : Nat) : FnOK Tryz.prog (q121_E n) :=
 fn_t (q121_E n) Tryz.f121 (bodyOf Tryz.f121) [(0,.agg [.sl,.int .i64]),(1,.agg [.sl,.int .i64])] [70] (q121_ct n) (q121_dt n) [] (q121_jt0 n) q121_dr (by kernel_rfl) (by kernel_rfl) (by kernel_rfl) (by kernel_rfl) (by kernel_rfl) ⟨(canon_Compare_mo n),(.cons (graph_Check_ok n) (.cons (canon_of_ok n) (.cons (canon_compare_ok n) (.cons (canon_acyclic_ok n) .nil)))),.nil,.nil,(.cons (fun x=>by kernel_rfl) .nil)⟩ (fun x=>by kernel_rfl)
def share_sorted_1 (n : Nat) (a0 : Int) (a1 : Int) (a2 : Addr) : M (Bool) :=
 M.bind (ldL .sl a2) fun (x0 : Sl) =>
 M.bind (idxA x0 a0 2) fun x1 =>
 M.bind (ldLs [.sl,li] x1) fun (x2 : Sl × Int) =>
 M.bind (ldL .sl a2) fun (x3 : Sl) =>
 M.bind (idxA x3 a1 2) fun x4 =>
 M.bind (ldLs [.sl,li] x4) fun (x5 : Sl × Int) =>
 M.bind (canon_Compare n (x2.1,x2.2) (x5.1,x5.2)) fun x6 =>
 M.pure (decide (x6.1 < 0))
abbrev q120_E (n : Nat) : Ent:=⟨120,[tyI,tyI,tyA],[tyB],fun x=>share_sorted_1 n (x.1) (x.2.1) (x.2.2)⟩
abbrev q120_dt (n : Nat) : List DEnt:=[]
abbrev q120_ct (n : Nat) : List Ent:=[q121_E n]
def q120_dr (i : Nat) : Option (List (Nat × List Nat)):=cond (Nat.beq i 1) (some [(1,[]),(5,[]),(0,[]),(2,[]),(3,[]),(4,[]),(6,[]),(7,[]),(8,[]),(9,[]),(10,[]),(11,[]),(12,[]),(13,[])]) (none)
theorem share_sorted_1_ok (n : Nat) : FnOK Tryz.prog (q120_E n) :=
 fn_t (q120_E n) Tryz.f120 (bodyOf Tryz.f120) [(0,tyI),(1,tyI),(2,tyA)] [] (q120_ct n) (q120_dt n) [] [] q120_dr (by kernel_rfl) (by kernel_rfl) (by kernel_rfl) (by kernel_rfl) (by kernel_rfl) ⟨.nil,(.cons (canon_Compare_ok n) .nil),.nil,.nil,.nil⟩ (fun x=>by kernel_rfl)
structure Cl_share_merge where
 share_merge_L0 : Sl → Value → Sl → Sl → Int → Int → M (Unit)
 share_merge : Sl → Value → M (Unit)
def share_merge_D43_B (G : Cl_share_merge) (n : Nat) (x : Value) (a0 : Int) (a1 : Int) : M (Bool) :=
 if isFn F_share_sorted_1 x then
  M.bind (asFn [tyA] x) fun (c : Addr)=>share_sorted_1 n a0 a1 (c)
 else M.fail
def share_merge_L0_J1_B (G : Cl_share_merge) (n : Nat) (a0 : Sl) (a1 : Value) (a2 : Sl) (a3 : Sl) (a4 : Int) (a5 : Int) (a6 : Int) : M (Unit) :=
 M.bind (idxA a2 0 1) fun x0 =>
 M.bind (ldL (li) x0) fun (x1 : Int) =>
 M.bind (idxA a0 a4 1) fun x2 =>
 M.bind (sliceL a2 1 (↑a2.len : Int) T_i64 1) fun x3 =>
 M.bind (chk [a2.a] (stN x2 [vi x1])) fun x4 =>
 G.share_merge_L0 a0 a1 x3 a3 a5 (IntKind.i64.wrap (a6 + 1))
def share_merge_L0_J0_B (G : Cl_share_merge) (n : Nat) (a0 : Sl) (a1 : Value) (a2 : Sl) (a3 : Sl) (a4 : Int) (a5 : Int) (a6 : Int) : M (Unit) :=
 M.bind (idxA a3 0 1) fun x0 =>
 M.bind (ldL (li) x0) fun (x1 : Int) =>
 M.bind (idxA a0 a4 1) fun x2 =>
 M.bind (sliceL a3 1 (↑a3.len : Int) T_i64 1) fun x3 =>
 M.bind (chk [a3.a] (stN x2 [vi x1])) fun x4 =>
 G.share_merge_L0 a0 a1 a2 x3 a5 (IntKind.i64.wrap (a6 + 1))
def share_merge_L0_B (G : Cl_share_merge) (n : Nat) (a0 : Sl) (a1 : Value) (a2 : Sl) (a3 : Sl) (a4 : Int) (a5 : Int) : M (Unit) :=
 if decide (a5 < a4) then
  if decide ((↑a3.len : Int) = 0) then
   share_merge_L0_J1_B G n a0 a1 a2 a3 a5 a4 a5
  else
   if decide (0 < (↑a2.len : Int)) then
    M.bind (idxA a3 0 1) fun x0 =>
    M.bind (idxA a2 0 1) fun x1 =>
    M.bind (ldL (li) x0) fun (x2 : Int) =>
    M.bind (ldL (li) x1) fun (x3 : Int) =>
    M.bind (share_merge_D43_B G n a1 x2 x3) fun x4 =>
    if !x4 then
     share_merge_L0_J1_B G n a0 a1 a2 a3 a5 a4 a5
    else
     share_merge_L0_J0_B G n a0 a1 a2 a3 a5 a4 a5
   else
    share_merge_L0_J0_B G n a0 a1 a2 a3 a5 a4 a5
 else
  M.pure ()
def share_merge_B (G : Cl_share_merge) (n : Nat) (a0 : Sl) (a1 : Value) : M (Unit) :=
 if decide ((↑a0.len : Int) < 2) then
  M.pure ()
 else
  M.bind (newB none T_i64 []) fun x0 =>
  M.bind (ckM (decide (2 ≠ 0))) fun x1 =>
  M.bind (sliceL a0 0 (IntKind.i64.wrap ((↑a0.len : Int).tdiv 2)) T_i64 1) fun x2 =>
  M.bind (rdS x2 1) fun x3 =>
  M.bind (app false { a:=some (adr x0),len:=0,cap:=1 } 1 3 x2.len x3) fun x4 =>
  M.bind (newB none T_i64 []) fun x5 =>
  M.bind (ckM (decide (2 ≠ 0))) fun x6 =>
  M.bind (sliceL a0 (IntKind.i64.wrap ((↑a0.len : Int).tdiv 2)) (↑a0.len : Int) T_i64 1) fun x7 =>
  M.bind (rdS x7 1) fun x8 =>
  M.bind (app false { a:=some (adr x5),len:=0,cap:=1 } 1 3 x7.len x8) fun x9 =>
  M.bind (G.share_merge x4 a1) fun x10 =>
  M.bind (G.share_merge x9 a1) fun x11 =>
  M.bind (G.share_merge_L0 a0 a1 x4 x9 (↑a0.len : Int) 0) fun x12 =>
  M.pure ()
def Cl_share_merge.at : Nat → Cl_share_merge
 | 0=>⟨fun _ _ _ _ _ _=>M.fail,fun _ _=>M.fail⟩
 | n + 1=>⟨share_merge_L0_B (Cl_share_merge.at n) n,share_merge_B (Cl_share_merge.at n) n⟩
def share_merge_L0 (n : Nat) (a0 : Sl) (a1 : Value) (a2 : Sl) (a3 : Sl) (a4 : Int) (a5 : Int) : M (Unit):=(Cl_share_merge.at n).share_merge_L0 a0 a1 a2 a3 a4 a5
theorem share_merge_L0_succ (n : Nat) (a0 : Sl) (a1 : Value) (a2 : Sl) (a3 : Sl) (a4 : Int) (a5 : Int) : share_merge_L0 (n + 1) a0 a1 a2 a3 a4 a5 = share_merge_L0_B (Cl_share_merge.at n) n a0 a1 a2 a3 a4 a5:=rfl
def share_merge (n : Nat) (a0 : Sl) (a1 : Value) : M (Unit):=(Cl_share_merge.at n).share_merge a0 a1
theorem share_merge_succ (n : Nat) (a0 : Sl) (a1 : Value) : share_merge (n + 1) a0 a1 = share_merge_B (Cl_share_merge.at n) n a0 a1:=rfl
def share_merge_D43 (n : Nat) (x : Value) (a0 : Int) (a1 : Int) : M (Bool):=share_merge_D43_B (Cl_share_merge.at n) n x a0 a1
def share_merge_L0_J0 (n : Nat) (a0 : Sl) (a1 : Value) (a2 : Sl) (a3 : Sl) (a4 : Int) (a5 : Int) (a6 : Int) : M (Unit):=share_merge_L0_J0_B (Cl_share_merge.at n) n a0 a1 a2 a3 a4 a5 a6
def share_merge_L0_J1 (n : Nat) (a0 : Sl) (a1 : Value) (a2 : Sl) (a3 : Sl) (a4 : Int) (a5 : Int) (a6 : Int) : M (Unit):=share_merge_L0_J1_B (Cl_share_merge.at n) n a0 a1 a2 a3 a4 a5 a6
abbrev q119_E (n : Nat) : Ent:=⟨119,[tyL,tyR],[],fun x=>share_merge n (x.1) (x.2)⟩
abbrev q119_L0_a : List (Nat × Ty):=[(0,tyL),(1,tyR),(4,tyL),(5,tyL),(31,tyI),(32,tyI)]
abbrev q119_L0_w : List Nat:=[4,5,6,32,33,34,35,36,37,38,39,40,41,42,43,44,45,46,47,48,49,50,51,52,53,54,55,56,57,58,59,60,61,62,63,64,65,66,67,68,69,70]
abbrev q119_L0_p : Path:=[0,1,1,1,1,1,1]
abbrev q119_L0_g (n : Nat) (x : TsDen (tys q119_L0_a)) : M (Unit):=share_merge_L0 n (x.1) (x.2.1) (x.2.2.1) (x.2.2.2.1) (x.2.2.2.2.1) (x.2.2.2.2.2)
abbrev q119_L0_l (n : Nat) : LEnt:=⟨q119_L0_p,q119_L0_a,actL1 q119_L0_a [] q119_L0_w 0 (q119_L0_g n)⟩
abbrev q119_dt (n : Nat) : List DEnt:=[⟨43,[tyI,tyI],[tyB],fun x a=>share_merge_D43 n x (a.1) (a.2)⟩]
abbrev q119_ct (n : Nat) : List Ent:=[q119_E n]
def q119_dr (i : Nat) : Option (List (Nat × List Nat)):=cond (Nat.beq i 8) (some [(0,[]),(1,[]),(2,[]),(3,[]),(4,[]),(5,[]),(6,[]),(7,[]),(8,[]),(9,[]),(10,[]),(12,[]),(13,[]),(11,[]),(14,[]),(15,[]),(16,[]),(17,[]),(18,[])]) (cond (Nat.beq i 9) (some [(0,[]),(1,[]),(2,[]),(3,[]),(5,[]),(4,[]),(7,[]),(6,[]),(8,[6]),(9,[])]) (cond (Nat.beq i 10) (some [(0,[]),(1,[]),(2,[]),(3,[]),(5,[]),(4,[]),(7,[]),(6,[]),(8,[6]),(9,[])]) (none)))
abbrev q119_L0_jt2 (n : Nat) : List (JEnt (Unit)):=[]
abbrev q119_L0_jt1 (n : Nat) : List (JEnt (Unit)):=⟨[0,1,1,0,0,1,1,0,0,1,1,1,1,1,1],[.blk 1,.code [1,1,1,0,0,1,1,1,1,1,1]],[(0,tyL),(1,tyR),(4,tyL),(5,tyL),(6,tyI),(31,tyI),(32,tyI)],fun x=>share_merge_L0_J1 n (x.1) (x.2.1) (x.2.2.1) (x.2.2.2.1) (x.2.2.2.2.1) (x.2.2.2.2.2.1) (x.2.2.2.2.2.2)⟩ :: q119_L0_jt2 n
abbrev q119_L0_jt0 (n : Nat) : List (JEnt (Unit)):=⟨[1,1,1,0,0,1,1,0,0,1,1,1,1,1,1],[.blk 1,.code [1,1,1,0,0,1,1,1,1,1,1]],[(0,tyL),(1,tyR),(4,tyL),(5,tyL),(6,tyI),(31,tyI),(32,tyI)],fun x=>share_merge_L0_J0 n (x.1) (x.2.1) (x.2.2.1) (x.2.2.2.1) (x.2.2.2.2.1) (x.2.2.2.2.2.1) (x.2.2.2.2.2.2)⟩ :: q119_L0_jt1 n
abbrev q119_lt (n : Nat) : List LEnt:=[q119_L0_l n]
def P_share_merge (n : Nat) : Prop:=FnOK Tryz.prog (q119_E n)
theorem q119_L0_ok (n : Nat) (H : ∀ m,m < n → P_share_merge m) {W : Wr} (hW : subW W 71 q119_L0_w = true) : LEntOK Tryz.prog (bodyOf Tryz.f119) W (q119_L0_l n) :=
 loop1_t (bodyOf Tryz.f119) q119_L0_p q119_L0_a [] 0 71 q119_L0_w [] q119_ct q119_dt (fun _=>[]) q119_dr q119_L0_g q119_L0_jt0 (by kernel_rfl) (fun _=>by kernel_rfl) (fun n x=>by kernel_rfl) n (fun m hm=>⟨.nil,(.cons (H m hm) .nil),(.cons (dent_ok (l:=[⟨120,[tyA],fun a c=>share_sorted_1 m (a.1) (a.2) (c)⟩]) (.cons (fun a c=>callOK_cast (by kernel_rfl) ((share_sorted_1_ok m) (a.1,a.2,c))) .nil) (fun x a=>by kernel_rfl)) .nil),.nil,(.cons (fun x=>by kernel_rfl) (.cons (fun x=>by kernel_rfl) .nil))⟩) hW
theorem share_merge_ok_step (n : Nat) (H : ∀ m,m < n + 1 → P_share_merge m) : FnOK Tryz.prog (q119_E (n + 1)) :=
 fn_t (q119_E (n + 1)) Tryz.f119 (bodyOf Tryz.f119) [(0,tyL),(1,tyR)] [] (q119_ct n) (q119_dt n) (q119_lt n) [] q119_dr (by kernel_rfl) (by kernel_rfl) (by kernel_rfl) (by kernel_rfl) (by kernel_rfl) ⟨.nil,(.cons (H n (Nat.lt_succ_self n)) .nil),(.cons (dent_ok (l:=[⟨120,[tyA],fun a c=>share_sorted_1 n (a.1) (a.2) (c)⟩]) (.cons (fun a c=>callOK_cast (by kernel_rfl) ((share_sorted_1_ok n) (a.1,a.2,c))) .nil) (fun x a=>by kernel_rfl)) .nil),(.cons (q119_L0_ok n (fun k hk=>H k (Nat.lt_succ_of_lt hk)) (by kernel_rfl)) .nil),.nil⟩ (fun x=>by kernel_rfl)
theorem P_share_merge_all : ∀ n m,m < n → P_share_merge m:=by
 intro n
 induction n with
 | zero=>intro m hm;exact absurd hm (Nat.not_lt_zero m)
 | succ n ih =>
  intro m hm
  cases m with
  | zero=>exact fn_zero (fn:=Tryz.f119) (by kernel_rfl) (by kernel_rfl) (by kernel_rfl) (fun _=>rfl)
  | succ k=>exact share_merge_ok_step k fun m hm=>ih m (by omega)
theorem share_merge_ok (n : Nat) : FnOK Tryz.prog (q119_E n):=(P_share_merge_all (n + 1) n (Nat.lt_succ_self n))
def share_sorted_L1_B (G : Addr → Sl → Addr → Sl → Int → Int → M (Unit)) (n : Nat) (a0 : Addr) (a1 : Sl) (a2 : Addr) (a3 : Sl) (a4 : Int) (a5 : Int) : M (Unit) :=
 if decide (a5 < a4) then
  M.bind (idxA a3 a5 1) fun x0 =>
  M.bind (ldL (li) x0) fun (x1 : Int) =>
  M.bind (ldL .sl a2) fun (x2 : Sl) =>
  M.bind (ldLs [.sl,li] a0) fun (x3 : Sl × Int) =>
  M.bind (chk [some a2] (share_key n (x3.1,x3.2) x1)) fun x4 =>
  M.bind (idxA x2 a5 2) fun x5 =>
  M.bind (stN x5 [vsl x4.1,vi x4.2]) fun x6 =>
  G a0 a1 a2 a3 a4 (IntKind.i64.wrap (a5 + 1))
 else
  M.pure ()
def share_sorted_L1 : Nat → Addr → Sl → Addr → Sl → Int → Int → M (Unit)
 | 0=>fun _ _ _ _ _ _=>M.fail
 | n + 1=>share_sorted_L1_B (share_sorted_L1 n) n
theorem share_sorted_L1_succ (n : Nat) : share_sorted_L1 (n + 1) = share_sorted_L1_B (share_sorted_L1 n) n:=rfl
def share_sorted_L0_B (G : Addr → Addr → Sl → Int → Int → M (Unit)) (n : Nat) (a0 : Addr) (a1 : Addr) (a2 : Sl) (a3 : Int) (a4 : Int) : M (Unit) :=
 if decide (a4 < a3) then
  M.bind (idxA a2 a4 1) fun x0 =>
  M.bind (stN x0 [vi a4]) fun x1 =>
  G a0 a1 a2 a3 (IntKind.i64.wrap (a4 + 1))
 else
  M.pure ()
def share_sorted_L0 : Nat → Addr → Addr → Sl → Int → Int → M (Unit)
 | 0=>fun _ _ _ _ _=>M.fail
 | n + 1=>share_sorted_L0_B (share_sorted_L0 n) n
theorem share_sorted_L0_succ (n : Nat) : share_sorted_L0 (n + 1) = share_sorted_L0_B (share_sorted_L0 n) n:=rfl
def share_sorted_J0 (n : Nat) (a0 : Addr) (a1 : Addr) (a2 : Sl) : M (Sl) :=
 M.bind (ldL .sl (a1.plus 3)) fun (x0 : Sl) =>
 M.bind (mkS none T_api_Graph [vsl0,vi 0] (↑x0.len : Int) (↑x0.len : Int)) fun x1 =>
 M.bind (newB none T_sl_api_Graph [vsl0]) fun x2 =>
 M.bind (stN (adr x2) [vsl x1]) fun x3 =>
 M.bind (ldL .sl (a1.plus 3)) fun (x4 : Sl) =>
 M.bind (share_sorted_L1 n a0 a2 (adr x2) x4 (↑x4.len : Int) 0) fun x5 =>
 M.bind (share_merge n a2 (Value.func (Fn.func F_share_sorted_1) #[] #[Value.pointer (some (adr x2))])) fun x6 =>
 M.pure a2
def share_sorted (n : Nat) (a0 : Sl × Int) (a1 : Int) : M (Sl) :=
 M.bind (newB none T_api_Graph [vsl a0.1,vi a0.2]) fun x0 =>
 M.bind (ldL .sl ((adr x0).plus 0)) fun (x1 : Sl) =>
 M.bind (idxA x1 a1 5) fun x2 =>
 M.bind (ldLs [li,.str,.bool,.sl,.sl] x2) fun (x3 : Int × ByteArray × Bool × Sl × Sl) =>
 M.bind (newB none T_api_Node [vi 0,Value.string (ofBytes []),Value.bool false,vsl0,vsl0]) fun x4 =>
 M.bind (stN (adr x4) [vi x3.1,Value.string x3.2.1,Value.bool x3.2.2.1,vsl x3.2.2.2.1,vsl x3.2.2.2.2]) fun x5 =>
 M.bind (ldL .sl ((adr x4).plus 4)) fun (x6 : Sl) =>
 M.bind (mkS none T_i64 [vi 0] (↑x6.len : Int) (↑x6.len : Int)) fun x7 =>
 M.bind (share_sorted_L0 n (adr x0) (adr x4) x7 (↑x7.len : Int) 0) fun x8 =>
 M.bind (ldL (li) ((adr x4).plus 0)) fun (x9 : Int) =>
 if !decide (x9 = 10) then
  M.pure x7
 else
  M.bind (ldL .bool ((adr x4).plus 2)) fun (x10 : Bool) =>
  if x10 then
   M.pure x7
  else
   share_sorted_J0 n (adr x0) (adr x4) x7
abbrev q88_E (n : Nat) : Ent:=⟨88,[.agg [.sl,.int .i64],tyI],[tyL],fun x=>share_sorted n (x.1) (x.2)⟩
abbrev q88_L0_a : List (Nat × Ty):=[(2,tyA),(5,tyA),(6,tyL),(21,tyI),(22,tyI)]
abbrev q88_L0_w : List Nat:=[7,22,23,24,25,26,27,28,29]
abbrev q88_L0_p : Path:=[0,1,0,1,1,1]
abbrev q88_L0_g (n : Nat) (x : TsDen (tys q88_L0_a)) : M (Unit):=share_sorted_L0 n (x.1) (x.2.1) (x.2.2.1) (x.2.2.2.1) (x.2.2.2.2)
abbrev q88_L0_l (n : Nat) : LEnt:=⟨q88_L0_p,q88_L0_a,actL1 q88_L0_a [] q88_L0_w 0 (q88_L0_g n)⟩
abbrev q88_L1_a : List (Nat × Ty):=[(2,tyA),(6,tyL),(8,tyA),(43,tyL),(44,tyI),(45,tyI)]
abbrev q88_L1_w : List Nat:=[9,10,45,46,47,48,49,50,51,52,53,54,55,56]
abbrev q88_L1_p : Path:=[0,1,0,1,1,1,1,1,1]
abbrev q88_L1_g (n : Nat) (x : TsDen (tys q88_L1_a)) : M (Unit):=share_sorted_L1 n (x.1) (x.2.1) (x.2.2.1) (x.2.2.2.1) (x.2.2.2.2.1) (x.2.2.2.2.2)
abbrev q88_L1_l (n : Nat) : LEnt:=⟨q88_L1_p,q88_L1_a,actL1 q88_L1_a [] q88_L1_w 2 (q88_L1_g n)⟩
abbrev q88_dt (n : Nat) : List DEnt:=[]
abbrev q88_ct (n : Nat) : List Ent:=[q118_E n,q119_E n]
def q88_dr (i : Nat) : Option (List (Nat × List Nat)):=cond (Nat.beq i 14) (some [(1,[]),(3,[]),(0,[]),(2,[]),(4,[0]),(5,[]),(6,[])]) (none)
abbrev q88_lt (n : Nat) : List LEnt:=[q88_L0_l n,q88_L1_l n]
abbrev q88_jt1 (n : Nat) : List (JEnt (Sl)):=[]
abbrev q88_jt0 (n : Nat) : List (JEnt (Sl)):=⟨[0,1,1,1,1,1],[.code [1,1,1,1,1,1]],[(2,tyA),(5,tyA),(6,tyL)],fun x=>share_sorted_J0 n (x.1) (x.2.1) (x.2.2)⟩ :: q88_jt1 n
theorem q88_L1_ok (n : Nat) {W : Wr} (hW : subW W 61 q88_L1_w = true) : LEntOK Tryz.prog (bodyOf Tryz.f88) W (q88_L1_l n) :=
 loop1_t (bodyOf Tryz.f88) q88_L1_p q88_L1_a [] 2 61 q88_L1_w [] q88_ct q88_dt (fun _=>[]) q88_dr q88_L1_g (fun _=>[]) (by kernel_rfl) (fun _=>by kernel_rfl) (fun n x=>by kernel_rfl) n (fun m hm=>⟨.nil,(.cons (share_key_ok m) (.cons (share_merge_ok m) .nil)),.nil,.nil,.nil⟩) hW
theorem q88_L0_ok (n : Nat) {W : Wr} (hW : subW W 61 q88_L0_w = true) : LEntOK Tryz.prog (bodyOf Tryz.f88) W (q88_L0_l n) :=
 loop1_t (bodyOf Tryz.f88) q88_L0_p q88_L0_a [] 0 61 q88_L0_w [] q88_ct q88_dt (fun _=>[]) q88_dr q88_L0_g (fun _=>[]) (by kernel_rfl) (fun _=>by kernel_rfl) (fun n x=>by kernel_rfl) n (fun m hm=>⟨.nil,(.cons (share_key_ok m) (.cons (share_merge_ok m) .nil)),.nil,.nil,.nil⟩) hW
theorem share_sorted_ok (n : Nat) : FnOK Tryz.prog (q88_E n) :=
 fn_t (q88_E n) Tryz.f88 (bodyOf Tryz.f88) [(0,.agg [.sl,.int .i64]),(1,tyI)] [] (q88_ct n) (q88_dt n) (q88_lt n) (q88_jt0 n) q88_dr (by kernel_rfl) (by kernel_rfl) (by kernel_rfl) (by kernel_rfl) (by kernel_rfl) ⟨.nil,(.cons (share_key_ok n) (.cons (share_merge_ok n) .nil)),.nil,(.cons (q88_L0_ok n (by kernel_rfl)) (.cons (q88_L1_ok n (by kernel_rfl)) .nil)),(.cons (fun x=>by kernel_rfl) .nil)⟩ (fun x=>by kernel_rfl)
structure Cl_share_order_1 where
 share_order_1_L0 : Int → Addr → Addr → Addr → Sl → Int → Int → M (Unit)
 share_order_1 : Int → Addr → Addr → Addr → Addr → Addr → M (Unit)
def share_order_1_D44_B (G : Cl_share_order_1) (n : Nat) (x : Value) (a0 : Int) : M (Unit) :=
 if isFn F_share_order_1 x then
  M.bind (asFn [tyA,tyA,tyA,tyA,tyA] x) fun (c : Addr × Addr × Addr × Addr × Addr)=>G.share_order_1 a0 (c.1) (c.2.1) (c.2.2.1) (c.2.2.2.1) (c.2.2.2.2)
 else M.fail
def share_order_1_L0_B (G : Cl_share_order_1) (n : Nat) (a0 : Int) (a1 : Addr) (a2 : Addr) (a3 : Addr) (a4 : Sl) (a5 : Int) (a6 : Int) : M (Unit) :=
 if decide (a6 < a5) then
  M.bind (idxA a4 a6 1) fun x0 =>
  M.bind (ldL (li) x0) fun (x1 : Int) =>
  M.bind (ldL .sl a1) fun (x2 : Sl) =>
  M.bind (ldL .sl (a2.plus 0)) fun (x3 : Sl) =>
  M.bind (idxA x3 a0 5) fun x4 =>
  M.bind (ldL .sl (x4.plus 4)) fun (x5 : Sl) =>
  M.bind (idxA x5 x1 1) fun x6 =>
  M.bind (ldL (li) x6) fun (x7 : Int) =>
  M.bind (idxA x2 x7 1) fun x8 =>
  M.bind (ldL .bool x8) fun (x9 : Bool) =>
  if !x9 then
   M.bind (ldL .raw a3) fun (x10 : Value) =>
   M.bind (ldL .sl (a2.plus 0)) fun (x11 : Sl) =>
   M.bind (idxA x11 a0 5) fun x12 =>
   M.bind (ldL .sl (x12.plus 4)) fun (x13 : Sl) =>
   M.bind (idxA x13 x1 1) fun x14 =>
   M.bind (ldL (li) x14) fun (x15 : Int) =>
   M.bind (share_order_1_D44_B G n x10 x15) fun x16 =>
   G.share_order_1_L0 a0 a1 a2 a3 a4 a5 (IntKind.i64.wrap (a6 + 1))
  else
   G.share_order_1_L0 a0 a1 a2 a3 a4 a5 (IntKind.i64.wrap (a6 + 1))
 else
  M.pure ()
def share_order_1_B (G : Cl_share_order_1) (n : Nat) (a0 : Int) (a1 : Addr) (a2 : Addr) (a3 : Addr) (a4 : Addr) (a5 : Addr) : M (Unit) :=
 M.bind (ldL .sl a1) fun (x0 : Sl) =>
 M.bind (idxA x0 a0 1) fun x1 =>
 M.bind (stN x1 [Value.bool true]) fun x2 =>
 M.bind (ldL .sl a2) fun (x3 : Sl) =>
 M.bind (app false x3 1 T_i64 1 [vi a0]) fun x4 =>
 M.bind (stN a2 [vsl x4]) fun x5 =>
 M.bind (ldL .sl a4) fun (x6 : Sl) =>
 M.bind (ldLs [.sl,li] a3) fun (x7 : Sl × Int) =>
 M.bind (chk [some a4] (share_sorted n (x7.1,x7.2) a0)) fun x8 =>
 M.bind (idxA x6 a0 1) fun x9 =>
 M.bind (stN x9 [vsl x8]) fun x10 =>
 M.bind (ldL .sl a4) fun (x11 : Sl) =>
 M.bind (idxA x11 a0 1) fun x12 =>
 M.bind (ldL .sl x12) fun (x13 : Sl) =>
 M.bind (G.share_order_1_L0 a0 a1 a3 a5 x13 (↑x13.len : Int) 0) fun x14 =>
 M.pure ()
def Cl_share_order_1.at : Nat → Cl_share_order_1
 | 0=>⟨fun _ _ _ _ _ _ _=>M.fail,fun _ _ _ _ _ _=>M.fail⟩
 | n + 1=>⟨share_order_1_L0_B (Cl_share_order_1.at n) n,share_order_1_B (Cl_share_order_1.at n) n⟩
def share_order_1_L0 (n : Nat) (a0 : Int) (a1 : Addr) (a2 : Addr) (a3 : Addr) (a4 : Sl) (a5 : Int) (a6 : Int) : M (Unit):=(Cl_share_order_1.at n).share_order_1_L0 a0 a1 a2 a3 a4 a5 a6
theorem share_order_1_L0_succ (n : Nat) (a0 : Int) (a1 : Addr) (a2 : Addr) (a3 : Addr) (a4 : Sl) (a5 : Int) (a6 : Int) : share_order_1_L0 (n + 1) a0 a1 a2 a3 a4 a5 a6 = share_order_1_L0_B (Cl_share_order_1.at n) n a0 a1 a2 a3 a4 a5 a6:=rfl
def share_order_1 (n : Nat) (a0 : Int) (a1 : Addr) (a2 : Addr) (a3 : Addr) (a4 : Addr) (a5 : Addr) : M (Unit):=(Cl_share_order_1.at n).share_order_1 a0 a1 a2 a3 a4 a5
theorem share_order_1_succ (n : Nat) (a0 : Int) (a1 : Addr) (a2 : Addr) (a3 : Addr) (a4 : Addr) (a5 : Addr) : share_order_1 (n + 1) a0 a1 a2 a3 a4 a5 = share_order_1_B (Cl_share_order_1.at n) n a0 a1 a2 a3 a4 a5:=rfl
def share_order_1_D44 (n : Nat) (x : Value) (a0 : Int) : M (Unit):=share_order_1_D44_B (Cl_share_order_1.at n) n x a0
abbrev q116_E (n : Nat) : Ent:=⟨116,[tyI,tyA,tyA,tyA,tyA,tyA],[],fun x=>share_order_1 n (x.1) (x.2.1) (x.2.2.1) (x.2.2.2.1) (x.2.2.2.2.1) (x.2.2.2.2.2)⟩
abbrev q116_L0_a : List (Nat × Ty):=[(0,tyI),(1,tyA),(3,tyA),(5,tyA),(25,tyL),(26,tyI),(27,tyI)]
abbrev q116_L0_w : List Nat:=[8,27,28,29,30,31,32,33,34,35,36,37,38,39,40,41,42,43,44,45,46,47,48,49,50,51,52,53,54,55]
abbrev q116_L0_p : Path:=[0,1,1,1,1]
abbrev q116_L0_g (n : Nat) (x : TsDen (tys q116_L0_a)) : M (Unit):=share_order_1_L0 n (x.1) (x.2.1) (x.2.2.1) (x.2.2.2.1) (x.2.2.2.2.1) (x.2.2.2.2.2.1) (x.2.2.2.2.2.2)
abbrev q116_L0_l (n : Nat) : LEnt:=⟨q116_L0_p,q116_L0_a,actL1 q116_L0_a [] q116_L0_w 0 (q116_L0_g n)⟩
abbrev q116_dt (n : Nat) : List DEnt:=[⟨44,[tyI],[],fun x a=>share_order_1_D44 n x (a)⟩]
abbrev q116_ct (n : Nat) : List Ent:=[q88_E n]
def q116_dr (i : Nat) : Option (List (Nat × List Nat)):=cond (Nat.beq i 2) (some [(1,[]),(3,[]),(0,[]),(2,[]),(4,[0]),(5,[]),(6,[])]) (cond (Nat.beq i 6) (some [(1,[]),(3,[]),(7,[]),(0,[]),(2,[]),(4,[]),(5,[]),(6,[]),(8,[]),(9,[]),(10,[]),(11,[]),(12,[])]) (cond (Nat.beq i 7) (some [(1,[]),(3,[]),(7,[]),(0,[]),(2,[]),(4,[]),(5,[]),(6,[]),(8,[]),(9,[]),(10,[])]) (none)))
abbrev q116_lt (n : Nat) : List LEnt:=[q116_L0_l n]
def P_share_order_1 (n : Nat) : Prop:=FnOK Tryz.prog (q116_E n)
theorem q116_L0_ok (n : Nat) (H : ∀ m,m < n → P_share_order_1 m) {W : Wr} (hW : subW W 56 q116_L0_w = true) : LEntOK Tryz.prog (bodyOf Tryz.f116) W (q116_L0_l n) :=
 loop1_t (bodyOf Tryz.f116) q116_L0_p q116_L0_a [] 0 56 q116_L0_w [] q116_ct q116_dt (fun _=>[]) q116_dr q116_L0_g (fun _=>[]) (by kernel_rfl) (fun _=>by kernel_rfl) (fun n x=>by kernel_rfl) n (fun m hm=>⟨.nil,(.cons (share_sorted_ok m) .nil),(.cons (dent_ok (l:=[⟨116,[tyA,tyA,tyA,tyA,tyA],fun a c=>share_order_1 m (a) (c.1) (c.2.1) (c.2.2.1) (c.2.2.2.1) (c.2.2.2.2)⟩]) (.cons (fun a c=>callOK_cast (by kernel_rfl) ((H m hm) (a,c.1,c.2.1,c.2.2.1,c.2.2.2.1,c.2.2.2.2))) .nil) (fun x a=>by kernel_rfl)) .nil),.nil,.nil⟩) hW
theorem share_order_1_ok_step (n : Nat) (H : ∀ m,m < n + 1 → P_share_order_1 m) : FnOK Tryz.prog (q116_E (n + 1)) :=
 fn_t (q116_E (n + 1)) Tryz.f116 (bodyOf Tryz.f116) [(0,tyI),(1,tyA),(2,tyA),(3,tyA),(4,tyA),(5,tyA)] [] (q116_ct n) (q116_dt n) (q116_lt n) [] q116_dr (by kernel_rfl) (by kernel_rfl) (by kernel_rfl) (by kernel_rfl) (by kernel_rfl) ⟨.nil,(.cons (share_sorted_ok n) .nil),(.cons (dent_ok (l:=[⟨116,[tyA,tyA,tyA,tyA,tyA],fun a c=>share_order_1 n (a) (c.1) (c.2.1) (c.2.2.1) (c.2.2.2.1) (c.2.2.2.2)⟩]) (.cons (fun a c=>callOK_cast (by kernel_rfl) ((H n (Nat.lt_succ_self n)) (a,c.1,c.2.1,c.2.2.1,c.2.2.2.1,c.2.2.2.2))) .nil) (fun x a=>by kernel_rfl)) .nil),(.cons (q116_L0_ok n (fun k hk=>H k (Nat.lt_succ_of_lt hk)) (by kernel_rfl)) .nil),.nil⟩ (fun x=>by kernel_rfl)
theorem P_share_order_1_all : ∀ n m,m < n → P_share_order_1 m:=by
 intro n
 induction n with
 | zero=>intro m hm;exact absurd hm (Nat.not_lt_zero m)
 | succ n ih =>
  intro m hm
  cases m with
  | zero=>exact fn_zero (fn:=Tryz.f116) (by kernel_rfl) (by kernel_rfl) (by kernel_rfl) (fun _=>rfl)
  | succ k=>exact share_order_1_ok_step k fun m hm=>ih m (by omega)
theorem share_order_1_ok (n : Nat) : FnOK Tryz.prog (q116_E n):=(P_share_order_1_all (n + 1) n (Nat.lt_succ_self n))
def share_order_D17 (n : Nat) (x : Value) (a0 : Int) : M (Unit) :=
 if isFn F_share_order_1 x then
  M.bind (asFn [tyA,tyA,tyA,tyA,tyA] x) fun (c : Addr × Addr × Addr × Addr × Addr)=>share_order_1 n a0 (c.1) (c.2.1) (c.2.2.1) (c.2.2.2.1) (c.2.2.2.2)
 else M.fail
def share_order (n : Nat) (a0 : Sl × Int) : M (Sl × Sl) :=
 M.bind (newB none T_api_Graph [vsl a0.1,vi a0.2]) fun x0 =>
 M.bind (ldL .sl ((adr x0).plus 0)) fun (x1 : Sl) =>
 M.bind (mkS none T_sl_i64 [vsl0] (↑x1.len : Int) (↑x1.len : Int)) fun x2 =>
 M.bind (newB none T_sl_sl_i64 [vsl0]) fun x3 =>
 M.bind (stN (adr x3) [vsl x2]) fun x4 =>
 M.bind (ldL .sl ((adr x0).plus 0)) fun (x5 : Sl) =>
 M.bind (mkS none T_bool [Value.bool false] (↑x5.len : Int) (↑x5.len : Int)) fun x6 =>
 M.bind (newB none T_sl_bool [vsl0]) fun x7 =>
 M.bind (stN (adr x7) [vsl x6]) fun x8 =>
 M.bind (newB none T_sl_i64 [vsl0]) fun x9 =>
 M.bind (newB none T_fn_i64__ [Value.nilFunc]) fun x10 =>
 M.bind (stN (adr x10) [Value.func (Fn.func F_share_order_1) #[] #[Value.pointer (some (adr x7)),Value.pointer (some (adr x9)),Value.pointer (some (adr x0)),Value.pointer (some (adr x3)),Value.pointer (some (adr x10))]]) fun x11 =>
 M.bind (ldL .raw (adr x10)) fun (x12 : Value) =>
 M.bind (ldL (li) ((adr x0).plus 1)) fun (x13 : Int) =>
 M.bind (share_order_D17 n x12 x13) fun x14 =>
 M.bind (ldL .sl (adr x9)) fun (x15 : Sl) =>
 M.bind (ldL .sl (adr x3)) fun (x16 : Sl) =>
 M.pure (x15,x16)
abbrev q81_E (n : Nat) : Ent:=⟨81,[.agg [.sl,.int .i64]],[tyL,tyL],fun x=>share_order n x⟩
abbrev q81_dt (n : Nat) : List DEnt:=[⟨17,[tyI],[],fun x a=>share_order_D17 n x (a)⟩]
abbrev q81_ct (n : Nat) : List Ent:=[]
def q81_dr (i : Nat) : Option (List (Nat × List Nat)):=cond (Nat.beq i 7) (some [(0,[]),(2,[]),(1,[]),(3,[])]) (none)
theorem share_order_ok (n : Nat) : FnOK Tryz.prog (q81_E n) :=
 fn_t (q81_E n) Tryz.f81 (bodyOf Tryz.f81) [(0,.agg [.sl,.int .i64])] [] (q81_ct n) (q81_dt n) [] [] q81_dr (by kernel_rfl) (by kernel_rfl) (by kernel_rfl) (by kernel_rfl) (by kernel_rfl) ⟨.nil,.nil,(.cons (dent_ok (l:=[⟨116,[tyA,tyA,tyA,tyA,tyA],fun a c=>share_order_1 n (a) (c.1) (c.2.1) (c.2.2.1) (c.2.2.2.1) (c.2.2.2.2)⟩]) (.cons (fun a c=>callOK_cast (by kernel_rfl) ((share_order_1_ok n) (a,c.1,c.2.1,c.2.2.1,c.2.2.2.1,c.2.2.2.2))) .nil) (fun x a=>by kernel_rfl)) .nil),.nil,.nil⟩ (fun x=>by kernel_rfl)
def share_counts_L1_B (G : Sl → Sl → Int → Int → Sl → Int → Int → M (Unit)) (n : Nat) (a0 : Sl) (a1 : Sl) (a2 : Int) (a3 : Int) (a4 : Sl) (a5 : Int) (a6 : Int) : M (Unit) :=
 if decide (a6 < a5) then
  M.bind (idxA a4 a6 1) fun x0 =>
  M.bind (ldL (li) x0) fun (x1 : Int) =>
  M.bind (idxA a0 x1 1) fun x2 =>
  M.bind (ldL (li) x2) fun (x3 : Int) =>
  M.bind (idxA a0 x1 1) fun x4 =>
  M.bind (stN x4 [vi (IntKind.i64.wrap (x3 + 1))]) fun x5 =>
  G a0 a1 a2 a3 a4 a5 (IntKind.i64.wrap (a6 + 1))
 else
  M.pure ()
def share_counts_L1 : Nat → Sl → Sl → Int → Int → Sl → Int → Int → M (Unit)
 | 0=>fun _ _ _ _ _ _ _=>M.fail
 | n + 1=>share_counts_L1_B (share_counts_L1 n) n
theorem share_counts_L1_succ (n : Nat) : share_counts_L1 (n + 1) = share_counts_L1_B (share_counts_L1 n) n:=rfl
def share_counts_L0_B (G : Sl → Sl → Int → Int → M (Unit)) (n : Nat) (a0 : Sl) (a1 : Sl) (a2 : Int) (a3 : Int) : M (Unit) :=
 if decide (a3 < a2) then
  M.bind (idxA a1 a3 5) fun x0 =>
  M.bind (ldLs [li,.str,.bool,.sl,.sl] x0) fun (x1 : Int × ByteArray × Bool × Sl × Sl) =>
  M.bind (newB none T_api_Node [vi 0,Value.string (ofBytes []),Value.bool false,vsl0,vsl0]) fun x2 =>
  M.bind (stN (adr x2) [vi x1.1,Value.string x1.2.1,Value.bool x1.2.2.1,vsl x1.2.2.2.1,vsl x1.2.2.2.2]) fun x3 =>
  M.bind (ldL .sl ((adr x2).plus 4)) fun (x4 : Sl) =>
  M.bind (share_counts_L1 n a0 a1 a2 a3 x4 (↑x4.len : Int) 0) fun x5 =>
  G a0 a1 a2 (IntKind.i64.wrap (a3 + 1))
 else
  M.pure ()
def share_counts_L0 : Nat → Sl → Sl → Int → Int → M (Unit)
 | 0=>fun _ _ _ _=>M.fail
 | n + 1=>share_counts_L0_B (share_counts_L0 n) n
theorem share_counts_L0_succ (n : Nat) : share_counts_L0 (n + 1) = share_counts_L0_B (share_counts_L0 n) n:=rfl
def share_counts (n : Nat) (a0 : Sl × Int) : M (Sl) :=
 M.bind (newB none T_api_Graph [vsl a0.1,vi a0.2]) fun x0 =>
 M.bind (ldL .sl ((adr x0).plus 0)) fun (x1 : Sl) =>
 M.bind (mkS none T_i64 [vi 0] (↑x1.len : Int) (↑x1.len : Int)) fun x2 =>
 M.bind (ldL (li) ((adr x0).plus 1)) fun (x3 : Int) =>
 M.bind (idxA x2 x3 1) fun x4 =>
 M.bind (ldL (li) x4) fun (x5 : Int) =>
 M.bind (idxA x2 x3 1) fun x6 =>
 M.bind (stN x6 [vi (IntKind.i64.wrap (x5 + 1))]) fun x7 =>
 M.bind (ldL .sl ((adr x0).plus 0)) fun (x8 : Sl) =>
 M.bind (share_counts_L0 n x2 x8 (↑x8.len : Int) 0) fun x9 =>
 M.pure x2
abbrev q82_E (n : Nat) : Ent:=⟨82,[.agg [.sl,.int .i64]],[tyL],fun x=>share_counts n x⟩
abbrev q82_L0_a : List (Nat × Ty):=[(3,tyL),(20,tyL),(21,tyI),(22,tyI)]
abbrev q82_L0_w : List Nat:=[5,7,22,23,24,25,26,27,28,29,30,31,32,33,34,35,36,37,38,39,40]
abbrev q82_L0_p : Path:=[0,1,0,1,1,1]
abbrev q82_L0_g (n : Nat) (x : TsDen (tys q82_L0_a)) : M (Unit):=share_counts_L0 n (x.1) (x.2.1) (x.2.2.1) (x.2.2.2)
abbrev q82_L0_l (n : Nat) : LEnt:=⟨q82_L0_p,q82_L0_a,actL1 q82_L0_a [] q82_L0_w 0 (q82_L0_g n)⟩
abbrev q82_L1_a : List (Nat × Ty):=[(3,tyL),(20,tyL),(21,tyI),(22,tyI),(27,tyL),(28,tyI),(29,tyI)]
abbrev q82_L1_w : List Nat:=[7,29,30,31,32,33,34,35,36,37,38,39]
abbrev q82_L1_p : Path:=[0,1,1,0,0,1,1,0,0,1,0,1,1,1]
abbrev q82_L1_g (n : Nat) (x : TsDen (tys q82_L1_a)) : M (Unit):=share_counts_L1 n (x.1) (x.2.1) (x.2.2.1) (x.2.2.2.1) (x.2.2.2.2.1) (x.2.2.2.2.2.1) (x.2.2.2.2.2.2)
abbrev q82_L1_l (n : Nat) : LEnt:=⟨q82_L1_p,q82_L1_a,actL1 q82_L1_a [] q82_L1_w 2 (q82_L1_g n)⟩
abbrev q82_dt (n : Nat) : List DEnt:=[]
abbrev q82_ct (n : Nat) : List Ent:=[]
def q82_dr (i : Nat) : Option (List (Nat × List Nat)):=none
abbrev q82_L0_lt (n : Nat) : List LEnt:=[q82_L1_l n]
abbrev q82_lt (n : Nat) : List LEnt:=[q82_L0_l n]
theorem q82_L1_ok (n : Nat) {W : Wr} (hW : subW W 42 q82_L1_w = true) : LEntOK Tryz.prog (bodyOf Tryz.f82) W (q82_L1_l n) :=
 loop1_t (bodyOf Tryz.f82) q82_L1_p q82_L1_a [] 2 42 q82_L1_w [] q82_ct q82_dt (fun _=>[]) q82_dr q82_L1_g (fun _=>[]) (by kernel_rfl) (fun _=>by kernel_rfl) (fun n x=>by kernel_rfl) n (fun m hm=>⟨.nil,.nil,.nil,.nil,.nil⟩) hW
theorem q82_L0_ok (n : Nat) {W : Wr} (hW : subW W 42 q82_L0_w = true) : LEntOK Tryz.prog (bodyOf Tryz.f82) W (q82_L0_l n) :=
 loop1_t (bodyOf Tryz.f82) q82_L0_p q82_L0_a [] 0 42 q82_L0_w [] q82_ct q82_dt q82_L0_lt q82_dr q82_L0_g (fun _=>[]) (by kernel_rfl) (fun _=>by kernel_rfl) (fun n x=>by kernel_rfl) n (fun m hm=>⟨.nil,.nil,.nil,(.cons (q82_L1_ok m (by kernel_rfl)) .nil),.nil⟩) hW
theorem share_counts_ok (n : Nat) : FnOK Tryz.prog (q82_E n) :=
 fn_t (q82_E n) Tryz.f82 (bodyOf Tryz.f82) [(0,.agg [.sl,.int .i64])] [] (q82_ct n) (q82_dt n) (q82_lt n) [] q82_dr (by kernel_rfl) (by kernel_rfl) (by kernel_rfl) (by kernel_rfl) (by kernel_rfl) ⟨.nil,.nil,.nil,(.cons (q82_L0_ok n (by kernel_rfl)) .nil),.nil⟩ (fun x=>by kernel_rfl)
def share_Labels_L0_B (G : Sl → Sl → Sl → Int → Int → M (Sl)) (n : Nat) (a0 : Sl) (a1 : Sl) (a2 : Sl) (a3 : Int) (a4 : Int) : M (Sl) :=
 if decide (a4 < a3) then
  M.bind (idxA a2 a4 1) fun x0 =>
  M.bind (ldL (li) x0) fun (x1 : Int) =>
  M.bind (idxA a0 x1 1) fun x2 =>
  M.bind (ldL (li) x2) fun (x3 : Int) =>
  if decide (1 < x3) then
   M.bind (app false a1 1 T_i64 1 [vi x1]) fun x4 =>
   G a0 x4 a2 a3 (IntKind.i64.wrap (a4 + 1))
  else
   G a0 a1 a2 a3 (IntKind.i64.wrap (a4 + 1))
 else
  M.pure a1
def share_Labels_L0 : Nat → Sl → Sl → Sl → Int → Int → M (Sl)
 | 0=>fun _ _ _ _ _=>M.fail
 | n + 1=>share_Labels_L0_B (share_Labels_L0 n) n
theorem share_Labels_L0_succ (n : Nat) : share_Labels_L0 (n + 1) = share_Labels_L0_B (share_Labels_L0 n) n:=rfl
def share_Labels (n : Nat) (a0 : Sl × Int) : M (Sl) :=
 M.bind (newB none T_api_Graph [vsl a0.1,vi a0.2]) fun x0 =>
 M.bind (ldLs [.sl,li] (adr x0)) fun (x1 : Sl × Int) =>
 M.bind (graph_Check n (x1.1,x1.2)) fun x2 =>
 if !decide (x2 = 0) then
  M.pure sl0
 else
  M.bind (ldLs [.sl,li] (adr x0)) fun (x3 : Sl × Int) =>
  M.bind (share_order n (x3.1,x3.2)) fun x4 =>
  M.bind (ldLs [.sl,li] (adr x0)) fun (x5 : Sl × Int) =>
  M.bind (share_counts n (x5.1,x5.2)) fun x6 =>
  M.bind (share_Labels_L0 n x6 sl0 x4.1 (↑x4.1.len : Int) 0) fun x7 =>
  M.pure x7
abbrev q49_E (n : Nat) : Ent:=⟨49,[.agg [.sl,.int .i64]],[tyL],fun x=>share_Labels n x⟩
abbrev q49_L0_a : List (Nat × Ty):=[(5,tyL),(6,tyL),(19,tyL),(20,tyI),(21,tyI)]
abbrev q49_L0_w : List Nat:=[6,8,21,22,23,24,25,26,27,28,29,30,31,32,33,34]
abbrev q49_L0_p : Path:=[0,1,0,1,1,1,1,1]
abbrev q49_L0_g (n : Nat) (x : TsDen (tys q49_L0_a)) : M (Sl):=share_Labels_L0 n (x.1) (x.2.1) (x.2.2.1) (x.2.2.2.1) (x.2.2.2.2)
abbrev q49_L0_l (n : Nat) : LEnt:=⟨q49_L0_p,q49_L0_a,actL1 q49_L0_a [(6,tyL)] q49_L0_w 0 (q49_L0_g n)⟩
abbrev q49_dt (n : Nat) : List DEnt:=[]
abbrev q49_ct (n : Nat) : List Ent:=[q15_E n,q81_E n,q82_E n]
def q49_dr (i : Nat) : Option (List (Nat × List Nat)):=none
abbrev q49_lt (n : Nat) : List LEnt:=[q49_L0_l n]
theorem q49_L0_ok (n : Nat) {W : Wr} (hW : subW W 36 q49_L0_w = true) : LEntOK Tryz.prog (bodyOf Tryz.f49) W (q49_L0_l n) :=
 loop1_t (bodyOf Tryz.f49) q49_L0_p q49_L0_a [(6,tyL)] 0 36 q49_L0_w [] q49_ct q49_dt (fun _=>[]) q49_dr q49_L0_g (fun _=>[]) (by kernel_rfl) (fun _=>by kernel_rfl) (fun n x=>by kernel_rfl) n (fun m hm=>⟨.nil,(.cons (graph_Check_ok m) (.cons (share_order_ok m) (.cons (share_counts_ok m) .nil))),.nil,.nil,.nil⟩) hW
theorem share_Labels_ok (n : Nat) : FnOK Tryz.prog (q49_E n) :=
 fn_t (q49_E n) Tryz.f49 (bodyOf Tryz.f49) [(0,.agg [.sl,.int .i64])] [] (q49_ct n) (q49_dt n) (q49_lt n) [] q49_dr (by kernel_rfl) (by kernel_rfl) (by kernel_rfl) (by kernel_rfl) (by kernel_rfl) ⟨.nil,(.cons (graph_Check_ok n) (.cons (share_order_ok n) (.cons (share_counts_ok n) .nil))),.nil,(.cons (q49_L0_ok n (by kernel_rfl)) .nil),.nil⟩ (fun x=>by kernel_rfl)
def share_Tree (n : Nat) (a0 : Sl × Int) : M (Bool) :=
 M.bind (newB none T_api_Graph [vsl a0.1,vi a0.2]) fun x0 =>
 M.bind (ldLs [.sl,li] (adr x0)) fun (x1 : Sl × Int) =>
 M.bind (graph_Check n (x1.1,x1.2)) fun x2 =>
 if decide (x2 = 0) then
  M.bind (ldLs [.sl,li] (adr x0)) fun (x3 : Sl × Int) =>
  M.bind (share_Labels n (x3.1,x3.2)) fun x4 =>
  M.pure (decide ((↑x4.len : Int) = 0))
 else
  M.pure false
abbrev q16_E (n : Nat) : Ent:=⟨16,[.agg [.sl,.int .i64]],[tyB],fun x=>share_Tree n x⟩
abbrev q16_dt (n : Nat) : List DEnt:=[]
abbrev q16_ct (n : Nat) : List Ent:=[q15_E n,q49_E n]
def q16_dr (i : Nat) : Option (List (Nat × List Nat)):=none
theorem share_Tree_ok (n : Nat) : FnOK Tryz.prog (q16_E n) :=
 fn_t (q16_E n) Tryz.f16 (bodyOf Tryz.f16) [(0,.agg [.sl,.int .i64])] [] (q16_ct n) (q16_dt n) [] [] q16_dr (by kernel_rfl) (by kernel_rfl) (by kernel_rfl) (by kernel_rfl) (by kernel_rfl) ⟨.nil,(.cons (graph_Check_ok n) (.cons (share_Labels_ok n) .nil)),.nil,.nil,.nil⟩ (fun x=>by kernel_rfl)
def rosettalaw34_BencodeAccepts (n : Nat) (a0 : ByteArray) : M (Bool) :=
 if decide (400 < (↑a0.size : Int)) then
  M.bind (rosettalaw34_awake n) fun x0 =>
  M.pure x0
 else
  M.bind (bencode_Parse n a0) fun x0 =>
  M.bind (newB none T_api_Doc [vi 0,Value.string (ofBytes []),vsl0,vi 0,vsl0,vsl0]) fun x1 =>
  M.bind (stN (adr x1) [vi x0.1.1,Value.string x0.1.2.1,vsl x0.1.2.2.1,vi x0.1.2.2.2.1,vsl x0.1.2.2.2.2.1,vsl x0.1.2.2.2.2.2]) fun x2 =>
  if !decide (x0.2.2 = 0) then
   M.bind (ldL .sl ((adr x1).plus 4)) fun (x3 : Sl) =>
   if decide ((↑x3.len : Int) = 0) then
    M.bind (ldL .str ((adr x1).plus 1)) fun (x4 : ByteArray) =>
    if eqS x4 (ofBytes []) then
     M.bind (rosettalaw34_awake n) fun x5 =>
     M.pure x5
    else
     M.pure false
   else
    M.pure false
  else
   M.bind (ldL .str ((adr x1).plus 1)) fun (x3 : ByteArray) =>
   if eqS x3 a0 then
    M.bind (ldL (li) ((adr x1).plus 0)) fun (x4 : Int) =>
    if decide (x4 = 5) then
     M.bind (ldLs [li,.str,.sl,li,.sl,.sl] (adr x1)) fun (x5 : Int × ByteArray × Sl × Int × Sl × Sl) =>
     M.bind (span_Check n (x5.1,x5.2.1,x5.2.2.1,x5.2.2.2.1,x5.2.2.2.2.1,x5.2.2.2.2.2)) fun x6 =>
     if decide (x6 = 0) then
      M.bind (ldLs [.sl,li] ((adr x1).plus 2)) fun (x7 : Sl × Int) =>
      M.bind (graph_Check n (x7.1,x7.2)) fun x8 =>
      if decide (x8 = 0) then
       M.bind (ldLs [.sl,li] ((adr x1).plus 2)) fun (x9 : Sl × Int) =>
       M.bind (share_Tree n (x9.1,x9.2)) fun x10 =>
       if x10 then
        M.bind (rosettalaw34_awake n) fun x11 =>
        M.pure x11
       else
        M.pure false
      else
       M.pure false
     else
      M.pure false
    else
     M.pure false
   else
    M.pure false
abbrev q5_E (n : Nat) : Ent:=⟨5,[tyS],[tyB],fun x=>rosettalaw34_BencodeAccepts n x⟩
abbrev q5_dt (n : Nat) : List DEnt:=[]
abbrev q5_ct (n : Nat) : List Ent:=[q7_E n,q8_E n,q14_E n,q15_E n,q16_E n]
def q5_dr (i : Nat) : Option (List (Nat × List Nat)):=none
theorem rosettalaw34_BencodeAccepts_ok (n : Nat) : FnOK Tryz.prog (q5_E n) :=
 fn_t (q5_E n) Tryz.f5 (bodyOf Tryz.f5) [(0,tyS)] [] (q5_ct n) (q5_dt n) [] [] q5_dr (by kernel_rfl) (by kernel_rfl) (by kernel_rfl) (by kernel_rfl) (by kernel_rfl) ⟨.nil,(.cons (rosettalaw34_awake_ok n) (.cons (bencode_Parse_ok n) (.cons (span_Check_ok n) (.cons (graph_Check_ok n) (.cons (share_Tree_ok n) .nil))))),.nil,.nil,.nil⟩ (fun x=>by kernel_rfl)
end Go.Sh
