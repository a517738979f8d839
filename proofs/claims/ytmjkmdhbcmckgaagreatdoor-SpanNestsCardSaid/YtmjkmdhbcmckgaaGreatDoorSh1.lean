
import Derived.Test.YtmjkmdhbcmckgaaGreatDoorSh0
set_option maxRecDepth 100000
set_option maxHeartbeats 0
set_option linter.all false
namespace Go.Sh
open Go Go.Ago Go.Proofs
def civil_length (n:Nat)(a0:Int)(a1:Int):M (Int) :=
 M.bind (newB none T_ar13_i64 [vi 0,vi 0,vi 0,vi 0,vi 0,vi 0,vi 0,vi 0,vi 0,vi 0,vi 0,vi 0,vi 0]) fun x0 =>
 M.bind (stN (adr x0) [vi 0,vi 31,vi 28,vi 31,vi 30,vi 31,vi 30,vi 31,vi 31,vi 30,vi 31,vi 30,vi 31]) fun x1 =>
 if decide (a1=2) then
  M.bind (civil_Leap n a0) fun x2 =>
  if x2 then
   M.pure 29
  else
   M.bind (ckM (decide (0≤a1∧a1<(↑13:Int)))) fun x3 =>
   M.bind (ldL (li) ((adr x0).plus (a1.toNat * 1))) fun (x4:Int) =>
   M.pure x4
 else
  M.bind (ckM (decide (0≤a1∧a1<(↑13:Int)))) fun x2 =>
  M.bind (ldL (li) ((adr x0).plus (a1.toNat * 1))) fun (x3:Int) =>
  M.pure x3
abbrev q132_E (n:Nat):Ent:=⟨132,[tyI,tyI],[tyI],fun x=>civil_length n (x.1) (x.2)⟩
abbrev q132_ct (n:Nat):List Ent:=[q158_E n]
theorem civil_length_ok (n:Nat):FnOK Tryz.prog (q132_E n) :=
 fn_t (q132_E n) Tryz.f132 (bodyOf Tryz.f132) [(0,tyI),(1,tyI)] [] (q132_ct n) [] [] [] dr0 (by kernel_rfl) (by kernel_rfl) (by kernel_rfl) (by kernel_rfl) (by kernel_rfl) ⟨.nil,(.cons (civil_Leap_ok n) .nil),.nil,.nil,.nil⟩ (fun x=>by kernel_rfl)
def civil_first (n:Nat)(a0:Int):M (Int) :=
 M.bind (ckM (decide (4≠0))) fun x0 =>
 M.bind (ckM (decide (100≠0))) fun x1 =>
 M.bind (ckM (decide (400≠0))) fun x2 =>
 M.pure (IntKind.i64.wrap (IntKind.i64.wrap (IntKind.i64.wrap (IntKind.i64.wrap (365 * a0)+IntKind.i64.wrap ((IntKind.i64.wrap (a0+3)).tdiv 4)) - IntKind.i64.wrap ((IntKind.i64.wrap (a0+99)).tdiv 100))+IntKind.i64.wrap ((IntKind.i64.wrap (a0+399)).tdiv 400)))
abbrev q133_E (n:Nat):Ent:=⟨133,[tyI],[tyI],fun x=>civil_first n x⟩
theorem civil_first_ok (n:Nat):FnOK Tryz.prog (q133_E n) :=
 fn_t (q133_E n) Tryz.f133 (bodyOf Tryz.f133) [(0,tyI)] [] [] [] [] [] dr0 (by kernel_rfl) (by kernel_rfl) (by kernel_rfl) (by kernel_rfl) (by kernel_rfl) ⟨.nil,.nil,.nil,.nil,.nil⟩ (fun x=>by kernel_rfl)
def civil_Days_L0_B (G:Int→Int→Int→Int→M (Int))(n:Nat)(a0:Int)(a1:Int)(a2:Int)(a3:Int):M (Int) :=
 if decide (a3<a1) then
  M.bind (civil_length n a0 a3) fun x0 =>
  G a0 a1 (IntKind.i64.wrap (a2+x0)) (IntKind.i64.wrap (a3+1))
 else
  M.pure a2
def civil_Days_L0:Nat→Int→Int→Int→Int→M (Int)
 | 0=>fun _ _ _ _=>M.fail
 | n+1=>civil_Days_L0_B (civil_Days_L0 n) n
theorem civil_Days_L0_succ (n:Nat):civil_Days_L0 (n+1)=civil_Days_L0_B (civil_Days_L0 n) n:=rfl
def civil_Days_J0 (n:Nat)(a0:Int)(a1:Int)(a2:Int):M (Int×Int) :=
 M.bind (civil_first n a0) fun x0 =>
 M.bind (civil_Days_L0 n a0 a1 (IntKind.i64.wrap (IntKind.i64.wrap (IntKind.i64.wrap (x0+a2) - 1) - 719528)) 1) fun x1 =>
 M.pure (x1,0)
def civil_Days (n:Nat)(a0:Int)(a1:Int)(a2:Int):M (Int×Int) :=
 if decide (a0<0) then
  M.pure (0,13)
 else
  if decide (9999<a0) then
   M.pure (0,13)
  else
   if decide (a1<1) then
    M.pure (0,13)
   else
    if decide (12<a1) then
     M.pure (0,13)
    else
     if decide (a2<1) then
      M.pure (0,13)
     else
      M.bind (civil_length n a0 a1) fun x0 =>
      if decide (x0<a2) then
       M.pure (0,13)
      else
       civil_Days_J0 n a0 a1 a2
abbrev q106_E (n:Nat):Ent:=⟨106,[tyI,tyI,tyI],[tyI,tyI],fun x=>civil_Days n (x.1) (x.2.1) (x.2.2)⟩
abbrev q106_L0_a:List (Nat×Ty):=[(0,tyI),(1,tyI),(8,tyI),(9,tyI)]
abbrev q106_L0_w:List Nat:=[8,9,41,42,43,44,45,46,47,48,49,50]
abbrev q106_L0_p:Path:=[0,1,0,1,1,1]
abbrev q106_L0_g (n:Nat)(x:TsDen (tys q106_L0_a)):M (Int):=civil_Days_L0 n (x.1) (x.2.1) (x.2.2.1) (x.2.2.2)
abbrev q106_L0_l (n:Nat):LEnt:=⟨q106_L0_p,q106_L0_a,actL1 q106_L0_a [(8,tyI)] q106_L0_w 0 (q106_L0_g n)⟩
abbrev q106_ct (n:Nat):List Ent:=[q132_E n,q133_E n]
abbrev q106_lt (n:Nat):List LEnt:=[q106_L0_l n]
abbrev q106_jt1 (n:Nat):List (JEnt (Int×Int)):=[]
abbrev q106_jt0 (n:Nat):List (JEnt (Int×Int)):=⟨[0,1,1],[.code [1,1,1]],[(0,tyI),(1,tyI),(2,tyI)],fun x=>civil_Days_J0 n (x.1) (x.2.1) (x.2.2)⟩::q106_jt1 n
theorem q106_L0_ok (n:Nat){W:Wr}(hW:subW W 52 q106_L0_w=true):LEntOK Tryz.prog (bodyOf Tryz.f106) W (q106_L0_l n) :=
 loop1_t (bodyOf Tryz.f106) q106_L0_p q106_L0_a [(8,tyI)] 0 52 q106_L0_w [] q106_ct (fun _=>[]) (fun _=>[]) dr0 q106_L0_g (fun _=>[]) (by kernel_rfl) (fun _=>by kernel_rfl) (fun n x=>by kernel_rfl) n (fun m hm=>⟨.nil,(.cons (civil_length_ok m) (.cons (civil_first_ok m) .nil)),.nil,.nil,.nil⟩) hW
theorem civil_Days_ok (n:Nat):FnOK Tryz.prog (q106_E n) :=
 fn_t (q106_E n) Tryz.f106 (bodyOf Tryz.f106) [(0,tyI),(1,tyI),(2,tyI)] [] (q106_ct n) [] (q106_lt n) (q106_jt0 n) dr0 (by kernel_rfl) (by kernel_rfl) (by kernel_rfl) (by kernel_rfl) (by kernel_rfl) ⟨.nil,(.cons (civil_length_ok n) (.cons (civil_first_ok n) .nil)),.nil,(.cons (q106_L0_ok n (by kernel_rfl)) .nil),(.cons (fun x=>by kernel_rfl) .nil)⟩ (fun x=>by kernel_rfl)
def instant_moment_ranges_L0_B (G:Addr→(Int×Int×Int×Int×Int)→Int→M ((Unit) ⊕ (Bool)))(n:Nat)(a0:Addr)(a1:Int×Int×Int×Int×Int)(a2:Int):M ((Unit) ⊕ (Bool)) :=
 if decide (a2<5) then
  M.bind (idxC (li) 5 [vi a1.1,vi a1.2.1,vi a1.2.2.1,vi a1.2.2.2.1,vi a1.2.2.2.2] a2) fun x0 =>
  M.bind (ckM (decide (0≤IntKind.i64.wrap (a2+3)∧IntKind.i64.wrap (a2+3)<(↑8:Int)))) fun x1 =>
  M.bind (ldL (li) ((a0.plus 1).plus ((IntKind.i64.wrap (a2+3)).toNat * 1))) fun (x2:Int) =>
  if decide (x0<x2) then
   M.pure (Sum.inr false)
  else
   G a0 (a1.1,a1.2.1,a1.2.2.1,a1.2.2.2.1,a1.2.2.2.2) (IntKind.i64.wrap (a2+1))
 else
  M.pure (Sum.inl ())
def instant_moment_ranges_L0:Nat→Addr→(Int×Int×Int×Int×Int)→Int→M ((Unit) ⊕ (Bool))
 | 0=>fun _ _ _=>M.fail
 | n+1=>instant_moment_ranges_L0_B (instant_moment_ranges_L0 n) n
def instant_moment_ranges_J0 (n:Nat)(a0:Addr):M (Bool) :=
 M.bind (newB none T_ar5_i64 [vi 0,vi 0,vi 0,vi 0,vi 0]) fun x0 =>
 M.bind (stN (adr x0) [vi 23,vi 59,vi 59,vi 23,vi 59]) fun x1 =>
 M.bind (ldLs [li,li,li,li,li] (adr x0)) fun (x2:Int×Int×Int×Int×Int) =>
 M.bind (instant_moment_ranges_L0 n a0 (x2.1,x2.2.1,x2.2.2.1,x2.2.2.2.1,x2.2.2.2.2) 0) (sumElim (fun x3 =>
  M.pure true)
 (fun x3 =>
  M.pure x3))
def instant_moment_ranges (n:Nat)(a0:Int×Int×Int×Int×Int×Int×Int×Int×Int×Int×Int):M (Bool) :=
 M.bind (newB none T_instant_moment [vi a0.1,vi a0.2.1,vi a0.2.2.1,vi a0.2.2.2.1,vi a0.2.2.2.2.1,vi a0.2.2.2.2.2.1,vi a0.2.2.2.2.2.2.1,vi a0.2.2.2.2.2.2.2.1,vi a0.2.2.2.2.2.2.2.2.1,vi a0.2.2.2.2.2.2.2.2.2.1,Value.int IntKind.u8 a0.2.2.2.2.2.2.2.2.2.2]) fun x0 =>
 M.bind (ldL (li) ((adr x0).plus 0)) fun (x1:Int) =>
 if !decide (x1=2) then
  M.bind (ckM (decide (0≤0∧0<(↑8:Int)))) fun x2 =>
  M.bind (ldL (li) (((adr x0).plus 1).plus 0)) fun (x3:Int) =>
  M.bind (ckM (decide (0≤1∧1<(↑8:Int)))) fun x4 =>
  M.bind (ldL (li) (((adr x0).plus 1).plus 1)) fun (x5:Int) =>
  M.bind (ckM (decide (0≤2∧2<(↑8:Int)))) fun x6 =>
  M.bind (ldL (li) (((adr x0).plus 1).plus 2)) fun (x7:Int) =>
  M.bind (civil_Days n x3 x5 x7) fun x8 =>
  if !decide (x8.2=0) then
   M.pure false
  else
   instant_moment_ranges_J0 n (adr x0)
 else
  instant_moment_ranges_J0 n (adr x0)
abbrev q75_E (n:Nat):Ent:=⟨75,[.agg [.int .i64,.int .i64,.int .i64,.int .i64,.int .i64,.int .i64,.int .i64,.int .i64,.int .i64,.int .i64,.int .u8]],[tyB],fun x=>instant_moment_ranges n x⟩
abbrev q75_L0_a:List (Nat×Ty):=[(1,tyA),(27,.agg [.int .i64,.int .i64,.int .i64,.int .i64,.int .i64]),(28,tyI)]
abbrev q75_L0_w:List Nat:=[2,6,7,28,29,30,31,32,33,34,35,36,37,38,39]
abbrev q75_L0_p:Path:=[0,1,0,1,1,1]
abbrev q75_L0_g (n:Nat)(x:TsDen (tys q75_L0_a)):M ((Unit) ⊕ (Bool)):=instant_moment_ranges_L0 n (x.1) (x.2.1) (x.2.2)
abbrev q75_L0_l (n:Nat):LEnt:=⟨q75_L0_p,q75_L0_a,actL2 q75_L0_a [] [(2,tyB)] q75_L0_w 0 .ret (q75_L0_g n)⟩
abbrev q75_ct (n:Nat):List Ent:=[q106_E n]
abbrev q75_lt (n:Nat):List LEnt:=[q75_L0_l n]
abbrev q75_jt1 (n:Nat):List (JEnt (Bool)):=[]
abbrev q75_jt0 (n:Nat):List (JEnt (Bool)):=⟨[0,1,1],[.code [1,1,1]],[(1,tyA)],fun x=>instant_moment_ranges_J0 n x⟩::q75_jt1 n
theorem q75_L0_ok (n:Nat){W:Wr}(hW:subW W 40 q75_L0_w=true):LEntOK Tryz.prog (bodyOf Tryz.f75) W (q75_L0_l n) :=
 loop2_t (bodyOf Tryz.f75) q75_L0_p q75_L0_a [] [(2,tyB)] 0 .ret 40 q75_L0_w [] q75_ct (fun _=>[]) (fun _=>[]) dr0 q75_L0_g (fun _=>[]) (by kernel_rfl) (fun _=>by kernel_rfl) (fun n x=>by kernel_rfl) n (fun m hm=>⟨.nil,(.cons (civil_Days_ok m) .nil),.nil,.nil,.nil⟩) hW
theorem instant_moment_ranges_ok (n:Nat):FnOK Tryz.prog (q75_E n) :=
 fn_t (q75_E n) Tryz.f75 (bodyOf Tryz.f75) [(0,.agg [.int .i64,.int .i64,.int .i64,.int .i64,.int .i64,.int .i64,.int .i64,.int .i64,.int .i64,.int .i64,.int .u8])] [] (q75_ct n) [] (q75_lt n) (q75_jt0 n) dr0 (by kernel_rfl) (by kernel_rfl) (by kernel_rfl) (by kernel_rfl) (by kernel_rfl) ⟨.nil,(.cons (civil_Days_ok n) .nil),.nil,(.cons (q75_L0_ok n (by kernel_rfl)) .nil),(.cons (fun x=>by kernel_rfl) .nil)⟩ (fun x=>by kernel_rfl)
def civil_Date_L1_B (G:Int→Int→Int→M (Int×Int))(n:Nat)(a0:Int)(a1:Int)(a2:Int):M (Int×Int) :=
 M.bind (civil_length n a1 a2) fun x0 =>
 if decide (x0≤a0) then
  M.bind (civil_length n a1 a2) fun x1 =>
  G (IntKind.i64.wrap (a0 - x1)) a1 (IntKind.i64.wrap (a2+1))
 else
  M.pure (a0,a2)
def civil_Date_L1:Nat→Int→Int→Int→M (Int×Int)
 | 0=>fun _ _ _=>M.fail
 | n+1=>civil_Date_L1_B (civil_Date_L1 n) n
theorem civil_Date_L1_succ (n:Nat):civil_Date_L1 (n+1)=civil_Date_L1_B (civil_Date_L1 n) n:=rfl
def civil_Date_L0_B (G:Int→Int→M (Int))(n:Nat)(a0:Int)(a1:Int):M (Int) :=
 M.bind (civil_first n (IntKind.i64.wrap (a1+1))) fun x0 =>
 if decide (x0≤a0) then
  G a0 (IntKind.i64.wrap (a1+1))
 else
  M.pure a1
def civil_Date_L0:Nat→Int→Int→M (Int)
 | 0=>fun _ _=>M.fail
 | n+1=>civil_Date_L0_B (civil_Date_L0 n) n
theorem civil_Date_L0_succ (n:Nat):civil_Date_L0 (n+1)=civil_Date_L0_B (civil_Date_L0 n) n:=rfl
def civil_Date_J0 (n:Nat)(a0:Int):M (Int×Int×Int×Int) :=
 M.bind (ckM (decide (366≠0))) fun x0 =>
 M.bind (civil_Date_L0 n (IntKind.i64.wrap (a0+719528)) (IntKind.i64.wrap ((IntKind.i64.wrap (a0+719528)).tdiv 366))) fun x1 =>
 M.bind (civil_first n x1) fun x2 =>
 M.bind (civil_Date_L1 n (IntKind.i64.wrap (IntKind.i64.wrap (a0+719528) - x2)) x1 1) fun x3 =>
 M.pure (x1,x3.2,IntKind.i64.wrap (x3.1+1),0)
def civil_Date (n:Nat)(a0:Int):M (Int×Int×Int×Int) :=
 if decide (a0 < -719528) then
  M.pure (0,0,0,13)
 else
  if decide (2932896<a0) then
   M.pure (0,0,0,13)
  else
   civil_Date_J0 n a0
abbrev q107_E (n:Nat):Ent:=⟨107,[tyI],[tyI,tyI,tyI,tyI],fun x=>civil_Date n x⟩
abbrev q107_L0_a:List (Nat×Ty):=[(6,tyI),(7,tyI)]
abbrev q107_L0_w:List Nat:=[7,19,20,21,22,23,24,25]
abbrev q107_L0_p:Path:=[0,0,1,1,1,1]
abbrev q107_L0_g (n:Nat)(x:TsDen (tys q107_L0_a)):M (Int):=civil_Date_L0 n (x.1) (x.2)
abbrev q107_L0_l (n:Nat):LEnt:=⟨q107_L0_p,q107_L0_a,actL1 q107_L0_a [(7,tyI)] q107_L0_w 0 (q107_L0_g n)⟩
abbrev q107_L1_a:List (Nat×Ty):=[(6,tyI),(7,tyI),(8,tyI)]
abbrev q107_L1_w:List Nat:=[6,8,30,31,32,33,34,35,36,37,38,39,40,41]
abbrev q107_L1_p:Path:=[0,0,1,1,1,1,1,1,1]
abbrev q107_L1_g (n:Nat)(x:TsDen (tys q107_L1_a)):M (Int×Int):=civil_Date_L1 n (x.1) (x.2.1) (x.2.2)
abbrev q107_L1_l (n:Nat):LEnt:=⟨q107_L1_p,q107_L1_a,actL1 q107_L1_a [(6,tyI),(8,tyI)] q107_L1_w 2 (q107_L1_g n)⟩
abbrev q107_ct (n:Nat):List Ent:=[q132_E n,q133_E n]
abbrev q107_lt (n:Nat):List LEnt:=[q107_L0_l n,q107_L1_l n]
abbrev q107_jt1 (n:Nat):List (JEnt (Int×Int×Int×Int)):=[]
abbrev q107_jt0 (n:Nat):List (JEnt (Int×Int×Int×Int)):=⟨[0,1,1],[.code [1,1,1]],[(0,tyI)],fun x=>civil_Date_J0 n x⟩::q107_jt1 n
theorem q107_L1_ok (n:Nat){W:Wr}(hW:subW W 46 q107_L1_w=true):LEntOK Tryz.prog (bodyOf Tryz.f107) W (q107_L1_l n) :=
 loop1_t (bodyOf Tryz.f107) q107_L1_p q107_L1_a [(6,tyI),(8,tyI)] 2 46 q107_L1_w [] q107_ct (fun _=>[]) (fun _=>[]) dr0 q107_L1_g (fun _=>[]) (by kernel_rfl) (fun _=>by kernel_rfl) (fun n x=>by kernel_rfl) n (fun m hm=>⟨.nil,(.cons (civil_length_ok m) (.cons (civil_first_ok m) .nil)),.nil,.nil,.nil⟩) hW
theorem q107_L0_ok (n:Nat){W:Wr}(hW:subW W 46 q107_L0_w=true):LEntOK Tryz.prog (bodyOf Tryz.f107) W (q107_L0_l n) :=
 loop1_t (bodyOf Tryz.f107) q107_L0_p q107_L0_a [(7,tyI)] 0 46 q107_L0_w [] q107_ct (fun _=>[]) (fun _=>[]) dr0 q107_L0_g (fun _=>[]) (by kernel_rfl) (fun _=>by kernel_rfl) (fun n x=>by kernel_rfl) n (fun m hm=>⟨.nil,(.cons (civil_length_ok m) (.cons (civil_first_ok m) .nil)),.nil,.nil,.nil⟩) hW
theorem civil_Date_ok (n:Nat):FnOK Tryz.prog (q107_E n) :=
 fn_t (q107_E n) Tryz.f107 (bodyOf Tryz.f107) [(0,tyI)] [] (q107_ct n) [] (q107_lt n) (q107_jt0 n) dr0 (by kernel_rfl) (by kernel_rfl) (by kernel_rfl) (by kernel_rfl) (by kernel_rfl) ⟨.nil,(.cons (civil_length_ok n) (.cons (civil_first_ok n) .nil)),.nil,(.cons (q107_L0_ok n (by kernel_rfl)) (.cons (q107_L1_ok n (by kernel_rfl)) .nil)),(.cons (fun x=>by kernel_rfl) .nil)⟩ (fun x=>by kernel_rfl)
def instant_pad (n:Nat)(a0:Int)(a1:Int):M (ByteArray) :=
 M.bind (strconv_Itoa n a0) fun x0 =>
 M.bind (strings_Repeat n (ofBytes [48]) (if 0<IntKind.i64.wrap (a1 - (↑(ByteArray.size x0):Int)) then IntKind.i64.wrap (a1 - (↑(ByteArray.size x0):Int)) else 0)) fun x1 =>
 M.bind (catS x1 x0) fun x2 =>
 M.pure x2
abbrev q134_E (n:Nat):Ent:=⟨134,[tyI,tyI],[tyS],fun x=>instant_pad n (x.1) (x.2)⟩
abbrev q134_ct (n:Nat):List Ent:=[⟨119,[tyI],[tyS],fun x=>strconv_Itoa n x⟩,⟨159,[tyS,tyI],[tyS],fun x=>strings_Repeat n (x.1) (x.2)⟩]
theorem instant_pad_ok (n:Nat):FnOK Tryz.prog (q134_E n) :=
 fn_t (q134_E n) Tryz.f134 (bodyOf Tryz.f134) [(0,tyI),(1,tyI)] [] (q134_ct n) [] [] [] dr0 (by kernel_rfl) (by kernel_rfl) (by kernel_rfl) (by kernel_rfl) (by kernel_rfl) ⟨.nil,(.cons (strconv_Itoa_ok n) (.cons (strings_Repeat_ok n) .nil)),.nil,.nil,.nil⟩ (fun x=>by kernel_rfl)
def instant_moment_text_J1 (n:Nat)(a0:Addr)(a1:ByteArray):M (ByteArray) :=
 M.bind (ldL (li) (a0.plus 9)) fun (x0:Int) =>
 if decide (0<x0) then
  M.bind (ldL (li) (a0.plus 9)) fun (x1:Int) =>
  M.bind (instant_pad n x1 9) fun x2 =>
  M.bind (strings_TrimRight n x2 (ofBytes [48])) fun x3 =>
  M.bind (catS (ofBytes [46]) x3) fun x4 =>
  M.bind (catS a1 x4) fun x5 =>
  M.pure x5
 else
  M.pure a1
def instant_moment_text_J0 (n:Nat)(a0:Addr)(a1:ByteArray):M (ByteArray) :=
 M.bind (ldL (li) (a0.plus 0)) fun (x0:Int) =>
 if !decide (x0=1) then
  M.bind (ckM (decide (0≤3∧3<(↑8:Int)))) fun x1 =>
  M.bind (ckM (decide (0≤4∧4<(↑8:Int)))) fun x2 =>
  M.bind (ckM (decide (0≤5∧5<(↑8:Int)))) fun x3 =>
  M.bind (ldL (li) ((a0.plus 1).plus 3)) fun (x4:Int) =>
  M.bind (ldL (li) ((a0.plus 1).plus 4)) fun (x5:Int) =>
  M.bind (ldL (li) ((a0.plus 1).plus 5)) fun (x6:Int) =>
  M.bind (chk [some ((a0.plus 1).plus 4),some ((a0.plus 1).plus 5)] (instant_pad n x4 2)) fun x7 =>
  M.bind (catS x7 (ofBytes [58])) fun x8 =>
  M.bind (chk [some ((a0.plus 1).plus 5)] (instant_pad n x5 2)) fun x9 =>
  M.bind (catS x8 x9) fun x10 =>
  M.bind (catS x10 (ofBytes [58])) fun x11 =>
  M.bind (instant_pad n x6 2) fun x12 =>
  M.bind (catS x11 x12) fun x13 =>
  M.bind (catS a1 x13) fun x14 =>
  instant_moment_text_J1 n a0 x14
 else
  instant_moment_text_J1 n a0 a1
def instant_moment_text (n:Nat)(a0:Int×Int×Int×Int×Int×Int×Int×Int×Int×Int×Int):M (ByteArray) :=
 M.bind (newB none T_instant_moment [vi a0.1,vi a0.2.1,vi a0.2.2.1,vi a0.2.2.2.1,vi a0.2.2.2.2.1,vi a0.2.2.2.2.2.1,vi a0.2.2.2.2.2.2.1,vi a0.2.2.2.2.2.2.2.1,vi a0.2.2.2.2.2.2.2.2.1,vi a0.2.2.2.2.2.2.2.2.2.1,Value.int IntKind.u8 a0.2.2.2.2.2.2.2.2.2.2]) fun x0 =>
 M.bind (ldL (li) ((adr x0).plus 0)) fun (x1:Int) =>
 if !decide (x1=2) then
  M.bind (ckM (decide (0≤0∧0<(↑8:Int)))) fun x2 =>
  M.bind (ckM (decide (0≤1∧1<(↑8:Int)))) fun x3 =>
  M.bind (ckM (decide (0≤2∧2<(↑8:Int)))) fun x4 =>
  M.bind (ldL (li) (((adr x0).plus 1).plus 0)) fun (x5:Int) =>
  M.bind (ldL (li) (((adr x0).plus 1).plus 1)) fun (x6:Int) =>
  M.bind (ldL (li) (((adr x0).plus 1).plus 2)) fun (x7:Int) =>
  M.bind (chk [some (((adr x0).plus 1).plus 1),some (((adr x0).plus 1).plus 2)] (instant_pad n x5 4)) fun x8 =>
  M.bind (catS x8 (ofBytes [45])) fun x9 =>
  M.bind (chk [some (((adr x0).plus 1).plus 2)] (instant_pad n x6 2)) fun x10 =>
  M.bind (catS x9 x10) fun x11 =>
  M.bind (catS x11 (ofBytes [45])) fun x12 =>
  M.bind (instant_pad n x7 2) fun x13 =>
  M.bind (catS x12 x13) fun x14 =>
  M.bind (ldL (li) ((adr x0).plus 0)) fun (x15:Int) =>
  if decide (x15=3) then
   M.bind (catS x14 (ofBytes [84])) fun x16 =>
   instant_moment_text_J0 n (adr x0) x16
  else
   instant_moment_text_J0 n (adr x0) x14
 else
  M.bind (ldL (li) ((adr x0).plus 0)) fun (x2:Int) =>
  if decide (x2=3) then
   M.bind (catS (ofBytes []) (ofBytes [84])) fun x3 =>
   instant_moment_text_J0 n (adr x0) x3
  else
   instant_moment_text_J0 n (adr x0) (ofBytes [])
abbrev q108_E (n:Nat):Ent:=⟨108,[.agg [.int .i64,.int .i64,.int .i64,.int .i64,.int .i64,.int .i64,.int .i64,.int .i64,.int .i64,.int .i64,.int .u8]],[tyS],fun x=>instant_moment_text n x⟩
abbrev q108_ct (n:Nat):List Ent:=[q134_E n,⟨135,[tyS,tyS],[tyS],fun x=>strings_TrimRight n (x.1) (x.2)⟩]
def q108_dr (i:Nat):Option (List (Nat×List Nat)):=cond (Nat.beq i 3) (some [(0,[]),(1,[]),(5,[]),(6,[]),(11,[]),(12,[]),(2,[]),(7,[]),(13,[]),(3,[7,13]),(4,[]),(8,[13]),(9,[]),(10,[]),(14,[]),(15,[]),(16,[])]) (cond (Nat.beq i 7) (some [(0,[]),(1,[]),(2,[]),(6,[]),(7,[]),(12,[]),(13,[]),(3,[]),(8,[]),(14,[]),(4,[8,14]),(5,[]),(9,[14]),(10,[]),(11,[]),(15,[]),(16,[]),(17,[]),(18,[])]) (none))
abbrev q108_jt2 (n:Nat):List (JEnt (ByteArray)):=[]
abbrev q108_jt1 (n:Nat):List (JEnt (ByteArray)):=⟨[0,0,1,1,1,1,1],[.code [1,0,1,1,1,1,1],.code [1,1,1,1,1,1]],[(1,tyA),(3,tyS)],fun x=>instant_moment_text_J1 n (x.1) (x.2)⟩::q108_jt2 n
abbrev q108_jt0 (n:Nat):List (JEnt (ByteArray)):=⟨[0,0,1,1,1,1],[.code [1,0,1,1,1,1],.code [1,1,1,1,1]],[(1,tyA),(3,tyS)],fun x=>instant_moment_text_J0 n (x.1) (x.2)⟩::q108_jt1 n
theorem instant_moment_text_ok (n:Nat):FnOK Tryz.prog (q108_E n) :=
 fn_t (q108_E n) Tryz.f108 (bodyOf Tryz.f108) [(0,.agg [.int .i64,.int .i64,.int .i64,.int .i64,.int .i64,.int .i64,.int .i64,.int .i64,.int .i64,.int .i64,.int .u8])] [] (q108_ct n) [] [] (q108_jt0 n) q108_dr (by kernel_rfl) (by kernel_rfl) (by kernel_rfl) (by kernel_rfl) (by kernel_rfl) ⟨.nil,(.cons (instant_pad_ok n) (.cons (strings_TrimRight_ok n) .nil)),.nil,.nil,(.cons (fun x=>by kernel_rfl) (.cons (fun x=>by kernel_rfl) .nil))⟩ (fun x=>by kernel_rfl)
def instant_OfSeconds_J1 (n:Nat)(a0:Int)(a1:Int)(a2:Int):M (ByteArray×Int) :=
 M.bind (civil_Date n a1) fun x0 =>
 if !decide (x0.2.2.2=0) then
  M.pure ((ofBytes []),13)
 else
  M.bind (ckM (decide (3600≠0))) fun x1 =>
  M.bind (ckM (decide (60≠0))) fun x2 =>
  M.bind (ckM (decide (60≠0))) fun x3 =>
  M.bind (ckM (decide (60≠0))) fun x4 =>
  M.bind (newB none T_instant_moment [vi 0,vi 0,vi 0,vi 0,vi 0,vi 0,vi 0,vi 0,vi 0,vi 0,Value.int IntKind.u8 0]) fun x5 =>
  M.bind (stN (adr x5) [vi 3,vi x0.1,vi x0.2.1,vi x0.2.2.1,vi (IntKind.i64.wrap (a2.tdiv 3600)),vi ((IntKind.i64.wrap (a2.tdiv 60)).tmod 60),vi (a2.tmod 60),vi 0,vi 0,vi a0,Value.int IntKind.u8 0]) fun x6 =>
  M.bind (ldLs [li,li,li,li,li,li,li,li,li,li,.int IntKind.u8] (adr x5)) fun (x7:Int×Int×Int×Int×Int×Int×Int×Int×Int×Int×Int) =>
  M.bind (instant_moment_text n (x7.1,x7.2.1,x7.2.2.1,x7.2.2.2.1,x7.2.2.2.2.1,x7.2.2.2.2.2.1,x7.2.2.2.2.2.2.1,x7.2.2.2.2.2.2.2.1,x7.2.2.2.2.2.2.2.2.1,x7.2.2.2.2.2.2.2.2.2.1,x7.2.2.2.2.2.2.2.2.2.2)) fun x8 =>
  M.bind (catS x8 (ofBytes [90])) fun x9 =>
  M.pure (x9,0)
def instant_OfSeconds_J0 (n:Nat)(a0:Int)(a1:Int):M (ByteArray×Int) :=
 M.bind (ckM (decide (86400≠0))) fun x0 =>
 M.bind (ckM (decide (86400≠0))) fun x1 =>
 if decide (a0.tmod 86400<0) then
  instant_OfSeconds_J1 n a1 (IntKind.i64.wrap (IntKind.i64.wrap (a0.tdiv 86400) - 1)) (IntKind.i64.wrap (a0.tmod 86400+86400))
 else
  instant_OfSeconds_J1 n a1 (IntKind.i64.wrap (a0.tdiv 86400)) (a0.tmod 86400)
def instant_OfSeconds (n:Nat)(a0:Int)(a1:Int):M (ByteArray×Int) :=
 if decide (a1<0) then
  M.pure ((ofBytes []),2)
 else
  if decide (999999999<a1) then
   M.pure ((ofBytes []),2)
  else
   if decide (a0 < -62167219200) then
    M.pure ((ofBytes []),13)
   else
    if decide (253402300800≤a0) then
     M.pure ((ofBytes []),13)
    else
     instant_OfSeconds_J0 n a0 a1
abbrev q76_E (n:Nat):Ent:=⟨76,[tyI,tyI],[tyS,tyI],fun x=>instant_OfSeconds n (x.1) (x.2)⟩
abbrev q76_ct (n:Nat):List Ent:=[q107_E n,q108_E n]
abbrev q76_jt2 (n:Nat):List (JEnt (ByteArray×Int)):=[]
abbrev q76_jt1 (n:Nat):List (JEnt (ByteArray×Int)):=⟨[0,1,1,1,1,1],[.code [1,1,1,1,1,1]],[(1,tyI),(6,tyI),(7,tyI)],fun x=>instant_OfSeconds_J1 n (x.1) (x.2.1) (x.2.2)⟩::q76_jt2 n
abbrev q76_jt0 (n:Nat):List (JEnt (ByteArray×Int)):=⟨[0,1,1,1],[.code [1,1,1,1]],[(0,tyI),(1,tyI)],fun x=>instant_OfSeconds_J0 n (x.1) (x.2)⟩::q76_jt1 n
theorem instant_OfSeconds_ok (n:Nat):FnOK Tryz.prog (q76_E n) :=
 fn_t (q76_E n) Tryz.f76 (bodyOf Tryz.f76) [(0,tyI),(1,tyI)] [] (q76_ct n) [] [] (q76_jt0 n) dr0 (by kernel_rfl) (by kernel_rfl) (by kernel_rfl) (by kernel_rfl) (by kernel_rfl) ⟨.nil,(.cons (civil_Date_ok n) (.cons (instant_moment_text_ok n) .nil)),.nil,.nil,(.cons (fun x=>by kernel_rfl) (.cons (fun x=>by kernel_rfl) .nil))⟩ (fun x=>by kernel_rfl)
def instant_moment_seconds (n:Nat)(a0:Int×Int×Int×Int×Int×Int×Int×Int×Int×Int×Int):M (Int) :=
 M.bind (newB none T_instant_moment [vi a0.1,vi a0.2.1,vi a0.2.2.1,vi a0.2.2.2.1,vi a0.2.2.2.2.1,vi a0.2.2.2.2.2.1,vi a0.2.2.2.2.2.2.1,vi a0.2.2.2.2.2.2.2.1,vi a0.2.2.2.2.2.2.2.2.1,vi a0.2.2.2.2.2.2.2.2.2.1,Value.int IntKind.u8 a0.2.2.2.2.2.2.2.2.2.2]) fun x0 =>
 M.bind (ckM (decide (0≤0∧0<(↑8:Int)))) fun x1 =>
 M.bind (ldL (li) (((adr x0).plus 1).plus 0)) fun (x2:Int) =>
 M.bind (ckM (decide (0≤1∧1<(↑8:Int)))) fun x3 =>
 M.bind (ldL (li) (((adr x0).plus 1).plus 1)) fun (x4:Int) =>
 M.bind (ckM (decide (0≤2∧2<(↑8:Int)))) fun x5 =>
 M.bind (ldL (li) (((adr x0).plus 1).plus 2)) fun (x6:Int) =>
 M.bind (civil_Days n x2 x4 x6) fun x7 =>
 M.bind (ckM (decide (0≤3∧3<(↑8:Int)))) fun x8 =>
 M.bind (ldL (li) (((adr x0).plus 1).plus 3)) fun (x9:Int) =>
 M.bind (ckM (decide (0≤4∧4<(↑8:Int)))) fun x10 =>
 M.bind (ldL (li) (((adr x0).plus 1).plus 4)) fun (x11:Int) =>
 M.bind (ckM (decide (0≤5∧5<(↑8:Int)))) fun x12 =>
 M.bind (ldL (li) (((adr x0).plus 1).plus 5)) fun (x13:Int) =>
 M.bind (ckM (decide (0≤6∧6<(↑8:Int)))) fun x14 =>
 M.bind (ldL (li) (((adr x0).plus 1).plus 6)) fun (x15:Int) =>
 M.bind (ckM (decide (0≤7∧7<(↑8:Int)))) fun x16 =>
 M.bind (ldL (li) (((adr x0).plus 1).plus 7)) fun (x17:Int) =>
 M.bind (ldL (.int IntKind.u8) ((adr x0).plus 10)) fun (x18:Int) =>
 if decide (x18=43) then
  M.pure (IntKind.i64.wrap (IntKind.i64.wrap (IntKind.i64.wrap (IntKind.i64.wrap (IntKind.i64.wrap (x7.1 * 86400)+IntKind.i64.wrap (x9 * 3600))+IntKind.i64.wrap (x11 * 60))+x13) - IntKind.i64.wrap (IntKind.i64.wrap (x15 * 3600)+IntKind.i64.wrap (x17 * 60))))
 else
  M.pure (IntKind.i64.wrap (IntKind.i64.wrap (IntKind.i64.wrap (IntKind.i64.wrap (IntKind.i64.wrap (x7.1 * 86400)+IntKind.i64.wrap (x9 * 3600))+IntKind.i64.wrap (x11 * 60))+x13)+IntKind.i64.wrap (IntKind.i64.wrap (x15 * 3600)+IntKind.i64.wrap (x17 * 60))))
abbrev q77_E (n:Nat):Ent:=⟨77,[.agg [.int .i64,.int .i64,.int .i64,.int .i64,.int .i64,.int .i64,.int .i64,.int .i64,.int .i64,.int .i64,.int .u8]],[tyI],fun x=>instant_moment_seconds n x⟩
abbrev q77_ct (n:Nat):List Ent:=[q106_E n]
theorem instant_moment_seconds_ok (n:Nat):FnOK Tryz.prog (q77_E n) :=
 fn_t (q77_E n) Tryz.f77 (bodyOf Tryz.f77) [(0,.agg [.int .i64,.int .i64,.int .i64,.int .i64,.int .i64,.int .i64,.int .i64,.int .i64,.int .i64,.int .i64,.int .u8])] [] (q77_ct n) [] [] [] dr0 (by kernel_rfl) (by kernel_rfl) (by kernel_rfl) (by kernel_rfl) (by kernel_rfl) ⟨.nil,(.cons (civil_Days_ok n) .nil),.nil,.nil,.nil⟩ (fun x=>by kernel_rfl)
def instant_Instant_J0 (n:Nat)(a0:Addr):M (ByteArray×Int) :=
 M.bind (ldLs [li,li,li,li,li,li,li,li,li,li,.int IntKind.u8] a0) fun (x0:Int×Int×Int×Int×Int×Int×Int×Int×Int×Int×Int) =>
 M.bind (instant_moment_ranges n (x0.1,x0.2.1,x0.2.2.1,x0.2.2.2.1,x0.2.2.2.2.1,x0.2.2.2.2.2.1,x0.2.2.2.2.2.2.1,x0.2.2.2.2.2.2.2.1,x0.2.2.2.2.2.2.2.2.1,x0.2.2.2.2.2.2.2.2.2.1,x0.2.2.2.2.2.2.2.2.2.2)) fun x1 =>
 if !x1 then
  M.pure ((ofBytes []),13)
 else
  M.bind (ldLs [li,li,li,li,li,li,li,li,li,li,.int IntKind.u8] a0) fun (x2:Int×Int×Int×Int×Int×Int×Int×Int×Int×Int×Int) =>
  M.bind (ldL (li) (a0.plus 9)) fun (x3:Int) =>
  M.bind (chk [some (a0.plus 9)] (instant_moment_seconds n (x2.1,x2.2.1,x2.2.2.1,x2.2.2.2.1,x2.2.2.2.2.1,x2.2.2.2.2.2.1,x2.2.2.2.2.2.2.1,x2.2.2.2.2.2.2.2.1,x2.2.2.2.2.2.2.2.2.1,x2.2.2.2.2.2.2.2.2.2.1,x2.2.2.2.2.2.2.2.2.2.2))) fun x4 =>
  M.bind (instant_OfSeconds n x4 x3) fun x5 =>
  M.pure (x5.1,x5.2)
def instant_Instant (n:Nat)(a0:ByteArray):M (ByteArray×Int) :=
 M.bind (instant_read n a0) fun x0 =>
 M.bind (newB none T_instant_moment [vi 0,vi 0,vi 0,vi 0,vi 0,vi 0,vi 0,vi 0,vi 0,vi 0,Value.int IntKind.u8 0]) fun x1 =>
 M.bind (stN (adr x1) [vi x0.1.1,vi x0.1.2.1,vi x0.1.2.2.1,vi x0.1.2.2.2.1,vi x0.1.2.2.2.2.1,vi x0.1.2.2.2.2.2.1,vi x0.1.2.2.2.2.2.2.1,vi x0.1.2.2.2.2.2.2.2.1,vi x0.1.2.2.2.2.2.2.2.2.1,vi x0.1.2.2.2.2.2.2.2.2.2.1,Value.int IntKind.u8 x0.1.2.2.2.2.2.2.2.2.2.2]) fun x2 =>
 if !x0.2 then
  M.pure ((ofBytes []),3)
 else
  M.bind (ldL (.int IntKind.u8) ((adr x1).plus 10)) fun (x3:Int) =>
  if decide (x3=0) then
   M.pure ((ofBytes []),3)
  else
   instant_Instant_J0 n (adr x1)
abbrev q58_E (n:Nat):Ent:=⟨58,[tyS],[tyS,tyI],fun x=>instant_Instant n x⟩
abbrev q58_ct (n:Nat):List Ent:=[q74_E n,q75_E n,q76_E n,q77_E n]
def q58_dr (i:Nat):Option (List (Nat×List Nat)):=cond (Nat.beq i 6) (some [(2,[]),(0,[]),(3,[]),(1,[3]),(4,[]),(5,[]),(6,[]),(7,[]),(8,[])]) (none)
abbrev q58_jt1 (n:Nat):List (JEnt (ByteArray×Int)):=[]
abbrev q58_jt0 (n:Nat):List (JEnt (ByteArray×Int)):=⟨[0,0,1,1,1],[.code [1,0,1,1,1],.code [1,1,1,1]],[(4,tyA)],fun x=>instant_Instant_J0 n x⟩::q58_jt1 n
theorem instant_Instant_ok (n:Nat):FnOK Tryz.prog (q58_E n) :=
 fn_t (q58_E n) Tryz.f58 (bodyOf Tryz.f58) [(0,tyS)] [] (q58_ct n) [] [] (q58_jt0 n) q58_dr (by kernel_rfl) (by kernel_rfl) (by kernel_rfl) (by kernel_rfl) (by kernel_rfl) ⟨.nil,(.cons (instant_read_ok n) (.cons (instant_moment_ranges_ok n) (.cons (instant_OfSeconds_ok n) (.cons (instant_moment_seconds_ok n) .nil)))),.nil,.nil,(.cons (fun x=>by kernel_rfl) .nil)⟩ (fun x=>by kernel_rfl)
def instant_Local (n:Nat)(a0:ByteArray):M (ByteArray×Int) :=
 M.bind (instant_read n a0) fun x0 =>
 M.bind (newB none T_instant_moment [vi 0,vi 0,vi 0,vi 0,vi 0,vi 0,vi 0,vi 0,vi 0,vi 0,Value.int IntKind.u8 0]) fun x1 =>
 M.bind (stN (adr x1) [vi x0.1.1,vi x0.1.2.1,vi x0.1.2.2.1,vi x0.1.2.2.2.1,vi x0.1.2.2.2.2.1,vi x0.1.2.2.2.2.2.1,vi x0.1.2.2.2.2.2.2.1,vi x0.1.2.2.2.2.2.2.2.1,vi x0.1.2.2.2.2.2.2.2.2.1,vi x0.1.2.2.2.2.2.2.2.2.2.1,Value.int IntKind.u8 x0.1.2.2.2.2.2.2.2.2.2.2]) fun x2 =>
 if !x0.2 then
  M.pure ((ofBytes []),3)
 else
  M.bind (ldL (.int IntKind.u8) ((adr x1).plus 10)) fun (x3:Int) =>
  if !decide (x3=0) then
   M.pure ((ofBytes []),3)
  else
   M.bind (ldLs [li,li,li,li,li,li,li,li,li,li,.int IntKind.u8] (adr x1)) fun (x4:Int×Int×Int×Int×Int×Int×Int×Int×Int×Int×Int) =>
   M.bind (instant_moment_ranges n (x4.1,x4.2.1,x4.2.2.1,x4.2.2.2.1,x4.2.2.2.2.1,x4.2.2.2.2.2.1,x4.2.2.2.2.2.2.1,x4.2.2.2.2.2.2.2.1,x4.2.2.2.2.2.2.2.2.1,x4.2.2.2.2.2.2.2.2.2.1,x4.2.2.2.2.2.2.2.2.2.2)) fun x5 =>
   if !x5 then
    M.pure ((ofBytes []),13)
   else
    M.bind (ldLs [li,li,li,li,li,li,li,li,li,li,.int IntKind.u8] (adr x1)) fun (x6:Int×Int×Int×Int×Int×Int×Int×Int×Int×Int×Int) =>
    M.bind (instant_moment_text n (x6.1,x6.2.1,x6.2.2.1,x6.2.2.2.1,x6.2.2.2.2.1,x6.2.2.2.2.2.1,x6.2.2.2.2.2.2.1,x6.2.2.2.2.2.2.2.1,x6.2.2.2.2.2.2.2.2.1,x6.2.2.2.2.2.2.2.2.2.1,x6.2.2.2.2.2.2.2.2.2.2)) fun x7 =>
    M.pure (x7,0)
abbrev q78_E (n:Nat):Ent:=⟨78,[tyS],[tyS,tyI],fun x=>instant_Local n x⟩
abbrev q78_ct (n:Nat):List Ent:=[q74_E n,q75_E n,q108_E n]
theorem instant_Local_ok (n:Nat):FnOK Tryz.prog (q78_E n) :=
 fn_t (q78_E n) Tryz.f78 (bodyOf Tryz.f78) [(0,tyS)] [] (q78_ct n) [] [] [] dr0 (by kernel_rfl) (by kernel_rfl) (by kernel_rfl) (by kernel_rfl) (by kernel_rfl) ⟨.nil,(.cons (instant_read_ok n) (.cons (instant_moment_ranges_ok n) (.cons (instant_moment_text_ok n) .nil))),.nil,.nil,.nil⟩ (fun x=>by kernel_rfl)
def instant_Shape (n:Nat)(a0:ByteArray):M (Int) :=
 M.bind (instant_Local n a0) fun x0 =>
 if !decide (x0.2=0) then
  M.pure 0
 else
  if !eqS x0.1 a0 then
   M.pure 0
  else
   M.bind (instant_read n a0) fun x1 =>
   M.bind (newB none T_instant_moment [vi 0,vi 0,vi 0,vi 0,vi 0,vi 0,vi 0,vi 0,vi 0,vi 0,Value.int IntKind.u8 0]) fun x2 =>
   M.bind (stN (adr x2) [vi x1.1.1,vi x1.1.2.1,vi x1.1.2.2.1,vi x1.1.2.2.2.1,vi x1.1.2.2.2.2.1,vi x1.1.2.2.2.2.2.1,vi x1.1.2.2.2.2.2.2.1,vi x1.1.2.2.2.2.2.2.2.1,vi x1.1.2.2.2.2.2.2.2.2.1,vi x1.1.2.2.2.2.2.2.2.2.2.1,Value.int IntKind.u8 x1.1.2.2.2.2.2.2.2.2.2.2]) fun x3 =>
   M.bind (ldL (li) ((adr x2).plus 0)) fun (x4:Int) =>
   M.pure x4
abbrev q59_E (n:Nat):Ent:=⟨59,[tyS],[tyI],fun x=>instant_Shape n x⟩
abbrev q59_ct (n:Nat):List Ent:=[q74_E n,q78_E n]
theorem instant_Shape_ok (n:Nat):FnOK Tryz.prog (q59_E n) :=
 fn_t (q59_E n) Tryz.f59 (bodyOf Tryz.f59) [(0,tyS)] [] (q59_ct n) [] [] [] dr0 (by kernel_rfl) (by kernel_rfl) (by kernel_rfl) (by kernel_rfl) (by kernel_rfl) ⟨.nil,(.cons (instant_read_ok n) (.cons (instant_Local_ok n) .nil)),.nil,.nil,.nil⟩ (fun x=>by kernel_rfl)
def graph_scalar (n:Nat)(a0:Int)(a1:ByteArray):M (Bool) :=
 if decide (a0=0) then
  M.pure (eqS a1 (ofBytes []))
 else
  if decide (a0=1) then
   if eqS a1 (ofBytes [116,114,117,101]) then
    M.pure true
   else
    M.pure (eqS a1 (ofBytes [102,97,108,115,101]))
  else
   if decide (a0=2) then
    M.bind (integer_Valid n a1) fun x0 =>
    M.pure x0
   else
    if decide (a0=3) then
     M.bind (decimal_Valid n a1) fun x0 =>
     M.pure x0
    else
     if decide (a0=4) then
      M.bind (binary_Valid n a1) fun x0 =>
      M.pure x0
     else
      if decide (a0=5) then
       M.bind (codepoint_Check n a1) fun x0 =>
       M.pure (decide (x0.2=0))
      else
       if decide (a0=6) then
        M.pure true
       else
        if decide (a0=7) then
         M.bind (instant_Instant n a1) fun x0 =>
         if decide (x0.2=0) then
          M.pure (eqS x0.1 a1)
         else
          M.pure false
        else
         if decide (a0=8) then
          M.bind (instant_Shape n a1) fun x0 =>
          M.pure !decide (x0=0)
         else
          M.pure false
abbrev q45_E (n:Nat):Ent:=⟨45,[tyI,tyS],[tyB],fun x=>graph_scalar n (x.1) (x.2)⟩
abbrev q45_ct (n:Nat):List Ent:=[q54_E n,q55_E n,q56_E n,⟨57,[tyS],[tyI,tyI],fun x=>codepoint_Check n x⟩,q58_E n,q59_E n]
theorem graph_scalar_ok (n:Nat):FnOK Tryz.prog (q45_E n) :=
 fn_t (q45_E n) Tryz.f45 (bodyOf Tryz.f45) [(0,tyI),(1,tyS)] [] (q45_ct n) [] [] [] dr0 (by kernel_rfl) (by kernel_rfl) (by kernel_rfl) (by kernel_rfl) (by kernel_rfl) ⟨.nil,(.cons (integer_Valid_ok n) (.cons (decimal_Valid_ok n) (.cons (binary_Valid_ok n) (.cons (codepoint_Check_ok n) (.cons (instant_Instant_ok n) (.cons (instant_Shape_ok n) .nil)))))),.nil,.nil,.nil⟩ (fun x=>by kernel_rfl)
def graph_form (n:Nat)(a0:Int×ByteArray×Bool×Sl×Sl):M (Bool) :=
 M.bind (newB none T_api_Node [vi a0.1,Value.string a0.2.1,Value.bool a0.2.2.1,vsl a0.2.2.2.1,vsl a0.2.2.2.2]) fun x0 =>
 M.bind (ldL (li) ((adr x0).plus 0)) fun (x1:Int) =>
 if decide (x1=9) then
  M.bind (ldL .str ((adr x0).plus 1)) fun (x2:ByteArray) =>
  if eqS x2 (ofBytes []) then
   M.bind (ldL .bool ((adr x0).plus 2)) fun (x3:Bool) =>
   if !x3 then
    M.bind (ldL .sl ((adr x0).plus 3)) fun (x4:Sl) =>
    M.pure (decide ((↑x4.len:Int)=0))
   else
    M.pure false
  else
   M.pure false
 else
  if decide (x1=10) then
   M.bind (ldL .str ((adr x0).plus 1)) fun (x2:ByteArray) =>
   if eqS x2 (ofBytes []) then
    M.bind (ldL .sl ((adr x0).plus 3)) fun (x3:Sl) =>
    M.bind (ldL .sl ((adr x0).plus 4)) fun (x4:Sl) =>
    M.pure (decide ((↑x3.len:Int)=(↑x4.len:Int)))
   else
    M.pure false
  else
   if decide (x1=11) then
    M.bind (ldL .str ((adr x0).plus 1)) fun (x2:ByteArray) =>
    M.bind (graph_name n x2) fun x3 =>
    if x3 then
     M.bind (ldL .bool ((adr x0).plus 2)) fun (x4:Bool) =>
     if !x4 then
      M.bind (ldL .sl ((adr x0).plus 3)) fun (x5:Sl) =>
      if decide ((↑x5.len:Int)=0) then
       M.bind (ldL .sl ((adr x0).plus 4)) fun (x6:Sl) =>
       M.pure (decide ((↑x6.len:Int)=1))
      else
       M.pure false
     else
      M.pure false
    else
     M.pure false
   else
    M.bind (ldL .bool ((adr x0).plus 2)) fun (x2:Bool) =>
    if !x2 then
     M.bind (ldL .sl ((adr x0).plus 3)) fun (x3:Sl) =>
     if decide ((↑x3.len:Int)=0) then
      M.bind (ldL .sl ((adr x0).plus 4)) fun (x4:Sl) =>
      if decide ((↑x4.len:Int)=0) then
       M.bind (ldL (li) ((adr x0).plus 0)) fun (x5:Int) =>
       M.bind (ldL .str ((adr x0).plus 1)) fun (x6:ByteArray) =>
       M.bind (graph_scalar n x5 x6) fun x7 =>
       M.pure x7
      else
       M.pure false
     else
      M.pure false
    else
     M.pure false
abbrev q34_E (n:Nat):Ent:=⟨34,[.agg [.int .i64,.str,.bool,.sl,.sl]],[tyB],fun x=>graph_form n x⟩
abbrev q34_ct (n:Nat):List Ent:=[q44_E n,q45_E n]
theorem graph_form_ok (n:Nat):FnOK Tryz.prog (q34_E n) :=
 fn_t (q34_E n) Tryz.f34 (bodyOf Tryz.f34) [(0,.agg [.int .i64,.str,.bool,.sl,.sl])] [] (q34_ct n) [] [] [] dr0 (by kernel_rfl) (by kernel_rfl) (by kernel_rfl) (by kernel_rfl) (by kernel_rfl) ⟨.nil,(.cons (graph_name_ok n) (.cons (graph_scalar_ok n) .nil)),.nil,.nil,.nil⟩ (fun x=>by kernel_rfl)
def graph_counts_L1_B (G:Sl→Addr→Sl→Int→Int→Sl→Int→Int→M (Unit))(n:Nat)(a0:Sl)(a1:Addr)(a2:Sl)(a3:Int)(a4:Int)(a5:Sl)(a6:Int)(a7:Int):M (Unit) :=
 if decide (a7<a6) then
  M.bind (idxA a5 a7 1) fun x0 =>
  M.bind (ldL (li) x0) fun (x1:Int) =>
  M.bind (idxA a0 x1 1) fun x2 =>
  M.bind (ldL (li) x2) fun (x3:Int) =>
  M.bind (idxA a0 x1 1) fun x4 =>
  M.bind (stN x4 [vi (IntKind.i64.wrap (x3+1))]) fun x5 =>
  G a0 a1 a2 a3 a4 a5 a6 (IntKind.i64.wrap (a7+1))
 else
  M.pure ()
def graph_counts_L1:Nat→Sl→Addr→Sl→Int→Int→Sl→Int→Int→M (Unit)
 | 0=>fun _ _ _ _ _ _ _ _=>M.fail
 | n+1=>graph_counts_L1_B (graph_counts_L1 n) n
theorem graph_counts_L1_succ (n:Nat):graph_counts_L1 (n+1)=graph_counts_L1_B (graph_counts_L1 n) n:=rfl
def graph_counts_L2_B (G:Sl→Sl→Int→Int→Sl→Int→Int→M (Unit))(n:Nat)(a0:Sl)(a1:Sl)(a2:Int)(a3:Int)(a4:Sl)(a5:Int)(a6:Int):M (Unit) :=
 if decide (a6<a5) then
  M.bind (idxA a4 a6 1) fun x0 =>
  M.bind (ldL (li) x0) fun (x1:Int) =>
  M.bind (idxA a0 x1 1) fun x2 =>
  M.bind (ldL (li) x2) fun (x3:Int) =>
  M.bind (idxA a0 x1 1) fun x4 =>
  M.bind (stN x4 [vi (IntKind.i64.wrap (x3+1))]) fun x5 =>
  G a0 a1 a2 a3 a4 a5 (IntKind.i64.wrap (a6+1))
 else
  M.pure ()
def graph_counts_L2:Nat→Sl→Sl→Int→Int→Sl→Int→Int→M (Unit)
 | 0=>fun _ _ _ _ _ _ _=>M.fail
 | n+1=>graph_counts_L2_B (graph_counts_L2 n) n
theorem graph_counts_L2_succ (n:Nat):graph_counts_L2 (n+1)=graph_counts_L2_B (graph_counts_L2 n) n:=rfl
def graph_counts_L0_B (G:Sl→Sl→Int→Int→M (Unit))(n:Nat)(a0:Sl)(a1:Sl)(a2:Int)(a3:Int):M (Unit) :=
 if decide (a3<a2) then
  M.bind (idxA a1 a3 5) fun x0 =>
  M.bind (ldLs [li,.str,.bool,.sl,.sl] x0) fun (x1:Int×ByteArray×Bool×Sl×Sl) =>
  M.bind (newB none T_api_Node [vi 0,Value.string (ofBytes []),Value.bool false,vsl0,vsl0]) fun x2 =>
  M.bind (stN (adr x2) [vi x1.1,Value.string x1.2.1,Value.bool x1.2.2.1,vsl x1.2.2.2.1,vsl x1.2.2.2.2]) fun x3 =>
  M.bind (ldL .sl ((adr x2).plus 3)) fun (x4:Sl) =>
  M.bind (graph_counts_L1 n a0 (adr x2) a1 a2 a3 x4 (↑x4.len:Int) 0) fun x5 =>
  M.bind (ldL .sl ((adr x2).plus 4)) fun (x6:Sl) =>
  M.bind (graph_counts_L2 n a0 a1 a2 a3 x6 (↑x6.len:Int) 0) fun x7 =>
  G a0 a1 a2 (IntKind.i64.wrap (a3+1))
 else
  M.pure ()
def graph_counts_L0:Nat→Sl→Sl→Int→Int→M (Unit)
 | 0=>fun _ _ _ _=>M.fail
 | n+1=>graph_counts_L0_B (graph_counts_L0 n) n
theorem graph_counts_L0_succ (n:Nat):graph_counts_L0 (n+1)=graph_counts_L0_B (graph_counts_L0 n) n:=rfl
def graph_counts (n:Nat)(a0:Sl×Int):M (Sl) :=
 M.bind (newB none T_api_Graph [vsl a0.1,vi a0.2]) fun x0 =>
 M.bind (ldL .sl ((adr x0).plus 0)) fun (x1:Sl) =>
 M.bind (mkS none T_i64 [vi 0] (↑x1.len:Int) (↑x1.len:Int)) fun x2 =>
 M.bind (ldL (li) ((adr x0).plus 1)) fun (x3:Int) =>
 M.bind (idxA x2 x3 1) fun x4 =>
 M.bind (ldL (li) x4) fun (x5:Int) =>
 M.bind (idxA x2 x3 1) fun x6 =>
 M.bind (stN x6 [vi (IntKind.i64.wrap (x5+1))]) fun x7 =>
 M.bind (ldL .sl ((adr x0).plus 0)) fun (x8:Sl) =>
 M.bind (graph_counts_L0 n x2 x8 (↑x8.len:Int) 0) fun x9 =>
 M.pure x2
abbrev q35_E (n:Nat):Ent:=⟨35,[.agg [.sl,.int .i64]],[tyL],fun x=>graph_counts n x⟩
abbrev q35_L0_a:List (Nat×Ty):=[(3,tyL),(22,tyL),(23,tyI),(24,tyI)]
abbrev q35_L0_w:List Nat:=[5,7,9,24,25,26,27,28,29,30,31,32,33,34,35,36,37,38,39,40,41,42,43,44,45,46,47,48,49,50,51,52,53,54,55,56]
abbrev q35_L0_p:Path:=[0,1,0,1,1,1]
abbrev q35_L0_g (n:Nat)(x:TsDen (tys q35_L0_a)):M (Unit):=graph_counts_L0 n (x.1) (x.2.1) (x.2.2.1) (x.2.2.2)
abbrev q35_L0_l (n:Nat):LEnt:=⟨q35_L0_p,q35_L0_a,actL1 q35_L0_a [] q35_L0_w 0 (q35_L0_g n)⟩
abbrev q35_L1_a:List (Nat×Ty):=[(3,tyL),(5,tyA),(22,tyL),(23,tyI),(24,tyI),(29,tyL),(30,tyI),(31,tyI)]
abbrev q35_L1_w:List Nat:=[7,31,32,33,34,35,36,37,38,39,40,41]
abbrev q35_L1_p:Path:=[0,1,0,1,0,0,1,1,0,0,1,0,1,1,1]
abbrev q35_L1_g (n:Nat)(x:TsDen (tys q35_L1_a)):M (Unit):=graph_counts_L1 n (x.1) (x.2.1) (x.2.2.1) (x.2.2.2.1) (x.2.2.2.2.1) (x.2.2.2.2.2.1) (x.2.2.2.2.2.2.1) (x.2.2.2.2.2.2.2)
abbrev q35_L1_l (n:Nat):LEnt:=⟨q35_L1_p,q35_L1_a,actL1 q35_L1_a [] q35_L1_w 2 (q35_L1_g n)⟩
abbrev q35_L2_a:List (Nat×Ty):=[(3,tyL),(22,tyL),(23,tyI),(24,tyI),(43,tyL),(44,tyI),(45,tyI)]
abbrev q35_L2_w:List Nat:=[9,45,46,47,48,49,50,51,52,53,54,55]
abbrev q35_L2_p:Path:=[0,1,1,1,0,0,1,1,0,0,1,0,1,1,1]
abbrev q35_L2_g (n:Nat)(x:TsDen (tys q35_L2_a)):M (Unit):=graph_counts_L2 n (x.1) (x.2.1) (x.2.2.1) (x.2.2.2.1) (x.2.2.2.2.1) (x.2.2.2.2.2.1) (x.2.2.2.2.2.2)
abbrev q35_L2_l (n:Nat):LEnt:=⟨q35_L2_p,q35_L2_a,actL1 q35_L2_a [] q35_L2_w 4 (q35_L2_g n)⟩
abbrev q35_L0_lt (n:Nat):List LEnt:=[q35_L1_l n,q35_L2_l n]
abbrev q35_lt (n:Nat):List LEnt:=[q35_L0_l n]
theorem q35_L1_ok (n:Nat){W:Wr}(hW:subW W 58 q35_L1_w=true):LEntOK Tryz.prog (bodyOf Tryz.f35) W (q35_L1_l n) :=
 loop1_t (bodyOf Tryz.f35) q35_L1_p q35_L1_a [] 2 58 q35_L1_w [] (fun _=>[]) (fun _=>[]) (fun _=>[]) dr0 q35_L1_g (fun _=>[]) (by kernel_rfl) (fun _=>by kernel_rfl) (fun n x=>by kernel_rfl) n (fun m hm=>⟨.nil,.nil,.nil,.nil,.nil⟩) hW
theorem q35_L2_ok (n:Nat){W:Wr}(hW:subW W 58 q35_L2_w=true):LEntOK Tryz.prog (bodyOf Tryz.f35) W (q35_L2_l n) :=
 loop1_t (bodyOf Tryz.f35) q35_L2_p q35_L2_a [] 4 58 q35_L2_w [] (fun _=>[]) (fun _=>[]) (fun _=>[]) dr0 q35_L2_g (fun _=>[]) (by kernel_rfl) (fun _=>by kernel_rfl) (fun n x=>by kernel_rfl) n (fun m hm=>⟨.nil,.nil,.nil,.nil,.nil⟩) hW
theorem q35_L0_ok (n:Nat){W:Wr}(hW:subW W 58 q35_L0_w=true):LEntOK Tryz.prog (bodyOf Tryz.f35) W (q35_L0_l n) :=
 loop1_t (bodyOf Tryz.f35) q35_L0_p q35_L0_a [] 0 58 q35_L0_w [] (fun _=>[]) (fun _=>[]) q35_L0_lt dr0 q35_L0_g (fun _=>[]) (by kernel_rfl) (fun _=>by kernel_rfl) (fun n x=>by kernel_rfl) n (fun m hm=>⟨.nil,.nil,.nil,(.cons (q35_L1_ok m (by kernel_rfl)) (.cons (q35_L2_ok m (by kernel_rfl)) .nil)),.nil⟩) hW
theorem graph_counts_ok (n:Nat):FnOK Tryz.prog (q35_E n) :=
 fn_t (q35_E n) Tryz.f35 (bodyOf Tryz.f35) [(0,.agg [.sl,.int .i64])] [] [] [] (q35_lt n) [] dr0 (by kernel_rfl) (by kernel_rfl) (by kernel_rfl) (by kernel_rfl) (by kernel_rfl) ⟨.nil,.nil,.nil,(.cons (q35_L0_ok n (by kernel_rfl)) .nil),.nil⟩ (fun x=>by kernel_rfl)
def graph_inKeys_L1_B (G:Addr→Sl→Sl→Int→Int→Sl→Int→Int→M (Unit))(n:Nat)(a0:Addr)(a1:Sl)(a2:Sl)(a3:Int)(a4:Int)(a5:Sl)(a6:Int)(a7:Int):M (Unit) :=
 if decide (a7<a6) then
  M.bind (idxA a5 a7 1) fun x0 =>
  M.bind (ldL (li) x0) fun (x1:Int) =>
  M.bind (ldLs [.sl,li] a0) fun (x2:Sl×Int) =>
  M.bind (graph_reached n (x2.1,x2.2) x1 a1) fun x3 =>
  G a0 a1 a2 a3 a4 a5 a6 (IntKind.i64.wrap (a7+1))
 else
  M.pure ()
def graph_inKeys_L1:Nat→Addr→Sl→Sl→Int→Int→Sl→Int→Int→M (Unit)
 | 0=>fun _ _ _ _ _ _ _ _=>M.fail
 | n+1=>graph_inKeys_L1_B (graph_inKeys_L1 n) n
theorem graph_inKeys_L1_succ (n:Nat):graph_inKeys_L1 (n+1)=graph_inKeys_L1_B (graph_inKeys_L1 n) n:=rfl
def graph_inKeys_L0_B (G:Addr→Sl→Sl→Int→Int→M (Unit))(n:Nat)(a0:Addr)(a1:Sl)(a2:Sl)(a3:Int)(a4:Int):M (Unit) :=
 if decide (a4<a3) then
  M.bind (idxA a2 a4 5) fun x0 =>
  M.bind (ldLs [li,.str,.bool,.sl,.sl] x0) fun (x1:Int×ByteArray×Bool×Sl×Sl) =>
  M.bind (newB none T_api_Node [vi 0,Value.string (ofBytes []),Value.bool false,vsl0,vsl0]) fun x2 =>
  M.bind (stN (adr x2) [vi x1.1,Value.string x1.2.1,Value.bool x1.2.2.1,vsl x1.2.2.2.1,vsl x1.2.2.2.2]) fun x3 =>
  M.bind (ldL .sl ((adr x2).plus 3)) fun (x4:Sl) =>
  M.bind (graph_inKeys_L1 n a0 a1 a2 a3 a4 x4 (↑x4.len:Int) 0) fun x5 =>
  G a0 a1 a2 a3 (IntKind.i64.wrap (a4+1))
 else
  M.pure ()
def graph_inKeys_L0:Nat→Addr→Sl→Sl→Int→Int→M (Unit)
 | 0=>fun _ _ _ _ _=>M.fail
 | n+1=>graph_inKeys_L0_B (graph_inKeys_L0 n) n
theorem graph_inKeys_L0_succ (n:Nat):graph_inKeys_L0 (n+1)=graph_inKeys_L0_B (graph_inKeys_L0 n) n:=rfl
def graph_inKeys (n:Nat)(a0:Sl×Int):M (Sl) :=
 M.bind (newB none T_api_Graph [vsl a0.1,vi a0.2]) fun x0 =>
 M.bind (ldL .sl ((adr x0).plus 0)) fun (x1:Sl) =>
 M.bind (mkS none T_bool [Value.bool false] (↑x1.len:Int) (↑x1.len:Int)) fun x2 =>
 M.bind (ldL .sl ((adr x0).plus 0)) fun (x3:Sl) =>
 M.bind (graph_inKeys_L0 n (adr x0) x2 x3 (↑x3.len:Int) 0) fun x4 =>
 M.pure x2
abbrev q36_E (n:Nat):Ent:=⟨36,[.agg [.sl,.int .i64]],[tyL],fun x=>graph_inKeys n x⟩
abbrev q36_L0_a:List (Nat×Ty):=[(1,tyA),(3,tyL),(13,tyL),(14,tyI),(15,tyI)]
abbrev q36_L0_w:List Nat:=[5,7,15,16,17,18,19,20,21,22,23,24,25,26,27,28,29,30,31]
abbrev q36_L0_p:Path:=[0,1,0,1,1]
abbrev q36_L0_g (n:Nat)(x:TsDen (tys q36_L0_a)):M (Unit):=graph_inKeys_L0 n (x.1) (x.2.1) (x.2.2.1) (x.2.2.2.1) (x.2.2.2.2)
abbrev q36_L0_l (n:Nat):LEnt:=⟨q36_L0_p,q36_L0_a,actL1 q36_L0_a [] q36_L0_w 0 (q36_L0_g n)⟩
abbrev q36_L1_a:List (Nat×Ty):=[(1,tyA),(3,tyL),(13,tyL),(14,tyI),(15,tyI),(20,tyL),(21,tyI),(22,tyI)]
abbrev q36_L1_w:List Nat:=[7,22,23,24,25,26,27,28,29,30]
abbrev q36_L1_p:Path:=[0,1,1,0,0,1,1,0,0,1,0,1,1]
abbrev q36_L1_g (n:Nat)(x:TsDen (tys q36_L1_a)):M (Unit):=graph_inKeys_L1 n (x.1) (x.2.1) (x.2.2.1) (x.2.2.2.1) (x.2.2.2.2.1) (x.2.2.2.2.2.1) (x.2.2.2.2.2.2.1) (x.2.2.2.2.2.2.2)
abbrev q36_L1_l (n:Nat):LEnt:=⟨q36_L1_p,q36_L1_a,actL1 q36_L1_a [] q36_L1_w 2 (q36_L1_g n)⟩
abbrev q36_ct (n:Nat):List Ent:=[q33_E n]
abbrev q36_L0_lt (n:Nat):List LEnt:=[q36_L1_l n]
abbrev q36_lt (n:Nat):List LEnt:=[q36_L0_l n]
theorem q36_L1_ok (n:Nat){W:Wr}(hW:subW W 33 q36_L1_w=true):LEntOK Tryz.prog (bodyOf Tryz.f36) W (q36_L1_l n) :=
 loop1_t (bodyOf Tryz.f36) q36_L1_p q36_L1_a [] 2 33 q36_L1_w [] q36_ct (fun _=>[]) (fun _=>[]) dr0 q36_L1_g (fun _=>[]) (by kernel_rfl) (fun _=>by kernel_rfl) (fun n x=>by kernel_rfl) n (fun m hm=>⟨.nil,(.cons (graph_reached_ok m) .nil),.nil,.nil,.nil⟩) hW
theorem q36_L0_ok (n:Nat){W:Wr}(hW:subW W 33 q36_L0_w=true):LEntOK Tryz.prog (bodyOf Tryz.f36) W (q36_L0_l n) :=
 loop1_t (bodyOf Tryz.f36) q36_L0_p q36_L0_a [] 0 33 q36_L0_w [] q36_ct (fun _=>[]) q36_L0_lt dr0 q36_L0_g (fun _=>[]) (by kernel_rfl) (fun _=>by kernel_rfl) (fun n x=>by kernel_rfl) n (fun m hm=>⟨.nil,(.cons (graph_reached_ok m) .nil),.nil,(.cons (q36_L1_ok m (by kernel_rfl)) .nil),.nil⟩) hW
theorem graph_inKeys_ok (n:Nat):FnOK Tryz.prog (q36_E n) :=
 fn_t (q36_E n) Tryz.f36 (bodyOf Tryz.f36) [(0,.agg [.sl,.int .i64])] [] (q36_ct n) [] (q36_lt n) [] dr0 (by kernel_rfl) (by kernel_rfl) (by kernel_rfl) (by kernel_rfl) (by kernel_rfl) ⟨.nil,(.cons (graph_reached_ok n) .nil),.nil,(.cons (q36_L0_ok n (by kernel_rfl)) .nil),.nil⟩ (fun x=>by kernel_rfl)
structure Cl_graph_same where
 graph_same_L1:Addr→Addr→Addr→Int→Int→Bool→Sl→Int→Int→Sl→Int→Int→M (Bool)
 graph_same_L0:Addr→Addr→Addr→Sl→Int→Int→M ((Unit) ⊕ (Bool))
 graph_same_L2:Addr→Addr→Addr→Int→Int→M ((Unit) ⊕ (Bool))
 graph_same:(Sl×Int)→Int→Int→M (Bool)
def graph_same_L1_B (G:Cl_graph_same)(n:Nat)(a0:Addr)(a1:Addr)(a2:Addr)(a3:Int)(a4:Int)(a5:Bool)(a6:Sl)(a7:Int)(a8:Int)(a9:Sl)(a10:Int)(a11:Int):M (Bool) :=
 if decide (a11<a10) then
  M.bind (idxA a9 a11 1) fun x0 =>
  M.bind (ldL (li) x0) fun (x1:Int) =>
  if a5 then
   G.graph_same_L1 a0 a1 a2 a3 a4 true a6 a7 a8 a9 a10 (IntKind.i64.wrap (a11+1))
  else
   M.bind (ldLs [.sl,li] a0) fun (x2:Sl×Int) =>
   M.bind (G.graph_same (x2.1,x2.2) a4 x1) fun x3 =>
   if x3 then
    M.bind (ldLs [.sl,li] a0) fun (x4:Sl×Int) =>
    M.bind (ldL .sl (a1.plus 4)) fun (x5:Sl) =>
    M.bind (idxA x5 a3 1) fun x6 =>
    M.bind (ldL (li) x6) fun (x7:Int) =>
    M.bind (ldL .sl (a2.plus 4)) fun (x8:Sl) =>
    M.bind (idxA x8 a11 1) fun x9 =>
    M.bind (ldL (li) x9) fun (x10:Int) =>
    M.bind (G.graph_same (x4.1,x4.2) x7 x10) fun x11 =>
    G.graph_same_L1 a0 a1 a2 a3 a4 x11 a6 a7 a8 a9 a10 (IntKind.i64.wrap (a11+1))
   else
    G.graph_same_L1 a0 a1 a2 a3 a4 false a6 a7 a8 a9 a10 (IntKind.i64.wrap (a11+1))
 else
  M.pure a5
def graph_same_L0_B (G:Cl_graph_same)(n:Nat)(a0:Addr)(a1:Addr)(a2:Addr)(a3:Sl)(a4:Int)(a5:Int):M ((Unit) ⊕ (Bool)) :=
 if decide (a5<a4) then
  M.bind (idxA a3 a5 1) fun x0 =>
  M.bind (ldL (li) x0) fun (x1:Int) =>
  M.bind (ldL .sl (a2.plus 3)) fun (x2:Sl) =>
  M.bind (G.graph_same_L1 a0 a1 a2 a5 x1 false a3 a4 a5 x2 (↑x2.len:Int) 0) fun x3 =>
  if !x3 then
   M.pure (Sum.inr false)
  else
   G.graph_same_L0 a0 a1 a2 a3 a4 (IntKind.i64.wrap (a5+1))
 else
  M.pure (Sum.inl ())
def graph_same_L2_B (G:Cl_graph_same)(n:Nat)(a0:Addr)(a1:Addr)(a2:Addr)(a3:Int)(a4:Int):M ((Unit) ⊕ (Bool)) :=
 if decide (a4<a3) then
  M.bind (ldL (li) (a1.plus 0)) fun (x0:Int) =>
  if decide (x0=10) then
   M.bind (ldLs [.sl,li] a0) fun (x1:Sl×Int) =>
   M.bind (ldL .sl (a1.plus 3)) fun (x2:Sl) =>
   M.bind (idxA x2 a4 1) fun x3 =>
   M.bind (ldL (li) x3) fun (x4:Int) =>
   M.bind (ldL .sl (a2.plus 3)) fun (x5:Sl) =>
   M.bind (idxA x5 a4 1) fun x6 =>
   M.bind (ldL (li) x6) fun (x7:Int) =>
   M.bind (G.graph_same (x1.1,x1.2) x4 x7) fun x8 =>
   if !x8 then
    M.pure (Sum.inr false)
   else
    M.bind (ldLs [.sl,li] a0) fun (x9:Sl×Int) =>
    M.bind (ldL .sl (a1.plus 4)) fun (x10:Sl) =>
    M.bind (idxA x10 a4 1) fun x11 =>
    M.bind (ldL (li) x11) fun (x12:Int) =>
    M.bind (ldL .sl (a2.plus 4)) fun (x13:Sl) =>
    M.bind (idxA x13 a4 1) fun x14 =>
    M.bind (ldL (li) x14) fun (x15:Int) =>
    M.bind (G.graph_same (x9.1,x9.2) x12 x15) fun x16 =>
    if !x16 then
     M.pure (Sum.inr false)
    else
     G.graph_same_L2 a0 a1 a2 a3 (IntKind.i64.wrap (a4+1))
  else
   M.bind (ldLs [.sl,li] a0) fun (x1:Sl×Int) =>
   M.bind (ldL .sl (a1.plus 4)) fun (x2:Sl) =>
   M.bind (idxA x2 a4 1) fun x3 =>
   M.bind (ldL (li) x3) fun (x4:Int) =>
   M.bind (ldL .sl (a2.plus 4)) fun (x5:Sl) =>
   M.bind (idxA x5 a4 1) fun x6 =>
   M.bind (ldL (li) x6) fun (x7:Int) =>
   M.bind (G.graph_same (x1.1,x1.2) x4 x7) fun x8 =>
   if !x8 then
    M.pure (Sum.inr false)
   else
    G.graph_same_L2 a0 a1 a2 a3 (IntKind.i64.wrap (a4+1))
 else
  M.pure (Sum.inl ())
def graph_same_J0_B (G:Cl_graph_same)(n:Nat)(a0:Addr)(a1:Addr)(a2:Addr):M (Bool) :=
 M.bind (ldL (li) (a1.plus 0)) fun (x0:Int) =>
 if decide (x0=10) then
  M.bind (ldL .bool (a1.plus 2)) fun (x1:Bool) =>
  if !x1 then
   M.bind (ldL .sl (a1.plus 3)) fun (x2:Sl) =>
   M.bind (G.graph_same_L0 a0 a1 a2 x2 (↑x2.len:Int) 0) (sumElim (fun x3 =>
    M.pure true)
   (fun x3 =>
    M.pure x3))
  else
   M.bind (ldL .sl (a1.plus 4)) fun (x2:Sl) =>
   M.bind (G.graph_same_L2 a0 a1 a2 (↑x2.len:Int) 0) (sumElim (fun x3 =>
    M.pure true)
   (fun x3 =>
    M.pure x3))
 else
  M.bind (ldL .sl (a1.plus 4)) fun (x1:Sl) =>
  M.bind (G.graph_same_L2 a0 a1 a2 (↑x1.len:Int) 0) (sumElim (fun x2 =>
   M.pure true)
  (fun x2 =>
   M.pure x2))
def graph_same_B (G:Cl_graph_same)(n:Nat)(a0:Sl×Int)(a1:Int)(a2:Int):M (Bool) :=
 M.bind (newB none T_api_Graph [vsl a0.1,vi a0.2]) fun x0 =>
 M.bind (reserve 14) fun x1 =>
 M.bind (ldL .sl ((adr x0).plus 0)) fun (x2:Sl) =>
 M.bind (idxA x2 a1 5) fun x3 =>
 M.bind (ldLs [li,.str,.bool,.sl,.sl] x3) fun (x4:Int×ByteArray×Bool×Sl×Sl) =>
 M.bind (ldL .sl ((adr x0).plus 0)) fun (x5:Sl) =>
 M.bind (idxA x5 a2 5) fun x6 =>
 M.bind (ldLs [li,.str,.bool,.sl,.sl] x6) fun (x7:Int×ByteArray×Bool×Sl×Sl) =>
 M.bind (newB (some (x1+10)) T_api_Node [vi 0,Value.string (ofBytes []),Value.bool false,vsl0,vsl0]) fun x8 =>
 M.bind (newB (some (x1+11)) T_api_Node [vi 0,Value.string (ofBytes []),Value.bool false,vsl0,vsl0]) fun x9 =>
 M.bind (chk [some ((adr x0).plus 0),some x6] (stN (adr x8) [vi x4.1,Value.string x4.2.1,Value.bool x4.2.2.1,vsl x4.2.2.2.1,vsl x4.2.2.2.2])) fun x10 =>
 M.bind (stN (adr x9) [vi x7.1,Value.string x7.2.1,Value.bool x7.2.2.1,vsl x7.2.2.2.1,vsl x7.2.2.2.2]) fun x11 =>
 M.bind (ldL (li) ((adr x8).plus 0)) fun (x12:Int) =>
 M.bind (ldL (li) ((adr x9).plus 0)) fun (x13:Int) =>
 if !decide (x12=x13) then
  M.pure false
 else
  M.bind (ldL .str ((adr x8).plus 1)) fun (x14:ByteArray) =>
  M.bind (ldL .str ((adr x9).plus 1)) fun (x15:ByteArray) =>
  if !eqS x14 x15 then
   M.pure false
  else
   M.bind (ldL .bool ((adr x8).plus 2)) fun (x16:Bool) =>
   M.bind (ldL .bool ((adr x9).plus 2)) fun (x17:Bool) =>
   if !x16 == x17 then
    M.pure false
   else
    M.bind (ldL .sl ((adr x8).plus 4)) fun (x18:Sl) =>
    M.bind (ldL .sl ((adr x9).plus 4)) fun (x19:Sl) =>
    if !decide ((↑x18.len:Int)=(↑x19.len:Int)) then
     M.pure false
    else
     graph_same_J0_B G n (adr x0) (adr x8) (adr x9)
def Cl_graph_same.at:Nat→Cl_graph_same
 | 0=>⟨fun _ _ _ _ _ _ _ _ _ _ _ _=>M.fail,fun _ _ _ _ _ _=>M.fail,fun _ _ _ _ _=>M.fail,fun _ _ _=>M.fail⟩
 | n+1=>⟨graph_same_L1_B (Cl_graph_same.at n) n,graph_same_L0_B (Cl_graph_same.at n) n,graph_same_L2_B (Cl_graph_same.at n) n,graph_same_B (Cl_graph_same.at n) n⟩
def graph_same_L1 (n:Nat)(a0:Addr)(a1:Addr)(a2:Addr)(a3:Int)(a4:Int)(a5:Bool)(a6:Sl)(a7:Int)(a8:Int)(a9:Sl)(a10:Int)(a11:Int):M (Bool):=(Cl_graph_same.at n).graph_same_L1 a0 a1 a2 a3 a4 a5 a6 a7 a8 a9 a10 a11
theorem graph_same_L1_succ (n:Nat)(a0:Addr)(a1:Addr)(a2:Addr)(a3:Int)(a4:Int)(a5:Bool)(a6:Sl)(a7:Int)(a8:Int)(a9:Sl)(a10:Int)(a11:Int):graph_same_L1 (n+1) a0 a1 a2 a3 a4 a5 a6 a7 a8 a9 a10 a11=graph_same_L1_B (Cl_graph_same.at n) n a0 a1 a2 a3 a4 a5 a6 a7 a8 a9 a10 a11:=rfl
def graph_same_L0 (n:Nat)(a0:Addr)(a1:Addr)(a2:Addr)(a3:Sl)(a4:Int)(a5:Int):M ((Unit) ⊕ (Bool)):=(Cl_graph_same.at n).graph_same_L0 a0 a1 a2 a3 a4 a5
theorem graph_same_L0_succ (n:Nat)(a0:Addr)(a1:Addr)(a2:Addr)(a3:Sl)(a4:Int)(a5:Int):graph_same_L0 (n+1) a0 a1 a2 a3 a4 a5=graph_same_L0_B (Cl_graph_same.at n) n a0 a1 a2 a3 a4 a5:=rfl
def graph_same_L2 (n:Nat)(a0:Addr)(a1:Addr)(a2:Addr)(a3:Int)(a4:Int):M ((Unit) ⊕ (Bool)):=(Cl_graph_same.at n).graph_same_L2 a0 a1 a2 a3 a4
theorem graph_same_L2_succ (n:Nat)(a0:Addr)(a1:Addr)(a2:Addr)(a3:Int)(a4:Int):graph_same_L2 (n+1) a0 a1 a2 a3 a4=graph_same_L2_B (Cl_graph_same.at n) n a0 a1 a2 a3 a4:=rfl
def graph_same (n:Nat)(a0:Sl×Int)(a1:Int)(a2:Int):M (Bool):=(Cl_graph_same.at n).graph_same a0 a1 a2
theorem graph_same_succ (n:Nat)(a0:Sl×Int)(a1:Int)(a2:Int):graph_same (n+1) a0 a1 a2=graph_same_B (Cl_graph_same.at n) n a0 a1 a2:=rfl
def graph_same_J0 (n:Nat)(a0:Addr)(a1:Addr)(a2:Addr):M (Bool):=graph_same_J0_B (Cl_graph_same.at n) n a0 a1 a2
abbrev q46_E (n:Nat):Ent:=⟨46,[.agg [.sl,.int .i64],tyI,tyI],[tyB],fun x=>graph_same n (x.1) (x.2.1) (x.2.2)⟩
abbrev q46_L0_a:List (Nat×Ty):=[(3,tyA),(7,tyA),(8,tyA),(62,tyL),(63,tyI),(64,tyI)]
abbrev q46_L0_w:List Nat:=[6,9,10,11,12,13,64,65,66,67,68,69,70,71,72,73,74,75,76,77,78,79,80,81,82,83,84,85,86,87,88,89,90,91,92,93,94,95,96,97,98,99,100,101]
abbrev q46_L0_p:Path:=[0,1,0,0,1,0,1,1,1]
abbrev q46_L0_g (n:Nat)(x:TsDen (tys q46_L0_a)):M ((Unit) ⊕ (Bool)):=graph_same_L0 n (x.1) (x.2.1) (x.2.2.1) (x.2.2.2.1) (x.2.2.2.2.1) (x.2.2.2.2.2)
abbrev q46_L0_l (n:Nat):LEnt:=⟨q46_L0_p,q46_L0_a,actL2 q46_L0_a [] [(6,tyB)] q46_L0_w 0 .ret (q46_L0_g n)⟩
abbrev q46_L1_a:List (Nat×Ty):=[(3,tyA),(7,tyA),(8,tyA),(9,tyI),(10,tyI),(11,tyB),(62,tyL),(63,tyI),(64,tyI),(70,tyL),(71,tyI),(72,tyI)]
abbrev q46_L1_w:List Nat:=[11,12,13,72,73,74,75,76,77,78,79,80,81,82,83,84,85,86,87,88,89,90,91,92,93,94,95,96,97,98]
abbrev q46_L1_p:Path:=[0,1,0,1,1,0,0,1,1,0,0,1,0,0,1,0,1,1,1]
abbrev q46_L1_g (n:Nat)(x:TsDen (tys q46_L1_a)):M (Bool):=graph_same_L1 n (x.1) (x.2.1) (x.2.2.1) (x.2.2.2.1) (x.2.2.2.2.1) (x.2.2.2.2.2.1) (x.2.2.2.2.2.2.1) (x.2.2.2.2.2.2.2.1) (x.2.2.2.2.2.2.2.2.1) (x.2.2.2.2.2.2.2.2.2.1) (x.2.2.2.2.2.2.2.2.2.2.1) (x.2.2.2.2.2.2.2.2.2.2.2)
abbrev q46_L1_l (n:Nat):LEnt:=⟨q46_L1_p,q46_L1_a,actL1 q46_L1_a [(11,tyB)] q46_L1_w 2 (q46_L1_g n)⟩
abbrev q46_L2_a:List (Nat×Ty):=[(3,tyA),(7,tyA),(8,tyA),(104,tyI),(105,tyI)]
abbrev q46_L2_w:List Nat:=[6,14,105,106,107,108,109,110,111,112,113,114,115,116,117,118,119,120,121,122,123,124,125,126,127,128,129,130,131,132,133,134,135,136,137,138,139,140,141]
abbrev q46_L2_p:Path:=[0,1,0,1,1,1,1]
abbrev q46_L2_g (n:Nat)(x:TsDen (tys q46_L2_a)):M ((Unit) ⊕ (Bool)):=graph_same_L2 n (x.1) (x.2.1) (x.2.2.1) (x.2.2.2.1) (x.2.2.2.2)
abbrev q46_L2_l (n:Nat):LEnt:=⟨q46_L2_p,q46_L2_a,actL2 q46_L2_a [] [(6,tyB)] q46_L2_w 4 .ret (q46_L2_g n)⟩
abbrev q46_ct (n:Nat):List Ent:=[q46_E n]
def q46_dr (i:Nat):Option (List (Nat×List Nat)):=cond (Nat.beq i 1) (some [(0,[]),(2,[]),(5,[]),(7,[]),(1,[]),(3,[]),(4,[]),(6,[]),(8,[]),(9,[]),(10,[]),(11,[]),(12,[6,9]),(13,[])]) (cond (Nat.beq i 12) (some [(0,[]),(1,[]),(3,[]),(4,[]),(2,[]),(5,[]),(6,[]),(8,[]),(10,[]),(13,[]),(15,[]),(7,[]),(9,[]),(11,[]),(12,[]),(14,[]),(16,[]),(17,[]),(18,[]),(19,[]),(20,[]),(21,[])]) (cond (Nat.beq i 21) (some [(0,[]),(1,[]),(2,[]),(3,[]),(5,[]),(7,[]),(10,[]),(12,[]),(4,[]),(6,[]),(8,[]),(9,[]),(11,[]),(13,[]),(14,[]),(15,[]),(16,[]),(17,[]),(18,[]),(20,[]),(22,[]),(25,[]),(27,[]),(19,[]),(21,[]),(23,[]),(24,[]),(26,[]),(28,[]),(29,[]),(30,[]),(31,[]),(32,[])]) (none)))
abbrev q46_L0_lt (n:Nat):List LEnt:=[q46_L1_l n]
abbrev q46_lt (n:Nat):List LEnt:=[q46_L0_l n,q46_L2_l n]
abbrev q46_jt1 (n:Nat):List (JEnt (Bool)):=[]
abbrev q46_jt0 (n:Nat):List (JEnt (Bool)):=⟨[0,0,1,1,1],[.code [1,0,1,1,1],.code [1,1,1,1]],[(3,tyA),(7,tyA),(8,tyA)],fun x=>graph_same_J0 n (x.1) (x.2.1) (x.2.2)⟩::q46_jt1 n
def P_graph_same (n:Nat):Prop:=FnOK Tryz.prog (q46_E n)
theorem q46_L1_ok (n:Nat)(H:∀ m,m<n→P_graph_same m){W:Wr}(hW:subW W 142 q46_L1_w=true):LEntOK Tryz.prog (bodyOf Tryz.f46) W (q46_L1_l n) :=
 loop1_t (bodyOf Tryz.f46) q46_L1_p q46_L1_a [(11,tyB)] 2 142 q46_L1_w [] q46_ct (fun _=>[]) (fun _=>[]) q46_dr q46_L1_g (fun _=>[]) (by kernel_rfl) (fun _=>by kernel_rfl) (fun n x=>by kernel_rfl) n (fun m hm=>⟨.nil,(.cons (H m hm) .nil),.nil,.nil,.nil⟩) hW
theorem q46_L0_ok (n:Nat)(H:∀ m,m<n→P_graph_same m){W:Wr}(hW:subW W 142 q46_L0_w=true):LEntOK Tryz.prog (bodyOf Tryz.f46) W (q46_L0_l n) :=
 loop2_t (bodyOf Tryz.f46) q46_L0_p q46_L0_a [] [(6,tyB)] 0 .ret 142 q46_L0_w [] q46_ct (fun _=>[]) q46_L0_lt q46_dr q46_L0_g (fun _=>[]) (by kernel_rfl) (fun _=>by kernel_rfl) (fun n x=>by kernel_rfl) n (fun m hm=>⟨.nil,(.cons (H m hm) .nil),.nil,(.cons (q46_L1_ok m (fun k hk=>H k (Nat.lt_trans hk hm)) (by kernel_rfl)) .nil),.nil⟩) hW
theorem q46_L2_ok (n:Nat)(H:∀ m,m<n→P_graph_same m){W:Wr}(hW:subW W 142 q46_L2_w=true):LEntOK Tryz.prog (bodyOf Tryz.f46) W (q46_L2_l n) :=
 loop2_t (bodyOf Tryz.f46) q46_L2_p q46_L2_a [] [(6,tyB)] 4 .ret 142 q46_L2_w [] q46_ct (fun _=>[]) (fun _=>[]) q46_dr q46_L2_g (fun _=>[]) (by kernel_rfl) (fun _=>by kernel_rfl) (fun n x=>by kernel_rfl) n (fun m hm=>⟨.nil,(.cons (H m hm) .nil),.nil,.nil,.nil⟩) hW
theorem graph_same_ok_step (n:Nat)(H:∀ m,m<n+1→P_graph_same m):FnOK Tryz.prog (q46_E (n+1)) :=
 fn_t (q46_E (n+1)) Tryz.f46 (bodyOf Tryz.f46) [(0,.agg [.sl,.int .i64]),(1,tyI),(2,tyI)] [] (q46_ct n) [] (q46_lt n) (q46_jt0 n) q46_dr (by kernel_rfl) (by kernel_rfl) (by kernel_rfl) (by kernel_rfl) (by kernel_rfl) ⟨.nil,(.cons (H n (Nat.lt_succ_self n)) .nil),.nil,(.cons (q46_L0_ok n (fun k hk=>H k (Nat.lt_succ_of_lt hk)) (by kernel_rfl)) (.cons (q46_L2_ok n (fun k hk=>H k (Nat.lt_succ_of_lt hk)) (by kernel_rfl)) .nil)),(.cons (fun x=>by kernel_rfl) .nil)⟩ (fun x=>by kernel_rfl)
theorem P_graph_same_all:∀ n m,m<n→P_graph_same m:=by
 intro n
 induction n with
 | zero=>intro m hm;exact absurd hm (Nat.not_lt_zero m)
 | succ n ih =>
  intro m hm
  cases m with
  | zero=>exact fn_zero (fn:=Tryz.f46) (by kernel_rfl) (by kernel_rfl) (by kernel_rfl) (fun _=>rfl)
  | succ k=>exact graph_same_ok_step k fun m hm=>ih m (by omega)
theorem graph_same_ok (n:Nat):FnOK Tryz.prog (q46_E n):=(P_graph_same_all (n+1) n (Nat.lt_succ_self n))
def graph_twice_L2_B (G:Addr→Option Nat→Int→Addr→Sl→Int→Int→Sl→Int→Int→Sl→Int→Int→M ((Unit) ⊕ (Bool)))(n:Nat)(a0:Addr)(a1:Option Nat)(a2:Int)(a3:Addr)(a4:Sl)(a5:Int)(a6:Int)(a7:Sl)(a8:Int)(a9:Int)(a10:Sl)(a11:Int)(a12:Int):M ((Unit) ⊕ (Bool)) :=
 if decide (a12<a11) then
  M.bind (idxA a10 a12 1) fun x0 =>
  M.bind (ldL (li) x0) fun (x1:Int) =>
  M.bind (ldLs [.sl,li] a0) fun (x2:Sl×Int) =>
  M.bind (graph_same n (x2.1,x2.2) a2 x1) fun x3 =>
  if x3 then
   M.pure (Sum.inr true)
  else
   G a0 a1 a2 a3 a4 a5 a6 a7 a8 a9 a10 a11 (IntKind.i64.wrap (a12+1))
 else
  M.pure (Sum.inl ())
def graph_twice_L2:Nat→Addr→Option Nat→Int→Addr→Sl→Int→Int→Sl→Int→Int→Sl→Int→Int→M ((Unit) ⊕ (Bool))
 | 0=>fun _ _ _ _ _ _ _ _ _ _ _ _ _=>M.fail
 | n+1=>graph_twice_L2_B (graph_twice_L2 n) n
theorem graph_twice_L2_succ (n:Nat):graph_twice_L2 (n+1)=graph_twice_L2_B (graph_twice_L2 n) n:=rfl
def graph_twice_L1_B (G:Addr→Option Nat→Sl→Int→Int→Sl→Int→Int→M ((Unit) ⊕ (Bool)))(n:Nat)(a0:Addr)(a1:Option Nat)(a2:Sl)(a3:Int)(a4:Int)(a5:Sl)(a6:Int)(a7:Int):M ((Unit) ⊕ (Bool)) :=
 if decide (a7<a6) then
  M.bind (idxA a5 a7 1) fun x0 =>
  M.bind (ldL (li) x0) fun (x1:Int) =>
  M.bind (reserve 15) fun x2 =>
  M.bind (ldL .sl (a0.plus 0)) fun (x3:Sl) =>
  M.bind (idxA x3 x1 5) fun x4 =>
  M.bind (ldL (li) (x4.plus 0)) fun (x5:Int) =>
  M.bind (ldL .sl (a0.plus 0)) fun (x6:Sl) =>
  M.bind (idxA x6 x1 5) fun x7 =>
  M.bind (ldL .str (x7.plus 1)) fun (x8:ByteArray) =>
  M.bind (newB (some (x2+13)) T_api_Step [vi 0,Value.string (ofBytes [])]) fun x9 =>
  M.bind (stN (adr x9) [vi x5,Value.string x8]) fun x10 =>
  M.bind (ldLs [li,.str] (adr x9)) fun (x11:Int×ByteArray) =>
  M.bind (mpGet T_api_Step (Ty.one .sl) sl0 a1 (Value.agg #[vi x11.1,Value.string x11.2])) fun (x12:Bool×Sl) =>
  M.bind (graph_twice_L2 n a0 a1 x1 (adr x9) a2 a3 a4 a5 a6 a7 x12.2 (↑x12.2.len:Int) 0) (sumElim (fun x13 =>
   M.bind (ldLs [li,.str] (adr x9)) fun (x14:Int×ByteArray) =>
   M.bind (mpEntry T_api_Step (Ty.one .sl) sl0 a1 (Value.agg #[vi x14.1,Value.string x14.2])) fun x15 =>
   M.bind (app false x15.1 1 T_i64 1 [vi x1]) fun x16 =>
   M.bind (mpStore a1 (↑x15.2:Int) (vsl x16)) fun x17 =>
   G a0 a1 a2 a3 a4 a5 a6 (IntKind.i64.wrap (a7+1)))
  (fun x13 =>
   M.pure (Sum.inr x13)))
 else
  M.pure (Sum.inl ())
def graph_twice_L1:Nat→Addr→Option Nat→Sl→Int→Int→Sl→Int→Int→M ((Unit) ⊕ (Bool))
 | 0=>fun _ _ _ _ _ _ _ _=>M.fail
 | n+1=>graph_twice_L1_B (graph_twice_L1 n) n
theorem graph_twice_L1_succ (n:Nat):graph_twice_L1 (n+1)=graph_twice_L1_B (graph_twice_L1 n) n:=rfl
def graph_twice_L0_B (G:Addr→Sl→Int→Int→M ((Unit) ⊕ (Bool)))(n:Nat)(a0:Addr)(a1:Sl)(a2:Int)(a3:Int):M ((Unit) ⊕ (Bool)) :=
 if decide (a3<a2) then
  M.bind (idxA a1 a3 5) fun x0 =>
  M.bind (ldLs [li,.str,.bool,.sl,.sl] x0) fun (x1:Int×ByteArray×Bool×Sl×Sl) =>
  M.bind (newB none T_api_Node [vi 0,Value.string (ofBytes []),Value.bool false,vsl0,vsl0]) fun x2 =>
  M.bind (stN (adr x2) [vi x1.1,Value.string x1.2.1,Value.bool x1.2.2.1,vsl x1.2.2.2.1,vsl x1.2.2.2.2]) fun x3 =>
  M.bind (mpNew T_api_Step) fun x4 =>
  M.bind (ldL .sl ((adr x2).plus 3)) fun (x5:Sl) =>
  M.bind (graph_twice_L1 n a0 (some x4) a1 a2 a3 x5 (↑x5.len:Int) 0) (sumElim (fun x6 =>
   G a0 a1 a2 (IntKind.i64.wrap (a3+1)))
  (fun x6 =>
   M.pure (Sum.inr x6)))
 else
  M.pure (Sum.inl ())
def graph_twice_L0:Nat→Addr→Sl→Int→Int→M ((Unit) ⊕ (Bool))
 | 0=>fun _ _ _ _=>M.fail
 | n+1=>graph_twice_L0_B (graph_twice_L0 n) n
theorem graph_twice_L0_succ (n:Nat):graph_twice_L0 (n+1)=graph_twice_L0_B (graph_twice_L0 n) n:=rfl
def graph_twice (n:Nat)(a0:Sl×Int):M (Bool) :=
 M.bind (newB none T_api_Graph [vsl a0.1,vi a0.2]) fun x0 =>
 M.bind (ldL .sl ((adr x0).plus 0)) fun (x1:Sl) =>
 M.bind (graph_twice_L0 n (adr x0) x1 (↑x1.len:Int) 0) (sumElim (fun x2 =>
  M.pure false)
 (fun x2 =>
  M.pure x2))
abbrev q37_E (n:Nat):Ent:=⟨37,[.agg [.sl,.int .i64]],[tyB],fun x=>graph_twice n x⟩
abbrev q37_L0_a:List (Nat×Ty):=[(1,tyA),(12,tyL),(13,tyI),(14,tyI)]
abbrev q37_L0_w:List Nat:=[2,4,5,7,8,10,14,15,16,17,18,19,20,21,22,23,24,25,26,27,28,29,30,31,32,33,34,35,36,37,38,39,40,41,42,43,44,45,46,47,48,49,50,51,52,53,54,55,56,57,58,59,60,61]
abbrev q37_L0_p:Path:=[0,1,0,1]
abbrev q37_L0_g (n:Nat)(x:TsDen (tys q37_L0_a)):M ((Unit) ⊕ (Bool)):=graph_twice_L0 n (x.1) (x.2.1) (x.2.2.1) (x.2.2.2)
abbrev q37_L0_l (n:Nat):LEnt:=⟨q37_L0_p,q37_L0_a,actL2 q37_L0_a [] [(2,tyB)] q37_L0_w 0 .ret (q37_L0_g n)⟩
abbrev q37_L1_a:List (Nat×Ty):=[(1,tyA),(5,tyM),(12,tyL),(13,tyI),(14,tyI),(20,tyL),(21,tyI),(22,tyI)]
abbrev q37_L1_w:List Nat:=[2,7,8,10,22,23,24,25,26,27,28,29,30,31,32,33,34,35,36,37,38,39,40,41,42,43,44,45,46,47,48,49,50,51,52,53,54,55,56,57,58,59,60]
abbrev q37_L1_p:Path:=[0,1,1,1,0,0,1,1,0,0,1,0,1]
abbrev q37_L1_g (n:Nat)(x:TsDen (tys q37_L1_a)):M ((Unit) ⊕ (Bool)):=graph_twice_L1 n (x.1) (x.2.1) (x.2.2.1) (x.2.2.2.1) (x.2.2.2.2.1) (x.2.2.2.2.2.1) (x.2.2.2.2.2.2.1) (x.2.2.2.2.2.2.2)
abbrev q37_L1_l (n:Nat):LEnt:=⟨q37_L1_p,q37_L1_a,actL2 q37_L1_a [] [(2,tyB)] q37_L1_w 2 .ret (q37_L1_g n)⟩
abbrev q37_L2_a:List (Nat×Ty):=[(1,tyA),(5,tyM),(7,tyI),(8,tyA),(12,tyL),(13,tyI),(14,tyI),(20,tyL),(21,tyI),(22,tyI),(41,tyL),(42,tyI),(43,tyI)]
abbrev q37_L2_w:List Nat:=[2,10,43,44,45,46,47,48,49,50,51]
abbrev q37_L2_p:Path:=[0,1,0,1,1,0,0,1,1,0,0,1,1,1,0,0,1,1,0,0,1,0,1]
abbrev q37_L2_g (n:Nat)(x:TsDen (tys q37_L2_a)):M ((Unit) ⊕ (Bool)):=graph_twice_L2 n (x.1) (x.2.1) (x.2.2.1) (x.2.2.2.1) (x.2.2.2.2.1) (x.2.2.2.2.2.1) (x.2.2.2.2.2.2.1) (x.2.2.2.2.2.2.2.1) (x.2.2.2.2.2.2.2.2.1) (x.2.2.2.2.2.2.2.2.2.1) (x.2.2.2.2.2.2.2.2.2.2.1) (x.2.2.2.2.2.2.2.2.2.2.2.1) (x.2.2.2.2.2.2.2.2.2.2.2.2)
abbrev q37_L2_l (n:Nat):LEnt:=⟨q37_L2_p,q37_L2_a,actL2 q37_L2_a [] [(2,tyB)] q37_L2_w 4 .ret (q37_L2_g n)⟩
abbrev q37_ct (n:Nat):List Ent:=[q46_E n]
def q37_dr (i:Nat):Option (List (Nat×List Nat)):=cond (Nat.beq i 8) (some [(0,[]),(2,[]),(6,[]),(8,[]),(1,[]),(3,[]),(4,[]),(5,[]),(7,[]),(9,[]),(10,[]),(11,[]),(12,[]),(13,[]),(14,[])]) (none)
abbrev q37_L1_lt (n:Nat):List LEnt:=[q37_L2_l n]
abbrev q37_L0_lt (n:Nat):List LEnt:=[q37_L1_l n]
abbrev q37_lt (n:Nat):List LEnt:=[q37_L0_l n]
theorem q37_L2_ok (n:Nat){W:Wr}(hW:subW W 62 q37_L2_w=true):LEntOK Tryz.prog (bodyOf Tryz.f37) W (q37_L2_l n) :=
 loop2_t (bodyOf Tryz.f37) q37_L2_p q37_L2_a [] [(2,tyB)] 4 .ret 62 q37_L2_w [] q37_ct (fun _=>[]) (fun _=>[]) q37_dr q37_L2_g (fun _=>[]) (by kernel_rfl) (fun _=>by kernel_rfl) (fun n x=>by kernel_rfl) n (fun m hm=>⟨.nil,(.cons (graph_same_ok m) .nil),.nil,.nil,.nil⟩) hW
theorem q37_L1_ok (n:Nat){W:Wr}(hW:subW W 62 q37_L1_w=true):LEntOK Tryz.prog (bodyOf Tryz.f37) W (q37_L1_l n) :=
 loop2_t (bodyOf Tryz.f37) q37_L1_p q37_L1_a [] [(2,tyB)] 2 .ret 62 q37_L1_w [] q37_ct (fun _=>[]) q37_L1_lt q37_dr q37_L1_g (fun _=>[]) (by kernel_rfl) (fun _=>by kernel_rfl) (fun n x=>by kernel_rfl) n (fun m hm=>⟨.nil,(.cons (graph_same_ok m) .nil),.nil,(.cons (q37_L2_ok m (by kernel_rfl)) .nil),.nil⟩) hW
theorem q37_L0_ok (n:Nat){W:Wr}(hW:subW W 62 q37_L0_w=true):LEntOK Tryz.prog (bodyOf Tryz.f37) W (q37_L0_l n) :=
 loop2_t (bodyOf Tryz.f37) q37_L0_p q37_L0_a [] [(2,tyB)] 0 .ret 62 q37_L0_w [] q37_ct (fun _=>[]) q37_L0_lt q37_dr q37_L0_g (fun _=>[]) (by kernel_rfl) (fun _=>by kernel_rfl) (fun n x=>by kernel_rfl) n (fun m hm=>⟨.nil,(.cons (graph_same_ok m) .nil),.nil,(.cons (q37_L1_ok m (by kernel_rfl)) .nil),.nil⟩) hW
theorem graph_twice_ok (n:Nat):FnOK Tryz.prog (q37_E n) :=
 fn_t (q37_E n) Tryz.f37 (bodyOf Tryz.f37) [(0,.agg [.sl,.int .i64])] [] (q37_ct n) [] (q37_lt n) [] q37_dr (by kernel_rfl) (by kernel_rfl) (by kernel_rfl) (by kernel_rfl) (by kernel_rfl) ⟨.nil,(.cons (graph_same_ok n) .nil),.nil,(.cons (q37_L0_ok n (by kernel_rfl)) .nil),.nil⟩ (fun x=>by kernel_rfl)
structure Cl_graph_components_1 where
 graph_components_1_L2:Addr→Addr→Addr→Addr→Addr→Int→M (Int)
 graph_components_1_L1:Addr→Addr→Addr→Addr→Addr→Addr→Addr→Value→Sl→Int→Int→M (Unit)
 graph_components_1_L0:Addr→Addr→Addr→Addr→Addr→Addr→Addr→Addr→Value→Sl→Int→Int→M (Unit)
 graph_components_1:Int→Addr→Addr→Addr→Addr→Addr→Addr→Addr→Addr→Addr→M (Unit)
 graph_components_1_1:Int→Addr→Addr→Addr→Addr→Addr→M (Unit)
def graph_components_1_D47_B (G:Cl_graph_components_1)(n:Nat)(x:Value)(a0:Int):M (Unit) :=
 if isFn F_graph_components_1_1 x then
  M.bind (asFn [tyA,tyA,tyA,tyA,tyA] x) fun (c:Addr×Addr×Addr×Addr×Addr)=>G.graph_components_1_1 a0 (c.1) (c.2.1) (c.2.2.1) (c.2.2.2.1) (c.2.2.2.2)
 else M.fail
def graph_components_1_D62_B (G:Cl_graph_components_1)(n:Nat)(x:Value)(a0:Int):M (Unit) :=
 if isFn F_graph_components_1_1 x then
  M.bind (asFn [tyA,tyA,tyA,tyA,tyA] x) fun (c:Addr×Addr×Addr×Addr×Addr)=>G.graph_components_1_1 a0 (c.1) (c.2.1) (c.2.2.1) (c.2.2.2.1) (c.2.2.2.2)
 else M.fail
def graph_components_1_1_D12_B (G:Cl_graph_components_1)(n:Nat)(x:Value)(a0:Int):M (Unit) :=
 if isFn F_graph_components_1 x then
  M.bind (asFn [tyA,tyA,tyA,tyA,tyA,tyA,tyA,tyA,tyA] x) fun (c:Addr×Addr×Addr×Addr×Addr×Addr×Addr×Addr×Addr)=>G.graph_components_1 a0 (c.1) (c.2.1) (c.2.2.1) (c.2.2.2.1) (c.2.2.2.2.1) (c.2.2.2.2.2.1) (c.2.2.2.2.2.2.1) (c.2.2.2.2.2.2.2.1) (c.2.2.2.2.2.2.2.2)
 else M.fail
def graph_components_1_L2_B (G:Cl_graph_components_1)(n:Nat)(a0:Addr)(a1:Addr)(a2:Addr)(a3:Addr)(a4:Addr)(a5:Int):M (Int) :=
 M.bind (ldL .sl a0) fun (x0:Sl) =>
 M.bind (ldL .sl a0) fun (x1:Sl) =>
 M.bind (idxA x0 (IntKind.i64.wrap ((↑x1.len:Int) - 1)) 1) fun x2 =>
 M.bind (ldL (li) x2) fun (x3:Int) =>
 M.bind (ldL .sl a0) fun (x4:Sl) =>
 M.bind (ldL .sl a0) fun (x5:Sl) =>
 M.bind (sliceL x4 0 (IntKind.i64.wrap ((↑x5.len:Int) - 1)) T_i64 1) fun x6 =>
 M.bind (stN a0 [vsl x6]) fun x7 =>
 M.bind (ldL .sl a1) fun (x8:Sl) =>
 M.bind (idxA x8 x3 1) fun x9 =>
 M.bind (stN x9 [Value.bool false]) fun x10 =>
 M.bind (ldL .sl a3) fun (x11:Sl) =>
 M.bind (ldL .sl a2) fun (x12:Sl) =>
 M.bind (idxA x11 x3 1) fun x13 =>
 M.bind (stN x13 [vi (↑x12.len:Int)]) fun x14 =>
 M.bind (ldL (li) a4) fun (x15:Int) =>
 if decide (x3=x15) then
  M.pure (IntKind.i64.wrap (a5+1))
 else
  G.graph_components_1_L2 a0 a1 a2 a3 a4 (IntKind.i64.wrap (a5+1))
def graph_components_1_L1_B (G:Cl_graph_components_1)(n:Nat)(a0:Addr)(a1:Addr)(a2:Addr)(a3:Addr)(a4:Addr)(a5:Addr)(a6:Addr)(a7:Value)(a8:Sl)(a9:Int)(a10:Int):M (Unit) :=
 if decide (a10<a9) then
  M.bind (idxA a8 a10 1) fun x0 =>
  M.bind (ldL (li) x0) fun (x1:Int) =>
  M.bind (graph_components_1_D62_B G n a7 x1) fun x2 =>
  G.graph_components_1_L1 a0 a1 a2 a3 a4 a5 a6 a7 a8 a9 (IntKind.i64.wrap (a10+1))
 else
  M.pure ()
def graph_components_1_L0_B (G:Cl_graph_components_1)(n:Nat)(a0:Addr)(a1:Addr)(a2:Addr)(a3:Addr)(a4:Addr)(a5:Addr)(a6:Addr)(a7:Addr)(a8:Value)(a9:Sl)(a10:Int)(a11:Int):M (Unit) :=
 if decide (a11<a10) then
  M.bind (idxA a9 a11 1) fun x0 =>
  M.bind (ldL (li) x0) fun (x1:Int) =>
  M.bind (graph_components_1_D47_B G n a8 x1) fun x2 =>
  G.graph_components_1_L0 a0 a1 a2 a3 a4 a5 a6 a7 a8 a9 a10 (IntKind.i64.wrap (a11+1))
 else
  M.pure ()
def graph_components_1_B (G:Cl_graph_components_1)(n:Nat)(a0:Int)(a1:Addr)(a2:Addr)(a3:Addr)(a4:Addr)(a5:Addr)(a6:Addr)(a7:Addr)(a8:Addr)(a9:Addr):M (Unit) :=
 M.bind (newB none T_i64 [vi a0]) fun x0 =>
 M.bind (ldL (li) a1) fun (x1:Int) =>
 M.bind (stN a1 [vi (IntKind.i64.wrap (x1+1))]) fun x2 =>
 M.bind (ldL .sl a2) fun (x3:Sl) =>
 M.bind (ldL (li) (adr x0)) fun (x4:Int) =>
 M.bind (ldL .sl a3) fun (x5:Sl) =>
 M.bind (ldL (li) (adr x0)) fun (x6:Int) =>
 M.bind (ldL (li) a1) fun (x7:Int) =>
 M.bind (idxA x3 x4 1) fun x8 =>
 M.bind (ldL (li) a1) fun (x9:Int) =>
 M.bind (chk [some a3,some (adr x0),some a1] (stN x8 [vi x7])) fun x10 =>
 M.bind (idxA x5 x6 1) fun x11 =>
 M.bind (stN x11 [vi x9]) fun x12 =>
 M.bind (ldL .sl a4) fun (x13:Sl) =>
 M.bind (ldL (li) (adr x0)) fun (x14:Int) =>
 M.bind (app false x13 1 T_i64 1 [vi x14]) fun x15 =>
 M.bind (stN a4 [vsl x15]) fun x16 =>
 M.bind (ldL .sl a5) fun (x17:Sl) =>
 M.bind (ldL (li) (adr x0)) fun (x18:Int) =>
 M.bind (idxA x17 x18 1) fun x19 =>
 M.bind (stN x19 [Value.bool true]) fun x20 =>
 M.bind (ldL .sl (a7.plus 0)) fun (x21:Sl) =>
 M.bind (ldL (li) (adr x0)) fun (x22:Int) =>
 M.bind (idxA x21 x22 5) fun x23 =>
 M.bind (ldL .sl (x23.plus 3)) fun (x24:Sl) =>
 M.bind (G.graph_components_1_L0 a2 a3 a4 a5 a7 a8 a9 (adr x0) (Value.func (Fn.func F_graph_components_1_1) #[] #[Value.pointer (some a2),Value.pointer (some a6),Value.pointer (some a3),Value.pointer (some (adr x0)),Value.pointer (some a5)]) x24 (↑x24.len:Int) 0) fun x25 =>
 M.bind (ldL .sl (a7.plus 0)) fun (x26:Sl) =>
 M.bind (ldL (li) (adr x0)) fun (x27:Int) =>
 M.bind (idxA x26 x27 5) fun x28 =>
 M.bind (ldL .sl (x28.plus 4)) fun (x29:Sl) =>
 M.bind (G.graph_components_1_L1 a2 a3 a4 a5 a8 a9 (adr x0) (Value.func (Fn.func F_graph_components_1_1) #[] #[Value.pointer (some a2),Value.pointer (some a6),Value.pointer (some a3),Value.pointer (some (adr x0)),Value.pointer (some a5)]) x29 (↑x29.len:Int) 0) fun x30 =>
 M.bind (ldL .sl a3) fun (x31:Sl) =>
 M.bind (ldL (li) (adr x0)) fun (x32:Int) =>
 M.bind (idxA x31 x32 1) fun x33 =>
 M.bind (ldL (li) x33) fun (x34:Int) =>
 M.bind (ldL .sl a2) fun (x35:Sl) =>
 M.bind (ldL (li) (adr x0)) fun (x36:Int) =>
 M.bind (idxA x35 x36 1) fun x37 =>
 M.bind (ldL (li) x37) fun (x38:Int) =>
 if !decide (x34=x38) then
  M.pure ()
 else
  M.bind (G.graph_components_1_L2 a4 a5 a8 a9 (adr x0) 0) fun x39 =>
  M.bind (ldL .sl a8) fun (x40:Sl) =>
  M.bind (app false x40 1 T_i64 1 [vi x39]) fun x41 =>
  M.bind (stN a8 [vsl x41]) fun x42 =>
  M.pure ()
def graph_components_1_1_B (G:Cl_graph_components_1)(n:Nat)(a0:Int)(a1:Addr)(a2:Addr)(a3:Addr)(a4:Addr)(a5:Addr):M (Unit) :=
 M.bind (ldL .sl a1) fun (x0:Sl) =>
 M.bind (idxA x0 a0 1) fun x1 =>
 M.bind (ldL (li) x1) fun (x2:Int) =>
 if decide (x2=0) then
  M.bind (ldL .raw a2) fun (x3:Value) =>
  M.bind (graph_components_1_1_D12_B G n x3 a0) fun x4 =>
  M.bind (ldL .sl a3) fun (x5:Sl) =>
  M.bind (ldL (li) a4) fun (x6:Int) =>
  M.bind (ldL .sl a3) fun (x7:Sl) =>
  M.bind (ldL (li) a4) fun (x8:Int) =>
  M.bind (idxA x7 x8 1) fun x9 =>
  M.bind (ldL (li) x9) fun (x10:Int) =>
  M.bind (ldL .sl a3) fun (x11:Sl) =>
  M.bind (idxA x11 a0 1) fun x12 =>
  M.bind (ldL (li) x12) fun (x13:Int) =>
  M.bind (idxA x5 x6 1) fun x14 =>
  M.bind (stN x14 [vi (if x13<x10 then x13 else x10)]) fun x15 =>
  M.pure ()
 else
  M.bind (ldL .sl a5) fun (x3:Sl) =>
  M.bind (idxA x3 a0 1) fun x4 =>
  M.bind (ldL .bool x4) fun (x5:Bool) =>
  if x5 then
   M.bind (ldL .sl a3) fun (x6:Sl) =>
   M.bind (ldL (li) a4) fun (x7:Int) =>
   M.bind (ldL .sl a3) fun (x8:Sl) =>
   M.bind (ldL (li) a4) fun (x9:Int) =>
   M.bind (idxA x8 x9 1) fun x10 =>
   M.bind (ldL (li) x10) fun (x11:Int) =>
   M.bind (ldL .sl a1) fun (x12:Sl) =>
   M.bind (idxA x12 a0 1) fun x13 =>
   M.bind (ldL (li) x13) fun (x14:Int) =>
   M.bind (idxA x6 x7 1) fun x15 =>
   M.bind (stN x15 [vi (if x14<x11 then x14 else x11)]) fun x16 =>
   M.pure ()
  else
   M.pure ()
def Cl_graph_components_1.at:Nat→Cl_graph_components_1
 | 0=>⟨fun _ _ _ _ _ _=>M.fail,fun _ _ _ _ _ _ _ _ _ _ _=>M.fail,fun _ _ _ _ _ _ _ _ _ _ _ _=>M.fail,fun _ _ _ _ _ _ _ _ _ _=>M.fail,fun _ _ _ _ _ _=>M.fail⟩
 | n+1=>⟨graph_components_1_L2_B (Cl_graph_components_1.at n) n,graph_components_1_L1_B (Cl_graph_components_1.at n) n,graph_components_1_L0_B (Cl_graph_components_1.at n) n,graph_components_1_B (Cl_graph_components_1.at n) n,graph_components_1_1_B (Cl_graph_components_1.at n) n⟩
def graph_components_1_L2 (n:Nat)(a0:Addr)(a1:Addr)(a2:Addr)(a3:Addr)(a4:Addr)(a5:Int):M (Int):=(Cl_graph_components_1.at n).graph_components_1_L2 a0 a1 a2 a3 a4 a5
theorem graph_components_1_L2_succ (n:Nat)(a0:Addr)(a1:Addr)(a2:Addr)(a3:Addr)(a4:Addr)(a5:Int):graph_components_1_L2 (n+1) a0 a1 a2 a3 a4 a5=graph_components_1_L2_B (Cl_graph_components_1.at n) n a0 a1 a2 a3 a4 a5:=rfl
def graph_components_1_L1 (n:Nat)(a0:Addr)(a1:Addr)(a2:Addr)(a3:Addr)(a4:Addr)(a5:Addr)(a6:Addr)(a7:Value)(a8:Sl)(a9:Int)(a10:Int):M (Unit):=(Cl_graph_components_1.at n).graph_components_1_L1 a0 a1 a2 a3 a4 a5 a6 a7 a8 a9 a10
theorem graph_components_1_L1_succ (n:Nat)(a0:Addr)(a1:Addr)(a2:Addr)(a3:Addr)(a4:Addr)(a5:Addr)(a6:Addr)(a7:Value)(a8:Sl)(a9:Int)(a10:Int):graph_components_1_L1 (n+1) a0 a1 a2 a3 a4 a5 a6 a7 a8 a9 a10=graph_components_1_L1_B (Cl_graph_components_1.at n) n a0 a1 a2 a3 a4 a5 a6 a7 a8 a9 a10:=rfl
def graph_components_1_L0 (n:Nat)(a0:Addr)(a1:Addr)(a2:Addr)(a3:Addr)(a4:Addr)(a5:Addr)(a6:Addr)(a7:Addr)(a8:Value)(a9:Sl)(a10:Int)(a11:Int):M (Unit):=(Cl_graph_components_1.at n).graph_components_1_L0 a0 a1 a2 a3 a4 a5 a6 a7 a8 a9 a10 a11
theorem graph_components_1_L0_succ (n:Nat)(a0:Addr)(a1:Addr)(a2:Addr)(a3:Addr)(a4:Addr)(a5:Addr)(a6:Addr)(a7:Addr)(a8:Value)(a9:Sl)(a10:Int)(a11:Int):graph_components_1_L0 (n+1) a0 a1 a2 a3 a4 a5 a6 a7 a8 a9 a10 a11=graph_components_1_L0_B (Cl_graph_components_1.at n) n a0 a1 a2 a3 a4 a5 a6 a7 a8 a9 a10 a11:=rfl
def graph_components_1 (n:Nat)(a0:Int)(a1:Addr)(a2:Addr)(a3:Addr)(a4:Addr)(a5:Addr)(a6:Addr)(a7:Addr)(a8:Addr)(a9:Addr):M (Unit):=(Cl_graph_components_1.at n).graph_components_1 a0 a1 a2 a3 a4 a5 a6 a7 a8 a9
theorem graph_components_1_succ (n:Nat)(a0:Int)(a1:Addr)(a2:Addr)(a3:Addr)(a4:Addr)(a5:Addr)(a6:Addr)(a7:Addr)(a8:Addr)(a9:Addr):graph_components_1 (n+1) a0 a1 a2 a3 a4 a5 a6 a7 a8 a9=graph_components_1_B (Cl_graph_components_1.at n) n a0 a1 a2 a3 a4 a5 a6 a7 a8 a9:=rfl
def graph_components_1_1 (n:Nat)(a0:Int)(a1:Addr)(a2:Addr)(a3:Addr)(a4:Addr)(a5:Addr):M (Unit):=(Cl_graph_components_1.at n).graph_components_1_1 a0 a1 a2 a3 a4 a5
theorem graph_components_1_1_succ (n:Nat)(a0:Int)(a1:Addr)(a2:Addr)(a3:Addr)(a4:Addr)(a5:Addr):graph_components_1_1 (n+1) a0 a1 a2 a3 a4 a5=graph_components_1_1_B (Cl_graph_components_1.at n) n a0 a1 a2 a3 a4 a5:=rfl
def graph_components_1_D47 (n:Nat)(x:Value)(a0:Int):M (Unit):=graph_components_1_D47_B (Cl_graph_components_1.at n) n x a0
def graph_components_1_D62 (n:Nat)(x:Value)(a0:Int):M (Unit):=graph_components_1_D62_B (Cl_graph_components_1.at n) n x a0
def graph_components_1_1_D12 (n:Nat)(x:Value)(a0:Int):M (Unit):=graph_components_1_1_D12_B (Cl_graph_components_1.at n) n x a0
abbrev q60_E (n:Nat):Ent:=⟨60,[tyI,tyA,tyA,tyA,tyA,tyA,tyA,tyA,tyA,tyA],[],fun x=>graph_components_1 n (x.1) (x.2.1) (x.2.2.1) (x.2.2.2.1) (x.2.2.2.2.1) (x.2.2.2.2.2.1) (x.2.2.2.2.2.2.1) (x.2.2.2.2.2.2.2.1) (x.2.2.2.2.2.2.2.2.1) (x.2.2.2.2.2.2.2.2.2)⟩
abbrev q60_L0_a:List (Nat×Ty):=[(2,tyA),(3,tyA),(4,tyA),(5,tyA),(7,tyA),(8,tyA),(9,tyA),(10,tyA),(11,tyR),(41,tyL),(42,tyI),(43,tyI)]
abbrev q60_L0_w:List Nat:=[13,43,44,45,46,47,48,49,50]
abbrev q60_L0_p:Path:=[0,1,0,1,1,1,1,1,1]
abbrev q60_L0_g (n:Nat)(x:TsDen (tys q60_L0_a)):M (Unit):=graph_components_1_L0 n (x.1) (x.2.1) (x.2.2.1) (x.2.2.2.1) (x.2.2.2.2.1) (x.2.2.2.2.2.1) (x.2.2.2.2.2.2.1) (x.2.2.2.2.2.2.2.1) (x.2.2.2.2.2.2.2.2.1) (x.2.2.2.2.2.2.2.2.2.1) (x.2.2.2.2.2.2.2.2.2.2.1) (x.2.2.2.2.2.2.2.2.2.2.2)
abbrev q60_L0_l (n:Nat):LEnt:=⟨q60_L0_p,q60_L0_a,actL1 q60_L0_a [] q60_L0_w 0 (q60_L0_g n)⟩
abbrev q60_L1_a:List (Nat×Ty):=[(2,tyA),(3,tyA),(4,tyA),(5,tyA),(8,tyA),(9,tyA),(10,tyA),(11,tyR),(56,tyL),(57,tyI),(58,tyI)]
abbrev q60_L1_w:List Nat:=[15,58,59,60,61,62,63,64,65]
abbrev q60_L1_p:Path:=[0,1,0,1,1,1,1,1,1,1]
abbrev q60_L1_g (n:Nat)(x:TsDen (tys q60_L1_a)):M (Unit):=graph_components_1_L1 n (x.1) (x.2.1) (x.2.2.1) (x.2.2.2.1) (x.2.2.2.2.1) (x.2.2.2.2.2.1) (x.2.2.2.2.2.2.1) (x.2.2.2.2.2.2.2.1) (x.2.2.2.2.2.2.2.2.1) (x.2.2.2.2.2.2.2.2.2.1) (x.2.2.2.2.2.2.2.2.2.2)
abbrev q60_L1_l (n:Nat):LEnt:=⟨q60_L1_p,q60_L1_a,actL1 q60_L1_a [] q60_L1_w 2 (q60_L1_g n)⟩
abbrev q60_L2_a:List (Nat×Ty):=[(4,tyA),(5,tyA),(8,tyA),(9,tyA),(10,tyA),(16,tyI)]
abbrev q60_L2_w:List Nat:=[16,17,75,76,77,78,79,80,81,82,83,84,85,86,87,88,89,90,91,92,93,94,95,96,97,98]
abbrev q60_L2_p:Path:=[0,0,1,1,1,1,1,1,1,1,1,1]
abbrev q60_L2_g (n:Nat)(x:TsDen (tys q60_L2_a)):M (Int):=graph_components_1_L2 n (x.1) (x.2.1) (x.2.2.1) (x.2.2.2.1) (x.2.2.2.2.1) (x.2.2.2.2.2)
abbrev q60_L2_l (n:Nat):LEnt:=⟨q60_L2_p,q60_L2_a,actL1 q60_L2_a [(16,tyI)] q60_L2_w 4 (q60_L2_g n)⟩
abbrev q61_E (n:Nat):Ent:=⟨61,[tyI,tyA,tyA,tyA,tyA,tyA],[],fun x=>graph_components_1_1 n (x.1) (x.2.1) (x.2.2.1) (x.2.2.2.1) (x.2.2.2.2.1) (x.2.2.2.2.2)⟩
abbrev q60_dt (n:Nat):List DEnt:=[⟨47,[tyI],[],fun x a=>graph_components_1_D47 n x (a)⟩,
 ⟨62,[tyI],[],fun x a=>graph_components_1_D62 n x (a)⟩]
def q60_dr (i:Nat):Option (List (Nat×List Nat)):=cond (Nat.beq i 2) (some [(0,[]),(1,[]),(2,[]),(3,[]),(4,[]),(6,[]),(5,[]),(7,[2,3,5]),(8,[]),(9,[])]) (cond (Nat.beq i 16) (some [(0,[]),(1,[]),(2,[]),(3,[]),(4,[]),(5,[]),(6,[]),(7,[]),(8,[])]) (none))
abbrev q60_lt (n:Nat):List LEnt:=[q60_L0_l n,q60_L1_l n,q60_L2_l n]
abbrev q61_dt (n:Nat):List DEnt:=[⟨12,[tyI],[],fun x a=>graph_components_1_1_D12 n x (a)⟩]
def q61_dr (i:Nat):Option (List (Nat×List Nat)):=cond (Nat.beq i 2) (some [(7,[]),(0,[]),(1,[]),(2,[]),(3,[]),(4,[]),(5,[]),(6,[]),(8,[]),(9,[]),(10,[]),(11,[]),(12,[])]) (cond (Nat.beq i 4) (some [(7,[]),(0,[]),(1,[]),(2,[]),(3,[]),(4,[]),(5,[]),(6,[]),(8,[]),(9,[]),(10,[]),(11,[]),(12,[])]) (none))
def P_graph_components_1 (n:Nat):Prop:=FnOK Tryz.prog (q60_E n)∧FnOK Tryz.prog (q61_E n)
theorem q60_L2_ok (n:Nat)(H:∀ m,m<n→P_graph_components_1 m){W:Wr}(hW:subW W 103 q60_L2_w=true):LEntOK Tryz.prog (bodyOf Tryz.f60) W (q60_L2_l n) :=
 loop1_t (bodyOf Tryz.f60) q60_L2_p q60_L2_a [(16,tyI)] 4 103 q60_L2_w [] (fun _=>[]) q60_dt (fun _=>[]) q60_dr q60_L2_g (fun _=>[]) (by kernel_rfl) (fun _=>by kernel_rfl) (fun n x=>by kernel_rfl) n (fun m hm=>⟨.nil,.nil,(.cons (dent_ok (l:=[⟨61,[tyA,tyA,tyA,tyA,tyA],fun a c=>graph_components_1_1 m (a) (c.1) (c.2.1) (c.2.2.1) (c.2.2.2.1) (c.2.2.2.2)⟩]) (.cons (fun a c=>callOK_cast (by kernel_rfl) ((H m hm).2 (a,c.1,c.2.1,c.2.2.1,c.2.2.2.1,c.2.2.2.2))) .nil) (fun x a=>by kernel_rfl)) (.cons (dent_ok (l:=[⟨61,[tyA,tyA,tyA,tyA,tyA],fun a c=>graph_components_1_1 m (a) (c.1) (c.2.1) (c.2.2.1) (c.2.2.2.1) (c.2.2.2.2)⟩]) (.cons (fun a c=>callOK_cast (by kernel_rfl) ((H m hm).2 (a,c.1,c.2.1,c.2.2.1,c.2.2.2.1,c.2.2.2.2))) .nil) (fun x a=>by kernel_rfl)) .nil)),.nil,.nil⟩) hW
theorem q60_L1_ok (n:Nat)(H:∀ m,m<n→P_graph_components_1 m){W:Wr}(hW:subW W 103 q60_L1_w=true):LEntOK Tryz.prog (bodyOf Tryz.f60) W (q60_L1_l n) :=
 loop1_t (bodyOf Tryz.f60) q60_L1_p q60_L1_a [] 2 103 q60_L1_w [] (fun _=>[]) q60_dt (fun _=>[]) q60_dr q60_L1_g (fun _=>[]) (by kernel_rfl) (fun _=>by kernel_rfl) (fun n x=>by kernel_rfl) n (fun m hm=>⟨.nil,.nil,(.cons (dent_ok (l:=[⟨61,[tyA,tyA,tyA,tyA,tyA],fun a c=>graph_components_1_1 m (a) (c.1) (c.2.1) (c.2.2.1) (c.2.2.2.1) (c.2.2.2.2)⟩]) (.cons (fun a c=>callOK_cast (by kernel_rfl) ((H m hm).2 (a,c.1,c.2.1,c.2.2.1,c.2.2.2.1,c.2.2.2.2))) .nil) (fun x a=>by kernel_rfl)) (.cons (dent_ok (l:=[⟨61,[tyA,tyA,tyA,tyA,tyA],fun a c=>graph_components_1_1 m (a) (c.1) (c.2.1) (c.2.2.1) (c.2.2.2.1) (c.2.2.2.2)⟩]) (.cons (fun a c=>callOK_cast (by kernel_rfl) ((H m hm).2 (a,c.1,c.2.1,c.2.2.1,c.2.2.2.1,c.2.2.2.2))) .nil) (fun x a=>by kernel_rfl)) .nil)),.nil,.nil⟩) hW
theorem q60_L0_ok (n:Nat)(H:∀ m,m<n→P_graph_components_1 m){W:Wr}(hW:subW W 103 q60_L0_w=true):LEntOK Tryz.prog (bodyOf Tryz.f60) W (q60_L0_l n) :=
 loop1_t (bodyOf Tryz.f60) q60_L0_p q60_L0_a [] 0 103 q60_L0_w [] (fun _=>[]) q60_dt (fun _=>[]) q60_dr q60_L0_g (fun _=>[]) (by kernel_rfl) (fun _=>by kernel_rfl) (fun n x=>by kernel_rfl) n (fun m hm=>⟨.nil,.nil,(.cons (dent_ok (l:=[⟨61,[tyA,tyA,tyA,tyA,tyA],fun a c=>graph_components_1_1 m (a) (c.1) (c.2.1) (c.2.2.1) (c.2.2.2.1) (c.2.2.2.2)⟩]) (.cons (fun a c=>callOK_cast (by kernel_rfl) ((H m hm).2 (a,c.1,c.2.1,c.2.2.1,c.2.2.2.1,c.2.2.2.2))) .nil) (fun x a=>by kernel_rfl)) (.cons (dent_ok (l:=[⟨61,[tyA,tyA,tyA,tyA,tyA],fun a c=>graph_components_1_1 m (a) (c.1) (c.2.1) (c.2.2.1) (c.2.2.2.1) (c.2.2.2.2)⟩]) (.cons (fun a c=>callOK_cast (by kernel_rfl) ((H m hm).2 (a,c.1,c.2.1,c.2.2.1,c.2.2.2.1,c.2.2.2.2))) .nil) (fun x a=>by kernel_rfl)) .nil)),.nil,.nil⟩) hW
theorem graph_components_1_ok_step (n:Nat)(H:∀ m,m<n+1→P_graph_components_1 m):FnOK Tryz.prog (q60_E (n+1)) :=
 fn_t (q60_E (n+1)) Tryz.f60 (bodyOf Tryz.f60) [(0,tyI),(1,tyA),(2,tyA),(3,tyA),(4,tyA),(5,tyA),(6,tyA),(7,tyA),(8,tyA),(9,tyA)] [] [] (q60_dt n) (q60_lt n) [] q60_dr (by kernel_rfl) (by kernel_rfl) (by kernel_rfl) (by kernel_rfl) (by kernel_rfl) ⟨.nil,.nil,(.cons (dent_ok (l:=[⟨61,[tyA,tyA,tyA,tyA,tyA],fun a c=>graph_components_1_1 n (a) (c.1) (c.2.1) (c.2.2.1) (c.2.2.2.1) (c.2.2.2.2)⟩]) (.cons (fun a c=>callOK_cast (by kernel_rfl) ((H n (Nat.lt_succ_self n)).2 (a,c.1,c.2.1,c.2.2.1,c.2.2.2.1,c.2.2.2.2))) .nil) (fun x a=>by kernel_rfl)) (.cons (dent_ok (l:=[⟨61,[tyA,tyA,tyA,tyA,tyA],fun a c=>graph_components_1_1 n (a) (c.1) (c.2.1) (c.2.2.1) (c.2.2.2.1) (c.2.2.2.2)⟩]) (.cons (fun a c=>callOK_cast (by kernel_rfl) ((H n (Nat.lt_succ_self n)).2 (a,c.1,c.2.1,c.2.2.1,c.2.2.2.1,c.2.2.2.2))) .nil) (fun x a=>by kernel_rfl)) .nil)),(.cons (q60_L0_ok n (fun k hk=>H k (Nat.lt_succ_of_lt hk)) (by kernel_rfl)) (.cons (q60_L1_ok n (fun k hk=>H k (Nat.lt_succ_of_lt hk)) (by kernel_rfl)) (.cons (q60_L2_ok n (fun k hk=>H k (Nat.lt_succ_of_lt hk)) (by kernel_rfl)) .nil))),.nil⟩ (fun x=>by kernel_rfl)
theorem graph_components_1_1_ok_step (n:Nat)(H:∀ m,m<n+1→P_graph_components_1 m):FnOK Tryz.prog (q61_E (n+1)) :=
 fn_t (q61_E (n+1)) Tryz.f61 (bodyOf Tryz.f61) [(0,tyI),(1,tyA),(2,tyA),(3,tyA),(4,tyA),(5,tyA)] [] [] (q61_dt n) [] [] q61_dr (by kernel_rfl) (by kernel_rfl) (by kernel_rfl) (by kernel_rfl) (by kernel_rfl) ⟨.nil,.nil,(.cons (dent_ok (l:=[⟨60,[tyA,tyA,tyA,tyA,tyA,tyA,tyA,tyA,tyA],fun a c=>graph_components_1 n (a) (c.1) (c.2.1) (c.2.2.1) (c.2.2.2.1) (c.2.2.2.2.1) (c.2.2.2.2.2.1) (c.2.2.2.2.2.2.1) (c.2.2.2.2.2.2.2.1) (c.2.2.2.2.2.2.2.2)⟩]) (.cons (fun a c=>callOK_cast (by kernel_rfl) ((H n (Nat.lt_succ_self n)).1 (a,c.1,c.2.1,c.2.2.1,c.2.2.2.1,c.2.2.2.2.1,c.2.2.2.2.2.1,c.2.2.2.2.2.2.1,c.2.2.2.2.2.2.2.1,c.2.2.2.2.2.2.2.2))) .nil) (fun x a=>by kernel_rfl)) .nil),.nil,.nil⟩ (fun x=>by kernel_rfl)
theorem P_graph_components_1_all:∀ n m,m<n→P_graph_components_1 m:=by
 intro n
 induction n with
 | zero=>intro m hm;exact absurd hm (Nat.not_lt_zero m)
 | succ n ih =>
  intro m hm
  cases m with
  | zero=>exact⟨fn_zero (fn:=Tryz.f60) (by kernel_rfl) (by kernel_rfl) (by kernel_rfl) (fun _=>rfl),fn_zero (fn:=Tryz.f61) (by kernel_rfl) (by kernel_rfl) (by kernel_rfl) (fun _=>rfl)⟩
  | succ k=>exact⟨graph_components_1_ok_step k fun m hm=>ih m (by omega),graph_components_1_1_ok_step k fun m hm=>ih m (by omega)⟩
theorem graph_components_1_ok (n:Nat):FnOK Tryz.prog (q60_E n):=(P_graph_components_1_all (n+1) n (Nat.lt_succ_self n)).1
def graph_components_D35 (n:Nat)(x:Value)(a0:Int):M (Unit) :=
 if isFn F_graph_components_1 x then
  M.bind (asFn [tyA,tyA,tyA,tyA,tyA,tyA,tyA,tyA,tyA] x) fun (c:Addr×Addr×Addr×Addr×Addr×Addr×Addr×Addr×Addr)=>graph_components_1 n a0 (c.1) (c.2.1) (c.2.2.1) (c.2.2.2.1) (c.2.2.2.2.1) (c.2.2.2.2.2.1) (c.2.2.2.2.2.2.1) (c.2.2.2.2.2.2.2.1) (c.2.2.2.2.2.2.2.2)
 else M.fail
def graph_components_L0_B (G:Addr→Int→Addr→Addr→Addr→Int→Int→M (Unit))(n:Nat)(a0:Addr)(a1:Int)(a2:Addr)(a3:Addr)(a4:Addr)(a5:Int)(a6:Int):M (Unit) :=
 if decide (a6<a5) then
  M.bind (ldL .sl a4) fun (x0:Sl) =>
  M.bind (idxA x0 a6 1) fun x1 =>
  M.bind (stN x1 [vi (-1)]) fun x2 =>
  G a0 a1 a2 a3 a4 a5 (IntKind.i64.wrap (a6+1))
 else
  M.pure ()
def graph_components_L0:Nat→Addr→Int→Addr→Addr→Addr→Int→Int→M (Unit)
 | 0=>fun _ _ _ _ _ _ _=>M.fail
 | n+1=>graph_components_L0_B (graph_components_L0 n) n
theorem graph_components_L0_succ (n:Nat):graph_components_L0 (n+1)=graph_components_L0_B (graph_components_L0 n) n:=rfl
def graph_components (n:Nat)(a0:Sl×Int):M (Sl×Sl) :=
 M.bind (newB none T_api_Graph [vsl a0.1,vi a0.2]) fun x0 =>
 M.bind (ldL .sl ((adr x0).plus 0)) fun (x1:Sl) =>
 M.bind (reserve 12) fun x2 =>
 M.bind (mkS (some (x2+1)) T_i64 [vi 0] (↑x1.len:Int) (↑x1.len:Int)) fun x3 =>
 M.bind (mkS (some (x2+3)) T_i64 [vi 0] (↑x1.len:Int) (↑x1.len:Int)) fun x4 =>
 M.bind (mkS (some (x2+5)) T_i64 [vi 0] (↑x1.len:Int) (↑x1.len:Int)) fun x5 =>
 M.bind (newB (some (x2+6)) T_sl_i64 [vsl0]) fun x6 =>
 M.bind (newB (some (x2+7)) T_sl_i64 [vsl0]) fun x7 =>
 M.bind (newB (some (x2+8)) T_sl_i64 [vsl0]) fun x8 =>
 M.bind (chkK [x2+3,x2+5] (adr x6) (chk [none,none] (stN (adr x6) [vsl x3]))) fun x9 =>
 M.bind (chkK [x2+5] (adr x7) (chk [none] (stN (adr x7) [vsl x4]))) fun x10 =>
 M.bind (stN (adr x8) [vsl x5]) fun x11 =>
 M.bind (ldL .sl (adr x8)) fun (x12:Sl) =>
 M.bind (graph_components_L0 n (adr x0) (↑x1.len:Int) (adr x6) (adr x7) (adr x8) (↑x12.len:Int) 0) fun x13 =>
 M.bind (newB none T_sl_i64 [vsl0]) fun x14 =>
 M.bind (newB none T_sl_i64 [vsl0]) fun x15 =>
 M.bind (mkS none T_bool [Value.bool false] (↑x1.len:Int) (↑x1.len:Int)) fun x16 =>
 M.bind (newB none T_sl_bool [vsl0]) fun x17 =>
 M.bind (stN (adr x17) [vsl x16]) fun x18 =>
 M.bind (newB none T_i64 [vi 0]) fun x19 =>
 M.bind (stN (adr x19) [vi 0]) fun x20 =>
 M.bind (newB none T_fn_i64__ [Value.nilFunc]) fun x21 =>
 M.bind (stN (adr x21) [Value.func (Fn.func F_graph_components_1) #[] #[Value.pointer (some (adr x19)),Value.pointer (some (adr x6)),Value.pointer (some (adr x7)),Value.pointer (some (adr x15)),Value.pointer (some (adr x17)),Value.pointer (some (adr x21)),Value.pointer (some (adr x0)),Value.pointer (some (adr x14)),Value.pointer (some (adr x8))]]) fun x22 =>
 M.bind (ldL .raw (adr x21)) fun (x23:Value) =>
 M.bind (ldL (li) ((adr x0).plus 1)) fun (x24:Int) =>
 M.bind (graph_components_D35 n x23 x24) fun x25 =>
 M.bind (ldL .sl (adr x8)) fun (x26:Sl) =>
 M.bind (ldL .sl (adr x14)) fun (x27:Sl) =>
 M.pure (x26,x27)
abbrev q47_E (n:Nat):Ent:=⟨47,[.agg [.sl,.int .i64]],[tyL,tyL],fun x=>graph_components n x⟩
abbrev q47_L0_a:List (Nat×Ty):=[(1,tyA),(4,tyI),(5,tyA),(6,tyA),(7,tyA),(24,tyI),(25,tyI)]
abbrev q47_L0_w:List Nat:=[8,25,26,27,28,29,30,31]
abbrev q47_L0_p:Path:=[0,1,0,1,1,1]
abbrev q47_L0_g (n:Nat)(x:TsDen (tys q47_L0_a)):M (Unit):=graph_components_L0 n (x.1) (x.2.1) (x.2.2.1) (x.2.2.2.1) (x.2.2.2.2.1) (x.2.2.2.2.2.1) (x.2.2.2.2.2.2)
abbrev q47_L0_l (n:Nat):LEnt:=⟨q47_L0_p,q47_L0_a,actL1 q47_L0_a [] q47_L0_w 0 (q47_L0_g n)⟩
abbrev q47_dt (n:Nat):List DEnt:=[⟨35,[tyI],[],fun x a=>graph_components_D35 n x (a)⟩]
def q47_dr (i:Nat):Option (List (Nat×List Nat)):=cond (Nat.beq i 2) (some [(0,[]),(2,[]),(4,[]),(1,[]),(3,[]),(5,[]),(6,[]),(7,[]),(8,[]),(9,[3,5]),(10,[5]),(11,[])]) (cond (Nat.beq i 14) (some [(0,[]),(2,[]),(1,[]),(3,[])]) (none))
abbrev q47_lt (n:Nat):List LEnt:=[q47_L0_l n]
theorem q47_L0_ok (n:Nat){W:Wr}(hW:subW W 41 q47_L0_w=true):LEntOK Tryz.prog (bodyOf Tryz.f47) W (q47_L0_l n) :=
 loop1_t (bodyOf Tryz.f47) q47_L0_p q47_L0_a [] 0 41 q47_L0_w [] (fun _=>[]) q47_dt (fun _=>[]) q47_dr q47_L0_g (fun _=>[]) (by kernel_rfl) (fun _=>by kernel_rfl) (fun n x=>by kernel_rfl) n (fun m hm=>⟨.nil,.nil,(.cons (dent_ok (l:=[⟨60,[tyA,tyA,tyA,tyA,tyA,tyA,tyA,tyA,tyA],fun a c=>graph_components_1 m (a) (c.1) (c.2.1) (c.2.2.1) (c.2.2.2.1) (c.2.2.2.2.1) (c.2.2.2.2.2.1) (c.2.2.2.2.2.2.1) (c.2.2.2.2.2.2.2.1) (c.2.2.2.2.2.2.2.2)⟩]) (.cons (fun a c=>callOK_cast (by kernel_rfl) ((graph_components_1_ok m) (a,c.1,c.2.1,c.2.2.1,c.2.2.2.1,c.2.2.2.2.1,c.2.2.2.2.2.1,c.2.2.2.2.2.2.1,c.2.2.2.2.2.2.2.1,c.2.2.2.2.2.2.2.2))) .nil) (fun x a=>by kernel_rfl)) .nil),.nil,.nil⟩) hW
theorem graph_components_ok (n:Nat):FnOK Tryz.prog (q47_E n) :=
 fn_t (q47_E n) Tryz.f47 (bodyOf Tryz.f47) [(0,.agg [.sl,.int .i64])] [] [] (q47_dt n) (q47_lt n) [] q47_dr (by kernel_rfl) (by kernel_rfl) (by kernel_rfl) (by kernel_rfl) (by kernel_rfl) ⟨.nil,.nil,(.cons (dent_ok (l:=[⟨60,[tyA,tyA,tyA,tyA,tyA,tyA,tyA,tyA,tyA],fun a c=>graph_components_1 n (a) (c.1) (c.2.1) (c.2.2.1) (c.2.2.2.1) (c.2.2.2.2.1) (c.2.2.2.2.2.1) (c.2.2.2.2.2.2.1) (c.2.2.2.2.2.2.2.1) (c.2.2.2.2.2.2.2.2)⟩]) (.cons (fun a c=>callOK_cast (by kernel_rfl) ((graph_components_1_ok n) (a,c.1,c.2.1,c.2.2.1,c.2.2.2.1,c.2.2.2.2.1,c.2.2.2.2.2.1,c.2.2.2.2.2.2.1,c.2.2.2.2.2.2.2.1,c.2.2.2.2.2.2.2.2))) .nil) (fun x a=>by kernel_rfl)) .nil),(.cons (q47_L0_ok n (by kernel_rfl)) .nil),.nil⟩ (fun x=>by kernel_rfl)
def graph_depth_L4_B (G:Addr→Sl→Sl→Bool→Sl→Sl→Int→Int→Int→Sl→Int→Int→Sl→Int→Int→Sl→Int→Int→M (Bool))(n:Nat)(a0:Addr)(a1:Sl)(a2:Sl)(a3:Bool)(a4:Sl)(a5:Sl)(a6:Int)(a7:Int)(a8:Int)(a9:Sl)(a10:Int)(a11:Int)(a12:Sl)(a13:Int)(a14:Int)(a15:Sl)(a16:Int)(a17:Int):M (Bool) :=
 if decide (a17<a16) then
  M.bind (idxA a15 a17 1) fun x0 =>
  M.bind (ldL (li) x0) fun (x1:Int) =>
  M.bind (idxA a1 x1 1) fun x2 =>
  M.bind (ldL (li) x2) fun (x3:Int) =>
  if decide (x3=a6) then
   G a0 a1 a2 false a4 a5 a6 a7 a8 a9 a10 a11 a12 a13 a14 a15 a16 (IntKind.i64.wrap (a17+1))
  else
   M.bind (idxA a4 a6 1) fun x4 =>
   M.bind (idxA a1 x1 1) fun x5 =>
   M.bind (ldL (li) x4) fun (x6:Int) =>
   M.bind (ldL (li) x5) fun (x7:Int) =>
   M.bind (idxA a4 x7 1) fun x8 =>
   M.bind (ldL (li) x8) fun (x9:Int) =>
   M.bind (idxA a4 a6 1) fun x10 =>
   M.bind (stN x10 [vi (if x6<x9 then x9 else x6)]) fun x11 =>
   G a0 a1 a2 a3 a4 a5 a6 a7 a8 a9 a10 a11 a12 a13 a14 a15 a16 (IntKind.i64.wrap (a17+1))
 else
  M.pure a3
def graph_depth_L4:Nat→Addr→Sl→Sl→Bool→Sl→Sl→Int→Int→Int→Sl→Int→Int→Sl→Int→Int→Sl→Int→Int→M (Bool)
 | 0=>fun _ _ _ _ _ _ _ _ _ _ _ _ _ _ _ _ _ _=>M.fail
 | n+1=>graph_depth_L4_B (graph_depth_L4 n) n
theorem graph_depth_L4_succ (n:Nat):graph_depth_L4 (n+1)=graph_depth_L4_B (graph_depth_L4 n) n:=rfl
def graph_depth_L3_B (G:Addr→Sl→Sl→Bool→Sl→Sl→Int→Int→Int→Sl→Int→Int→Sl→Int→Int→M (Bool))(n:Nat)(a0:Addr)(a1:Sl)(a2:Sl)(a3:Bool)(a4:Sl)(a5:Sl)(a6:Int)(a7:Int)(a8:Int)(a9:Sl)(a10:Int)(a11:Int)(a12:Sl)(a13:Int)(a14:Int):M (Bool) :=
 if decide (a14<a13) then
  M.bind (idxA a12 a14 1) fun x0 =>
  M.bind (ldL .sl x0) fun (x1:Sl) =>
  M.bind (graph_depth_L4 n a0 a1 a2 a3 a4 a5 a6 a7 a8 a9 a10 a11 a12 a13 a14 x1 (↑x1.len:Int) 0) fun x2 =>
  G a0 a1 a2 x2 a4 a5 a6 a7 a8 a9 a10 a11 a12 a13 (IntKind.i64.wrap (a14+1))
 else
  M.pure a3
def graph_depth_L3:Nat→Addr→Sl→Sl→Bool→Sl→Sl→Int→Int→Int→Sl→Int→Int→Sl→Int→Int→M (Bool)
 | 0=>fun _ _ _ _ _ _ _ _ _ _ _ _ _ _ _=>M.fail
 | n+1=>graph_depth_L3_B (graph_depth_L3 n) n
theorem graph_depth_L3_succ (n:Nat):graph_depth_L3 (n+1)=graph_depth_L3_B (graph_depth_L3 n) n:=rfl
def graph_depth_L2_B (G:Addr→Sl→Sl→Bool→Sl→Sl→Int→Int→Int→Sl→Int→Int→M (Bool))(n:Nat)(a0:Addr)(a1:Sl)(a2:Sl)(a3:Bool)(a4:Sl)(a5:Sl)(a6:Int)(a7:Int)(a8:Int)(a9:Sl)(a10:Int)(a11:Int):M (Bool) :=
 if decide (a11<a10) then
  M.bind (idxA a9 a11 1) fun x0 =>
  M.bind (ldL (li) x0) fun (x1:Int) =>
  M.bind (reserve 15) fun x2 =>
  M.bind (ldL .sl (a0.plus 0)) fun (x3:Sl) =>
  M.bind (idxA x3 x1 5) fun x4 =>
  M.bind (ldL .sl (x4.plus 3)) fun (x5:Sl) =>
  M.bind (ldL .sl (a0.plus 0)) fun (x6:Sl) =>
  M.bind (idxA x6 x1 5) fun x7 =>
  M.bind (ldL .sl (x7.plus 4)) fun (x8:Sl) =>
  M.bind (newB (some (x2+12)) T_sl_i64 [vsl x5,vsl x8]) fun x9 =>
  M.bind (graph_depth_L3 n a0 a1 a2 a3 a4 a5 a6 a7 a8 a9 a10 a11 { a:=some (adr x9),len:=2,cap:=3 } (↑2:Int) 0) fun x10 =>
  G a0 a1 a2 x10 a4 a5 a6 a7 a8 a9 a10 (IntKind.i64.wrap (a11+1))
 else
  M.pure a3
def graph_depth_L2:Nat→Addr→Sl→Sl→Bool→Sl→Sl→Int→Int→Int→Sl→Int→Int→M (Bool)
 | 0=>fun _ _ _ _ _ _ _ _ _ _ _ _=>M.fail
 | n+1=>graph_depth_L2_B (graph_depth_L2 n) n
theorem graph_depth_L2_succ (n:Nat):graph_depth_L2 (n+1)=graph_depth_L2_B (graph_depth_L2 n) n:=rfl
def graph_depth_L1_B (G:Addr→Sl→Sl→Bool→Sl→Sl→Int→Int→M (Bool))(n:Nat)(a0:Addr)(a1:Sl)(a2:Sl)(a3:Bool)(a4:Sl)(a5:Sl)(a6:Int)(a7:Int):M (Bool) :=
 if decide (a7<a6) then
  M.bind (idxA a5 a7 1) fun x0 =>
  M.bind (ldL .sl x0) fun (x1:Sl) =>
  M.bind (graph_depth_L2 n a0 a1 a2 a3 a4 a5 a7 a6 a7 x1 (↑x1.len:Int) 0) fun x2 =>
  M.bind (idxA a4 a7 1) fun x3 =>
  M.bind (idxA a2 a7 1) fun x4 =>
  M.bind (ldL (li) x3) fun (x5:Int) =>
  M.bind (ldL (li) x4) fun (x6:Int) =>
  M.bind (idxA a4 a7 1) fun x7 =>
  M.bind (stN x7 [vi (IntKind.i64.wrap (x5+x6))]) fun x8 =>
  G a0 a1 a2 x2 a4 a5 a6 (IntKind.i64.wrap (a7+1))
 else
  M.pure a3
def graph_depth_L1:Nat→Addr→Sl→Sl→Bool→Sl→Sl→Int→Int→M (Bool)
 | 0=>fun _ _ _ _ _ _ _ _=>M.fail
 | n+1=>graph_depth_L1_B (graph_depth_L1 n) n
theorem graph_depth_L1_succ (n:Nat):graph_depth_L1 (n+1)=graph_depth_L1_B (graph_depth_L1 n) n:=rfl
def graph_depth_L0_B (G:Addr→Sl→Sl→Bool→Sl→Sl→Sl→Int→Int→M (Unit))(n:Nat)(a0:Addr)(a1:Sl)(a2:Sl)(a3:Bool)(a4:Sl)(a5:Sl)(a6:Sl)(a7:Int)(a8:Int):M (Unit) :=
 if decide (a8<a7) then
  M.bind (idxA a6 a8 1) fun x0 =>
  M.bind (ldL (li) x0) fun (x1:Int) =>
  M.bind (idxA a5 x1 1) fun x2 =>
  M.bind (ldL .sl x2) fun (x3:Sl) =>
  M.bind (app false x3 1 T_i64 1 [vi a8]) fun x4 =>
  M.bind (idxA a5 x1 1) fun x5 =>
  M.bind (stN x5 [vsl x4]) fun x6 =>
  G a0 a1 a2 a3 a4 a5 a6 a7 (IntKind.i64.wrap (a8+1))
 else
  M.pure ()
def graph_depth_L0:Nat→Addr→Sl→Sl→Bool→Sl→Sl→Sl→Int→Int→M (Unit)
 | 0=>fun _ _ _ _ _ _ _ _ _=>M.fail
 | n+1=>graph_depth_L0_B (graph_depth_L0 n) n
theorem graph_depth_L0_succ (n:Nat):graph_depth_L0 (n+1)=graph_depth_L0_B (graph_depth_L0 n) n:=rfl
def graph_depth (n:Nat)(a0:Sl×Int):M (Int×Bool) :=
 M.bind (newB none T_api_Graph [vsl a0.1,vi a0.2]) fun x0 =>
 M.bind (ldLs [.sl,li] (adr x0)) fun (x1:Sl×Int) =>
 M.bind (graph_components n (x1.1,x1.2)) fun x2 =>
 M.bind (mkS none T_i64 [vi 0] (↑x2.2.len:Int) (↑x2.2.len:Int)) fun x3 =>
 M.bind (mkS none T_sl_i64 [vsl0] (↑x2.2.len:Int) (↑x2.2.len:Int)) fun x4 =>
 M.bind (graph_depth_L0 n (adr x0) x2.1 x2.2 true x3 x4 x2.1 (↑x2.1.len:Int) 0) fun x5 =>
 M.bind (graph_depth_L1 n (adr x0) x2.1 x2.2 true x3 x4 (↑x2.2.len:Int) 0) fun x6 =>
 M.bind (ldL (li) ((adr x0).plus 1)) fun (x7:Int) =>
 M.bind (idxA x2.1 x7 1) fun x8 =>
 M.bind (ldL (li) x8) fun (x9:Int) =>
 M.bind (idxA x3 x9 1) fun x10 =>
 M.bind (ldL (li) x10) fun (x11:Int) =>
 M.pure (IntKind.i64.wrap (x11 - 1),x6)
abbrev q38_E (n:Nat):Ent:=⟨38,[.agg [.sl,.int .i64]],[tyI,tyB],fun x=>graph_depth n x⟩
abbrev q38_L0_a:List (Nat×Ty):=[(1,tyA),(4,tyL),(5,tyL),(6,tyB),(7,tyL),(8,tyL),(29,tyL),(30,tyI),(31,tyI)]
abbrev q38_L0_w:List Nat:=[9,10,31,32,33,34,35,36,37,38,39,40,41,42,43,44,45,46]
abbrev q38_L0_p:Path:=[0,1,0,1,1,1,1,1]
abbrev q38_L0_g (n:Nat)(x:TsDen (tys q38_L0_a)):M (Unit):=graph_depth_L0 n (x.1) (x.2.1) (x.2.2.1) (x.2.2.2.1) (x.2.2.2.2.1) (x.2.2.2.2.2.1) (x.2.2.2.2.2.2.1) (x.2.2.2.2.2.2.2.1) (x.2.2.2.2.2.2.2.2)
abbrev q38_L0_l (n:Nat):LEnt:=⟨q38_L0_p,q38_L0_a,actL1 q38_L0_a [] q38_L0_w 0 (q38_L0_g n)⟩
abbrev q38_L1_a:List (Nat×Ty):=[(1,tyA),(4,tyL),(5,tyL),(6,tyB),(7,tyL),(8,tyL),(48,tyI),(49,tyI)]
abbrev q38_L1_w:List Nat:=[6,11,13,15,17,49,50,51,52,53,54,55,56,57,58,59,60,61,62,63,64,65,66,67,68,69,70,71,72,73,74,75,76,77,78,79,80,81,82,83,84,85,86,87,88,89,90,91,92,93,94,95,96,97,98,99,100,101,102,103,104,105,106,107,108,109,110,111,112,113,114,115,116,117,118,119]
abbrev q38_L1_p:Path:=[0,1,0,1,1,1,1,1,1]
abbrev q38_L1_g (n:Nat)(x:TsDen (tys q38_L1_a)):M (Bool):=graph_depth_L1 n (x.1) (x.2.1) (x.2.2.1) (x.2.2.2.1) (x.2.2.2.2.1) (x.2.2.2.2.2.1) (x.2.2.2.2.2.2.1) (x.2.2.2.2.2.2.2)
abbrev q38_L1_l (n:Nat):LEnt:=⟨q38_L1_p,q38_L1_a,actL1 q38_L1_a [(6,tyB)] q38_L1_w 2 (q38_L1_g n)⟩
abbrev q38_L2_a:List (Nat×Ty):=[(1,tyA),(4,tyL),(5,tyL),(6,tyB),(7,tyL),(8,tyL),(11,tyI),(48,tyI),(49,tyI),(55,tyL),(56,tyI),(57,tyI)]
abbrev q38_L2_w:List Nat:=[6,13,15,17,57,58,59,60,61,62,63,64,65,66,67,68,69,70,71,72,73,74,75,76,77,78,79,80,81,82,83,84,85,86,87,88,89,90,91,92,93,94,95,96,97,98,99,100,101,102,103,104,105,106,107,108]
abbrev q38_L2_p:Path:=[0,1,0,1,0,0,1,1,0,0,1,0,1,1,1,1,1,1]
abbrev q38_L2_g (n:Nat)(x:TsDen (tys q38_L2_a)):M (Bool):=graph_depth_L2 n (x.1) (x.2.1) (x.2.2.1) (x.2.2.2.1) (x.2.2.2.2.1) (x.2.2.2.2.2.1) (x.2.2.2.2.2.2.1) (x.2.2.2.2.2.2.2.1) (x.2.2.2.2.2.2.2.2.1) (x.2.2.2.2.2.2.2.2.2.1) (x.2.2.2.2.2.2.2.2.2.2.1) (x.2.2.2.2.2.2.2.2.2.2.2)
abbrev q38_L2_l (n:Nat):LEnt:=⟨q38_L2_p,q38_L2_a,actL1 q38_L2_a [(6,tyB)] q38_L2_w 4 (q38_L2_g n)⟩
abbrev q38_L3_a:List (Nat×Ty):=[(1,tyA),(4,tyL),(5,tyL),(6,tyB),(7,tyL),(8,tyL),(11,tyI),(48,tyI),(49,tyI),(55,tyL),(56,tyI),(57,tyI),(73,tyL),(74,tyI),(75,tyI)]
abbrev q38_L3_w:List Nat:=[6,15,17,75,76,77,78,79,80,81,82,83,84,85,86,87,88,89,90,91,92,93,94,95,96,97,98,99,100,101,102,103,104,105,106,107]
abbrev q38_L3_p:Path:=[0,1,1,0,0,1,1,0,0,1,0,1,0,0,1,1,0,0,1,0,1,1,1,1,1,1]
abbrev q38_L3_g (n:Nat)(x:TsDen (tys q38_L3_a)):M (Bool):=graph_depth_L3 n (x.1) (x.2.1) (x.2.2.1) (x.2.2.2.1) (x.2.2.2.2.1) (x.2.2.2.2.2.1) (x.2.2.2.2.2.2.1) (x.2.2.2.2.2.2.2.1) (x.2.2.2.2.2.2.2.2.1) (x.2.2.2.2.2.2.2.2.2.1) (x.2.2.2.2.2.2.2.2.2.2.1) (x.2.2.2.2.2.2.2.2.2.2.2.1) (x.2.2.2.2.2.2.2.2.2.2.2.2.1) (x.2.2.2.2.2.2.2.2.2.2.2.2.2.1) (x.2.2.2.2.2.2.2.2.2.2.2.2.2.2)
abbrev q38_L3_l (n:Nat):LEnt:=⟨q38_L3_p,q38_L3_a,actL1 q38_L3_a [(6,tyB)] q38_L3_w 6 (q38_L3_g n)⟩
abbrev q38_L4_a:List (Nat×Ty):=[(1,tyA),(4,tyL),(5,tyL),(6,tyB),(7,tyL),(8,tyL),(11,tyI),(48,tyI),(49,tyI),(55,tyL),(56,tyI),(57,tyI),(73,tyL),(74,tyI),(75,tyI),(79,tyL),(80,tyI),(81,tyI)]
abbrev q38_L4_w:List Nat:=[6,17,81,82,83,84,85,86,87,88,89,90,91,92,93,94,95,96,97,98,99,100,101,102,103,104,105,106]
abbrev q38_L4_p:Path:=[0,1,1,0,0,1,1,0,0,1,1,0,0,1,1,0,0,1,0,1,0,0,1,1,0,0,1,0,1,1,1,1,1,1]
abbrev q38_L4_g (n:Nat)(x:TsDen (tys q38_L4_a)):M (Bool):=graph_depth_L4 n (x.1) (x.2.1) (x.2.2.1) (x.2.2.2.1) (x.2.2.2.2.1) (x.2.2.2.2.2.1) (x.2.2.2.2.2.2.1) (x.2.2.2.2.2.2.2.1) (x.2.2.2.2.2.2.2.2.1) (x.2.2.2.2.2.2.2.2.2.1) (x.2.2.2.2.2.2.2.2.2.2.1) (x.2.2.2.2.2.2.2.2.2.2.2.1) (x.2.2.2.2.2.2.2.2.2.2.2.2.1) (x.2.2.2.2.2.2.2.2.2.2.2.2.2.1) (x.2.2.2.2.2.2.2.2.2.2.2.2.2.2.1) (x.2.2.2.2.2.2.2.2.2.2.2.2.2.2.2.1) (x.2.2.2.2.2.2.2.2.2.2.2.2.2.2.2.2.1) (x.2.2.2.2.2.2.2.2.2.2.2.2.2.2.2.2.2)
abbrev q38_L4_l (n:Nat):LEnt:=⟨q38_L4_p,q38_L4_a,actL1 q38_L4_a [(6,tyB)] q38_L4_w 8 (q38_L4_g n)⟩
abbrev q38_ct (n:Nat):List Ent:=[q47_E n]
def q38_dr (i:Nat):Option (List (Nat×List Nat)):=cond (Nat.beq i 16) (some [(0,[]),(2,[]),(6,[]),(8,[]),(14,[]),(1,[]),(3,[]),(4,[]),(5,[]),(7,[]),(9,[]),(10,[]),(11,[]),(12,[]),(13,[])]) (cond (Nat.beq i 24) (some [(0,[]),(1,[]),(2,[]),(3,[]),(4,[]),(6,[]),(7,[]),(8,[]),(9,[]),(5,[]),(10,[]),(11,[]),(12,[]),(13,[]),(14,[]),(15,[])]) (cond (Nat.beq i 28) (some [(0,[]),(1,[]),(2,[]),(4,[]),(5,[]),(6,[]),(3,[]),(7,[]),(8,[]),(9,[]),(10,[])]) (none)))
abbrev q38_L3_lt (n:Nat):List LEnt:=[q38_L4_l n]
abbrev q38_L2_lt (n:Nat):List LEnt:=[q38_L3_l n]
abbrev q38_L1_lt (n:Nat):List LEnt:=[q38_L2_l n]
abbrev q38_lt (n:Nat):List LEnt:=[q38_L0_l n,q38_L1_l n]
theorem q38_L4_ok (n:Nat){W:Wr}(hW:subW W 130 q38_L4_w=true):LEntOK Tryz.prog (bodyOf Tryz.f38) W (q38_L4_l n) :=
 loop1_t (bodyOf Tryz.f38) q38_L4_p q38_L4_a [(6,tyB)] 8 130 q38_L4_w [] q38_ct (fun _=>[]) (fun _=>[]) q38_dr q38_L4_g (fun _=>[]) (by kernel_rfl) (fun _=>by kernel_rfl) (fun n x=>by kernel_rfl) n (fun m hm=>⟨.nil,(.cons (graph_components_ok m) .nil),.nil,.nil,.nil⟩) hW
theorem q38_L3_ok (n:Nat){W:Wr}(hW:subW W 130 q38_L3_w=true):LEntOK Tryz.prog (bodyOf Tryz.f38) W (q38_L3_l n) :=
 loop1_t (bodyOf Tryz.f38) q38_L3_p q38_L3_a [(6,tyB)] 6 130 q38_L3_w [] q38_ct (fun _=>[]) q38_L3_lt q38_dr q38_L3_g (fun _=>[]) (by kernel_rfl) (fun _=>by kernel_rfl) (fun n x=>by kernel_rfl) n (fun m hm=>⟨.nil,(.cons (graph_components_ok m) .nil),.nil,(.cons (q38_L4_ok m (by kernel_rfl)) .nil),.nil⟩) hW
theorem q38_L2_ok (n:Nat){W:Wr}(hW:subW W 130 q38_L2_w=true):LEntOK Tryz.prog (bodyOf Tryz.f38) W (q38_L2_l n) :=
 loop1_t (bodyOf Tryz.f38) q38_L2_p q38_L2_a [(6,tyB)] 4 130 q38_L2_w [] q38_ct (fun _=>[]) q38_L2_lt q38_dr q38_L2_g (fun _=>[]) (by kernel_rfl) (fun _=>by kernel_rfl) (fun n x=>by kernel_rfl) n (fun m hm=>⟨.nil,(.cons (graph_components_ok m) .nil),.nil,(.cons (q38_L3_ok m (by kernel_rfl)) .nil),.nil⟩) hW
theorem q38_L1_ok (n:Nat){W:Wr}(hW:subW W 130 q38_L1_w=true):LEntOK Tryz.prog (bodyOf Tryz.f38) W (q38_L1_l n) :=
 loop1_t (bodyOf Tryz.f38) q38_L1_p q38_L1_a [(6,tyB)] 2 130 q38_L1_w [] q38_ct (fun _=>[]) q38_L1_lt q38_dr q38_L1_g (fun _=>[]) (by kernel_rfl) (fun _=>by kernel_rfl) (fun n x=>by kernel_rfl) n (fun m hm=>⟨.nil,(.cons (graph_components_ok m) .nil),.nil,(.cons (q38_L2_ok m (by kernel_rfl)) .nil),.nil⟩) hW
theorem q38_L0_ok (n:Nat){W:Wr}(hW:subW W 130 q38_L0_w=true):LEntOK Tryz.prog (bodyOf Tryz.f38) W (q38_L0_l n) :=
 loop1_t (bodyOf Tryz.f38) q38_L0_p q38_L0_a [] 0 130 q38_L0_w [] q38_ct (fun _=>[]) (fun _=>[]) q38_dr q38_L0_g (fun _=>[]) (by kernel_rfl) (fun _=>by kernel_rfl) (fun n x=>by kernel_rfl) n (fun m hm=>⟨.nil,(.cons (graph_components_ok m) .nil),.nil,.nil,.nil⟩) hW
theorem graph_depth_ok (n:Nat):FnOK Tryz.prog (q38_E n) :=
 fn_t (q38_E n) Tryz.f38 (bodyOf Tryz.f38) [(0,.agg [.sl,.int .i64])] [] (q38_ct n) [] (q38_lt n) [] q38_dr (by kernel_rfl) (by kernel_rfl) (by kernel_rfl) (by kernel_rfl) (by kernel_rfl) ⟨.nil,(.cons (graph_components_ok n) .nil),.nil,(.cons (q38_L0_ok n (by kernel_rfl)) (.cons (q38_L1_ok n (by kernel_rfl)) .nil)),.nil⟩ (fun x=>by kernel_rfl)
end Go.Sh
