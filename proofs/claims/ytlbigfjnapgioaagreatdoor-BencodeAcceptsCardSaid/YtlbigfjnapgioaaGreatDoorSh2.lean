
import Derived.Test.YtlbigfjnapgioaaGreatDoorSh1
set_option maxRecDepth 100000
set_option maxHeartbeats 0
set_option linter.all false
namespace Go.Sh
open Go Go.Ago Go.Proofs
def span_occurrences_L2_B (G : Addr → Addr → Sl → Option Nat → Int → Sl → Sl → Int → Int → Sl → Int → Int → M ((Unit) ⊕ (Bool))) (n : Nat) (a0 : Addr) (a1 : Addr) (a2 : Sl) (a3 : Option Nat) (a4 : Int) (a5 : Sl) (a6 : Sl) (a7 : Int) (a8 : Int) (a9 : Sl) (a10 : Int) (a11 : Int) : M ((Unit) ⊕ (Bool)) :=
 if decide (a11 < a10) then
  M.bind (idxA a9 a11 1) fun x0 =>
  M.bind (ldL (li) x0) fun (x1 : Int) =>
  M.bind (ldL .sl (a0.plus 4)) fun (x2 : Sl) =>
  M.bind (idxA x2 x1 9) fun x3 =>
  M.bind (ldL (li) (x3.plus 2)) fun (x4 : Int) =>
  M.bind (idxA a5 x4 1) fun x5 =>
  M.bind (ldL .bool x5) fun (x6 : Bool) =>
  if x6 then
   M.pure (Sum.inr false)
  else
   M.bind (ldL .sl (a0.plus 4)) fun (x7 : Sl) =>
   M.bind (idxA x7 x1 9) fun x8 =>
   M.bind (ldL (li) (x8.plus 2)) fun (x9 : Int) =>
   M.bind (idxA a5 x9 1) fun x10 =>
   M.bind (stN x10 [Value.bool true]) fun x11 =>
   G a0 a1 a2 a3 a4 a5 a6 a7 a8 a9 a10 (IntKind.i64.wrap (a11 + 1))
 else
  M.pure (Sum.inl ())
def span_occurrences_L2 : Nat → Addr → Addr → Sl → Option Nat → Int → Sl → Sl → Int → Int → Sl → Int → Int → M ((Unit) ⊕ (Bool))
 | 0=>fun _ _ _ _ _ _ _ _ _ _ _ _=>M.fail
 | n + 1=>span_occurrences_L2_B (span_occurrences_L2 n) n
theorem span_occurrences_L2_succ (n : Nat) : span_occurrences_L2 (n + 1) = span_occurrences_L2_B (span_occurrences_L2 n) n:=rfl
def span_occurrences_L3_B (G : Sl → Sl → Int → Int → M ((Unit) ⊕ (Bool))) (n : Nat) (a0 : Sl) (a1 : Sl) (a2 : Int) (a3 : Int) : M ((Unit) ⊕ (Bool)) :=
 if decide (a3 < a2) then
  M.bind (idxA a1 a3 1) fun x0 =>
  M.bind (ldL .bool x0) fun (x1 : Bool) =>
  if !x1 then
   M.bind (idxA a0 a3 1) fun x2 =>
   M.bind (ldL (li) x2) fun (x3 : Int) =>
   if !decide (x3 = 1) then
    M.pure (Sum.inr false)
   else
    if x1 then
     M.bind (idxA a0 a3 1) fun x4 =>
     M.bind (ldL (li) x4) fun (x5 : Int) =>
     if !decide (x5 = 0) then
      M.pure (Sum.inr false)
     else
      G a0 a1 a2 (IntKind.i64.wrap (a3 + 1))
    else
     G a0 a1 a2 (IntKind.i64.wrap (a3 + 1))
  else
   if x1 then
    M.bind (idxA a0 a3 1) fun x2 =>
    M.bind (ldL (li) x2) fun (x3 : Int) =>
    if !decide (x3 = 0) then
     M.pure (Sum.inr false)
    else
     G a0 a1 a2 (IntKind.i64.wrap (a3 + 1))
   else
    G a0 a1 a2 (IntKind.i64.wrap (a3 + 1))
 else
  M.pure (Sum.inl ())
def span_occurrences_L3 : Nat → Sl → Sl → Int → Int → M ((Unit) ⊕ (Bool))
 | 0=>fun _ _ _ _=>M.fail
 | n + 1=>span_occurrences_L3_B (span_occurrences_L3 n) n
theorem span_occurrences_L3_succ (n : Nat) : span_occurrences_L3 (n + 1) = span_occurrences_L3_B (span_occurrences_L3 n) n:=rfl
def span_occurrences_L1_B (G : Addr → Addr → Sl → Option Nat → Sl → Int → Int → M ((Unit) ⊕ (Bool))) (n : Nat) (a0 : Addr) (a1 : Addr) (a2 : Sl) (a3 : Option Nat) (a4 : Sl) (a5 : Int) (a6 : Int) : M ((Unit) ⊕ (Bool)) :=
 if decide (a6 < a5) then
  M.bind (idxA a4 a6 9) fun x0 =>
  M.bind (ldLs [li,li,li,li,li,li,li,.bool,.bool] x0) fun (x1 : Int × Int × Int × Int × Int × Int × Int × Bool × Bool) =>
  M.bind (newB none T_api_Span [vi 0,vi 0,vi 0,vi 0,vi 0,vi 0,vi 0,Value.bool false,Value.bool false]) fun x2 =>
  M.bind (stN (adr x2) [vi x1.1,vi x1.2.1,vi x1.2.2.1,vi x1.2.2.2.1,vi x1.2.2.2.2.1,vi x1.2.2.2.2.2.1,vi x1.2.2.2.2.2.2.1,Value.bool x1.2.2.2.2.2.2.2.1,Value.bool x1.2.2.2.2.2.2.2.2]) fun x3 =>
  M.bind (ldL .bool ((adr x2).plus 7)) fun (x4 : Bool) =>
  if x4 then
   G a0 a1 a2 a3 a4 a5 (IntKind.i64.wrap (a6 + 1))
  else
   M.bind (ldL (li) ((adr x2).plus 0)) fun (x5 : Int) =>
   M.bind (idxA a2 x5 1) fun x6 =>
   M.bind (ldL (li) x6) fun (x7 : Int) =>
   M.bind (idxA a2 x5 1) fun x8 =>
   M.bind (stN x8 [vi (IntKind.i64.wrap (x7 + 1))]) fun x9 =>
   M.bind (ldL .sl (a1.plus 0)) fun (x10 : Sl) =>
   M.bind (ldL (li) ((adr x2).plus 0)) fun (x11 : Int) =>
   M.bind (idxA x10 x11 5) fun x12 =>
   M.bind (ldL .sl (x12.plus 4)) fun (x13 : Sl) =>
   M.bind (mkS none T_bool [Value.bool false] (↑x13.len : Int) (↑x13.len : Int)) fun x14 =>
   M.bind (mpGet T_i64 (Ty.one .sl) sl0 a3 (vi a6)) fun (x15 : Bool × Sl) =>
   M.bind (span_occurrences_L2 n a0 a1 a2 a3 a6 x14 a4 a5 a6 x15.2 (↑x15.2.len : Int) 0) (sumElim (fun x16 =>
    M.bind (mpGet T_i64 (Ty.one .sl) sl0 a3 (vi a6)) fun (x17 : Bool × Sl) =>
    if !decide ((↑x17.2.len : Int) = (↑x14.len : Int)) then
     M.pure (Sum.inr false)
    else
     G a0 a1 a2 a3 a4 a5 (IntKind.i64.wrap (a6 + 1)))
   (fun x16 =>
    M.pure (Sum.inr x16)))
 else
  M.pure (Sum.inl ())
def span_occurrences_L1 : Nat → Addr → Addr → Sl → Option Nat → Sl → Int → Int → M ((Unit) ⊕ (Bool))
 | 0=>fun _ _ _ _ _ _ _=>M.fail
 | n + 1=>span_occurrences_L1_B (span_occurrences_L1 n) n
theorem span_occurrences_L1_succ (n : Nat) : span_occurrences_L1 (n + 1) = span_occurrences_L1_B (span_occurrences_L1 n) n:=rfl
def span_occurrences_L0_J0_B (G : Addr → Addr → Sl → Int → Int → M ((Unit) ⊕ (Bool))) (n : Nat) (a0 : Addr) (a1 : Addr) (a2 : Addr) (a3 : Sl) (a4 : Int) (a5 : Int) : M ((Unit) ⊕ (Bool)) :=
 M.bind (ldL .sl (a1.plus 0)) fun (x0 : Sl) =>
 M.bind (ldL .sl (a0.plus 4)) fun (x1 : Sl) =>
 M.bind (ldL (li) (a2.plus 1)) fun (x2 : Int) =>
 M.bind (idxA x1 x2 9) fun x3 =>
 M.bind (ldL (li) (x3.plus 0)) fun (x4 : Int) =>
 M.bind (idxA x0 x4 5) fun x5 =>
 M.bind (ldL .sl (x5.plus 4)) fun (x6 : Sl) =>
 M.bind (ldL (li) (a2.plus 2)) fun (x7 : Int) =>
 if decide (x7 < 0) then
  M.pure (Sum.inr false)
 else
  M.bind (ldL (li) (a2.plus 2)) fun (x8 : Int) =>
  if decide ((↑x6.len : Int) ≤ x8) then
   M.pure (Sum.inr false)
  else
   M.bind (ldL (li) (a2.plus 0)) fun (x9 : Int) =>
   M.bind (ldL (li) (a2.plus 2)) fun (x10 : Int) =>
   M.bind (idxA x6 x10 1) fun x11 =>
   M.bind (ldL (li) x11) fun (x12 : Int) =>
   if !decide (x9 = x12) then
    M.pure (Sum.inr false)
   else
    G a0 a1 a3 a4 (IntKind.i64.wrap (a5 + 1))
def span_occurrences_L0_B (G : Addr → Addr → Sl → Int → Int → M ((Unit) ⊕ (Bool))) (n : Nat) (a0 : Addr) (a1 : Addr) (a2 : Sl) (a3 : Int) (a4 : Int) : M ((Unit) ⊕ (Bool)) :=
 if decide (a4 < a3) then
  M.bind (idxA a2 a4 9) fun x0 =>
  M.bind (ldLs [li,li,li,li,li,li,li,.bool,.bool] x0) fun (x1 : Int × Int × Int × Int × Int × Int × Int × Bool × Bool) =>
  M.bind (newB none T_api_Span [vi 0,vi 0,vi 0,vi 0,vi 0,vi 0,vi 0,Value.bool false,Value.bool false]) fun x2 =>
  M.bind (stN (adr x2) [vi x1.1,vi x1.2.1,vi x1.2.2.1,vi x1.2.2.2.1,vi x1.2.2.2.2.1,vi x1.2.2.2.2.2.1,vi x1.2.2.2.2.2.2.1,Value.bool x1.2.2.2.2.2.2.2.1,Value.bool x1.2.2.2.2.2.2.2.2]) fun x3 =>
  M.bind (ldL (li) ((adr x2).plus 1)) fun (x4 : Int) =>
  if decide (x4 < 0) then
   M.pure (Sum.inr false)
  else
   M.bind (ldL (li) ((adr x2).plus 1)) fun (x5 : Int) =>
   if decide (a4 < x5) then
    M.pure (Sum.inr false)
   else
    M.bind (ldL .sl (a0.plus 4)) fun (x6 : Sl) =>
    M.bind (ldL (li) ((adr x2).plus 1)) fun (x7 : Int) =>
    M.bind (idxA x6 x7 9) fun x8 =>
    M.bind (ldL .bool (x8.plus 7)) fun (x9 : Bool) =>
    if x9 then
     M.pure (Sum.inr false)
    else
     span_occurrences_L0_J0_B G n a0 a1 (adr x2) a2 a3 a4
 else
  M.pure (Sum.inl ())
def span_occurrences_L0 : Nat → Addr → Addr → Sl → Int → Int → M ((Unit) ⊕ (Bool))
 | 0=>fun _ _ _ _ _=>M.fail
 | n + 1=>span_occurrences_L0_B (span_occurrences_L0 n) n
theorem span_occurrences_L0_succ (n : Nat) : span_occurrences_L0 (n + 1) = span_occurrences_L0_B (span_occurrences_L0 n) n:=rfl
def span_occurrences_L0_J0 (n : Nat) (a0 : Addr) (a1 : Addr) (a2 : Addr) (a3 : Sl) (a4 : Int) (a5 : Int) : M ((Unit) ⊕ (Bool)):=span_occurrences_L0_J0_B (span_occurrences_L0 n) n a0 a1 a2 a3 a4 a5
def span_occurrences_J1 (n : Nat) (a0 : Addr) (a1 : Addr) : M (Bool) :=
 M.bind (ldL .sl (a0.plus 4)) fun (x0 : Sl) =>
 M.bind (sliceL x0 1 (↑x0.len : Int) T_api_Span 9) fun x1 =>
 M.bind (span_occurrences_L0 n a0 a1 x1 (↑x1.len : Int) 0) (sumElim (fun x2 =>
  M.bind (ldL .sl (a1.plus 0)) fun (x3 : Sl) =>
  M.bind (mkS none T_i64 [vi 0] (↑x3.len : Int) (↑x3.len : Int)) fun x4 =>
  M.bind (ldLs [li,.str,.sl,li,.sl,.sl] a0) fun (x5 : Int × ByteArray × Sl × Int × Sl × Sl) =>
  M.bind (span_children n (x5.1,x5.2.1,x5.2.2.1,x5.2.2.2.1,x5.2.2.2.2.1,x5.2.2.2.2.2)) fun x6 =>
  M.bind (ldL .sl (a0.plus 4)) fun (x7 : Sl) =>
  M.bind (span_occurrences_L1 n a0 a1 x4 x6 x7 (↑x7.len : Int) 0) (sumElim (fun x8 =>
   M.bind (ldLs [.sl,li] a1) fun (x9 : Sl × Int) =>
   M.bind (span_inKeys n (x9.1,x9.2)) fun x10 =>
   M.bind (span_occurrences_L3 n x4 x10 (↑x10.len : Int) 0) (sumElim (fun x11 =>
    M.pure true)
   (fun x11 =>
    M.pure x11)))
  (fun x8 =>
   M.pure x8)))
 (fun x2 =>
  M.pure x2))
def span_occurrences_J0 (n : Nat) (a0 : Addr) (a1 : Addr) : M (Bool) :=
 M.bind (ldL .sl (a0.plus 4)) fun (x0 : Sl) =>
 M.bind (idxA x0 0 9) fun x1 =>
 M.bind (ldLs [li,li,li,li,li,li,li,.bool,.bool] x1) fun (x2 : Int × Int × Int × Int × Int × Int × Int × Bool × Bool) =>
 M.bind (newB none T_api_Span [vi 0,vi 0,vi 0,vi 0,vi 0,vi 0,vi 0,Value.bool false,Value.bool false]) fun x3 =>
 M.bind (stN (adr x3) [vi x2.1,vi x2.2.1,vi x2.2.2.1,vi x2.2.2.2.1,vi x2.2.2.2.2.1,vi x2.2.2.2.2.2.1,vi x2.2.2.2.2.2.2.1,Value.bool x2.2.2.2.2.2.2.2.1,Value.bool x2.2.2.2.2.2.2.2.2]) fun x4 =>
 M.bind (ldL (li) ((adr x3).plus 0)) fun (x5 : Int) =>
 M.bind (ldL (li) (a1.plus 1)) fun (x6 : Int) =>
 if !decide (x5 = x6) then
  M.pure false
 else
  M.bind (ldL (li) ((adr x3).plus 1)) fun (x7 : Int) =>
  if !decide (x7 = -1) then
   M.pure false
  else
   M.bind (ldL (li) ((adr x3).plus 2)) fun (x8 : Int) =>
   if !decide (x8 = 0) then
    M.pure false
   else
    M.bind (ldL .bool ((adr x3).plus 7)) fun (x9 : Bool) =>
    if x9 then
     M.pure false
    else
     span_occurrences_J1 n a0 a1
def span_occurrences (n : Nat) (a0 : Int × ByteArray × Sl × Int × Sl × Sl) : M (Bool) :=
 M.bind (newB none T_api_Doc [vi a0.1,Value.string a0.2.1,vsl a0.2.2.1,vi a0.2.2.2.1,vsl a0.2.2.2.2.1,vsl a0.2.2.2.2.2]) fun x0 =>
 M.bind (ldLs [.sl,li] ((adr x0).plus 2)) fun (x1 : Sl × Int) =>
 M.bind (newB none T_api_Graph [vsl0,vi 0]) fun x2 =>
 M.bind (stN (adr x2) [vsl x1.1,vi x1.2]) fun x3 =>
 M.bind (ldLs [.sl,li] (adr x2)) fun (x4 : Sl × Int) =>
 M.bind (graph_Check n (x4.1,x4.2)) fun x5 =>
 if !decide (x5 = 0) then
  M.pure false
 else
  M.bind (ldL .sl ((adr x0).plus 4)) fun (x6 : Sl) =>
  if decide ((↑x6.len : Int) = 0) then
   M.pure false
  else
   span_occurrences_J0 n (adr x0) (adr x2)
abbrev q37_E (n : Nat) : Ent:=⟨37,[.agg [.int .i64,.str,.sl,.int .i64,.sl,.sl]],[tyB],fun x=>span_occurrences n x⟩
abbrev q37_L0_a : List (Nat × Ty):=[(1,tyA),(3,tyA),(53,tyL),(54,tyI),(55,tyI)]
abbrev q37_L0_w : List Nat:=[2,5,6,7,55,56,57,58,59,60,61,62,63,64,65,66,67,68,69,70,71,72,73,74,75,76,77,78,79,80,81,82,83,84,85,86,87,88,89,90,91,92,93,94,95,96,97,98,99,100,101,102,103,104,105,106,107,108,109,110]
abbrev q37_L0_p : Path:=[0,1,0,1,1,1,1,1]
abbrev q37_L0_g (n : Nat) (x : TsDen (tys q37_L0_a)) : M ((Unit) ⊕ (Bool)):=span_occurrences_L0 n (x.1) (x.2.1) (x.2.2.1) (x.2.2.2.1) (x.2.2.2.2)
abbrev q37_L0_l (n : Nat) : LEnt:=⟨q37_L0_p,q37_L0_a,actL2 q37_L0_a [] [(2,tyB)] q37_L0_w 0 .ret (q37_L0_g n)⟩
abbrev q37_L1_a : List (Nat × Ty):=[(1,tyA),(3,tyA),(8,tyL),(9,tyM),(118,tyL),(119,tyI),(120,tyI)]
abbrev q37_L1_w : List Nat:=[2,10,11,12,14,120,121,122,123,124,125,126,127,128,129,130,131,132,133,134,135,136,137,138,139,140,141,142,143,144,145,146,147,148,149,150,151,152,153,154,155,156,157,158,159,160,161,162,163,164,165,166,167,168,169,170,171,172,173,174,175,176]
abbrev q37_L1_p : Path:=[0,1,0,1,1,1,1,1,1,1,1]
abbrev q37_L1_g (n : Nat) (x : TsDen (tys q37_L1_a)) : M ((Unit) ⊕ (Bool)):=span_occurrences_L1 n (x.1) (x.2.1) (x.2.2.1) (x.2.2.2.1) (x.2.2.2.2.1) (x.2.2.2.2.2.1) (x.2.2.2.2.2.2)
abbrev q37_L1_l (n : Nat) : LEnt:=⟨q37_L1_p,q37_L1_a,actL2 q37_L1_a [] [(2,tyB)] q37_L1_w 2 .ret (q37_L1_g n)⟩
abbrev q37_L2_a : List (Nat × Ty):=[(1,tyA),(3,tyA),(8,tyL),(9,tyM),(10,tyI),(12,tyL),(118,tyL),(119,tyI),(120,tyI),(145,tyL),(146,tyI),(147,tyI)]
abbrev q37_L2_w : List Nat:=[2,14,147,148,149,150,151,152,153,154,155,156,157,158,159,160,161,162,163,164,165,166,167,168]
abbrev q37_L2_p : Path:=[0,1,0,1,1,1,1,0,0,1,1,0,0,1,0,1,1,1,1,1,1,1,1]
abbrev q37_L2_g (n : Nat) (x : TsDen (tys q37_L2_a)) : M ((Unit) ⊕ (Bool)):=span_occurrences_L2 n (x.1) (x.2.1) (x.2.2.1) (x.2.2.2.1) (x.2.2.2.2.1) (x.2.2.2.2.2.1) (x.2.2.2.2.2.2.1) (x.2.2.2.2.2.2.2.1) (x.2.2.2.2.2.2.2.2.1) (x.2.2.2.2.2.2.2.2.2.1) (x.2.2.2.2.2.2.2.2.2.2.1) (x.2.2.2.2.2.2.2.2.2.2.2)
abbrev q37_L2_l (n : Nat) : LEnt:=⟨q37_L2_p,q37_L2_a,actL2 q37_L2_a [] [(2,tyB)] q37_L2_w 4 .ret (q37_L2_g n)⟩
abbrev q37_L3_a : List (Nat × Ty):=[(8,tyL),(178,tyL),(179,tyI),(180,tyI)]
abbrev q37_L3_w : List Nat:=[2,15,16,180,181,182,183,184,185,186,187,188,189,190,191,192,193,194,195,196,197,198,199,200,201,202,203,204]
abbrev q37_L3_p : Path:=[0,1,0,1,1,1,1,1,1,1,1,1]
abbrev q37_L3_g (n : Nat) (x : TsDen (tys q37_L3_a)) : M ((Unit) ⊕ (Bool)):=span_occurrences_L3 n (x.1) (x.2.1) (x.2.2.1) (x.2.2.2)
abbrev q37_L3_l (n : Nat) : LEnt:=⟨q37_L3_p,q37_L3_a,actL2 q37_L3_a [] [(2,tyB)] q37_L3_w 6 .ret (q37_L3_g n)⟩
abbrev q37_dt (n : Nat) : List DEnt:=[]
abbrev q37_ct (n : Nat) : List Ent:=[q15_E n,q73_E n,q74_E n]
def q37_dr (i : Nat) : Option (List (Nat × List Nat)):=cond (Nat.beq i 12) (some [(0,[]),(2,[]),(4,[]),(1,[]),(3,[]),(5,[]),(6,[]),(7,[]),(8,[]),(9,[]),(10,[]),(11,[]),(12,[])]) (cond (Nat.beq i 13) (some [(0,[]),(1,[]),(2,[]),(3,[]),(4,[]),(6,[]),(7,[]),(5,[]),(8,[]),(9,[]),(10,[]),(11,[]),(13,[]),(14,[]),(12,[]),(15,[]),(16,[]),(17,[]),(18,[]),(19,[])]) (none))
abbrev q37_L1_lt (n : Nat) : List LEnt:=[q37_L2_l n]
abbrev q37_L0_jt1 (n : Nat) : List (JEnt ((Unit) ⊕ (Bool))):=[]
abbrev q37_L0_jt0 (n : Nat) : List (JEnt ((Unit) ⊕ (Bool))):=⟨[0,1,1,0,0,1,1,0,0,1,0,1,1,1,1,1],[.code [1,1,1,0,0,1,1,0,0,1,0,1,1,1,1,1],.blk 1,.code [1,1,1,0,0,1,0,1,1,1,1,1]],[(1,tyA),(3,tyA),(6,tyA),(53,tyL),(54,tyI),(55,tyI)],fun x=>span_occurrences_L0_J0 n (x.1) (x.2.1) (x.2.2.1) (x.2.2.2.1) (x.2.2.2.2.1) (x.2.2.2.2.2)⟩ :: q37_L0_jt1 n
abbrev q37_lt (n : Nat) : List LEnt:=[q37_L0_l n,q37_L1_l n,q37_L3_l n]
abbrev q37_jt2 (n : Nat) : List (JEnt (Bool)):=[]
abbrev q37_jt1 (n : Nat) : List (JEnt (Bool)):=⟨[0,0,1,1,1,1,1],[.code [1,0,1,1,1,1,1],.code [1,1,1,1,1,1]],[(1,tyA),(3,tyA)],fun x=>span_occurrences_J1 n (x.1) (x.2)⟩ :: q37_jt2 n
abbrev q37_jt0 (n : Nat) : List (JEnt (Bool)):=⟨[0,1,1,1],[.code [1,1,1,1]],[(1,tyA),(3,tyA)],fun x=>span_occurrences_J0 n (x.1) (x.2)⟩ :: q37_jt1 n
theorem q37_L2_ok (n : Nat) {W : Wr} (hW : subW W 205 q37_L2_w = true) : LEntOK Tryz.prog (bodyOf Tryz.f37) W (q37_L2_l n) :=
 loop2_t (bodyOf Tryz.f37) q37_L2_p q37_L2_a [] [(2,tyB)] 4 .ret 205 q37_L2_w [] q37_ct q37_dt (fun _=>[]) q37_dr q37_L2_g (fun _=>[]) (by kernel_rfl) (fun _=>by kernel_rfl) (fun n x=>by kernel_rfl) n (fun m hm=>⟨.nil,(.cons (graph_Check_ok m) (.cons (span_children_ok m) (.cons (span_inKeys_ok m) .nil))),.nil,.nil,.nil⟩) hW
theorem q37_L3_ok (n : Nat) {W : Wr} (hW : subW W 205 q37_L3_w = true) : LEntOK Tryz.prog (bodyOf Tryz.f37) W (q37_L3_l n) :=
 loop2_t (bodyOf Tryz.f37) q37_L3_p q37_L3_a [] [(2,tyB)] 6 .ret 205 q37_L3_w [] q37_ct q37_dt (fun _=>[]) q37_dr q37_L3_g (fun _=>[]) (by kernel_rfl) (fun _=>by kernel_rfl) (fun n x=>by kernel_rfl) n (fun m hm=>⟨.nil,(.cons (graph_Check_ok m) (.cons (span_children_ok m) (.cons (span_inKeys_ok m) .nil))),.nil,.nil,.nil⟩) hW
theorem q37_L1_ok (n : Nat) {W : Wr} (hW : subW W 205 q37_L1_w = true) : LEntOK Tryz.prog (bodyOf Tryz.f37) W (q37_L1_l n) :=
 loop2_t (bodyOf Tryz.f37) q37_L1_p q37_L1_a [] [(2,tyB)] 2 .ret 205 q37_L1_w [] q37_ct q37_dt q37_L1_lt q37_dr q37_L1_g (fun _=>[]) (by kernel_rfl) (fun _=>by kernel_rfl) (fun n x=>by kernel_rfl) n (fun m hm=>⟨.nil,(.cons (graph_Check_ok m) (.cons (span_children_ok m) (.cons (span_inKeys_ok m) .nil))),.nil,(.cons (q37_L2_ok m (by kernel_rfl)) .nil),.nil⟩) hW
theorem q37_L0_ok (n : Nat) {W : Wr} (hW : subW W 205 q37_L0_w = true) : LEntOK Tryz.prog (bodyOf Tryz.f37) W (q37_L0_l n) :=
 loop2_t (bodyOf Tryz.f37) q37_L0_p q37_L0_a [] [(2,tyB)] 0 .ret 205 q37_L0_w [] q37_ct q37_dt (fun _=>[]) q37_dr q37_L0_g q37_L0_jt0 (by kernel_rfl) (fun _=>by kernel_rfl) (fun n x=>by kernel_rfl) n (fun m hm=>⟨.nil,(.cons (graph_Check_ok m) (.cons (span_children_ok m) (.cons (span_inKeys_ok m) .nil))),.nil,.nil,(.cons (fun x=>by kernel_rfl) .nil)⟩) hW
theorem span_occurrences_ok (n : Nat) : FnOK Tryz.prog (q37_E n) :=
 fn_t (q37_E n) Tryz.f37 (bodyOf Tryz.f37) [(0,.agg [.int .i64,.str,.sl,.int .i64,.sl,.sl])] [] (q37_ct n) (q37_dt n) (q37_lt n) (q37_jt0 n) q37_dr (by kernel_rfl) (by kernel_rfl) (by kernel_rfl) (by kernel_rfl) (by kernel_rfl) ⟨.nil,(.cons (graph_Check_ok n) (.cons (span_children_ok n) (.cons (span_inKeys_ok n) .nil))),.nil,(.cons (q37_L0_ok n (by kernel_rfl)) (.cons (q37_L1_ok n (by kernel_rfl)) (.cons (q37_L3_ok n (by kernel_rfl)) .nil))),(.cons (fun x=>by kernel_rfl) (.cons (fun x=>by kernel_rfl) .nil))⟩ (fun x=>by kernel_rfl)
def span_Check_3 (n : Nat) (a0 : Addr) : M (Bool × Int) :=
 M.bind (ldLs [li,.str,.sl,li,.sl,.sl] a0) fun (x0 : Int × ByteArray × Sl × Int × Sl × Sl) =>
 M.bind (span_occurrences n (x0.1,x0.2.1,x0.2.2.1,x0.2.2.2.1,x0.2.2.2.2.1,x0.2.2.2.2.2)) fun x1 =>
 M.pure (x1,3)
abbrev q36_E (n : Nat) : Ent:=⟨36,[tyA],[tyB,tyI],fun x=>span_Check_3 n x⟩
abbrev q36_dt (n : Nat) : List DEnt:=[]
abbrev q36_ct (n : Nat) : List Ent:=[q37_E n]
def q36_dr (i : Nat) : Option (List (Nat × List Nat)):=none
theorem span_Check_3_ok (n : Nat) : FnOK Tryz.prog (q36_E n) :=
 fn_t (q36_E n) Tryz.f36 (bodyOf Tryz.f36) [(0,tyA)] [] (q36_ct n) (q36_dt n) [] [] q36_dr (by kernel_rfl) (by kernel_rfl) (by kernel_rfl) (by kernel_rfl) (by kernel_rfl) ⟨.nil,(.cons (span_occurrences_ok n) .nil),.nil,.nil,.nil⟩ (fun x=>by kernel_rfl)
def span_ranges_L1_B (G : Addr → Int → Int → Sl → Int → Int → M ((Unit) ⊕ (Bool))) (n : Nat) (a0 : Addr) (a1 : Int) (a2 : Int) (a3 : Sl) (a4 : Int) (a5 : Int) : M ((Unit) ⊕ (Bool)) :=
 if decide (a5 < a4) then
  M.bind (idxA a3 a5 3) fun x0 =>
  M.bind (ldLs [li,li,.str] x0) fun (x1 : Int × Int × ByteArray) =>
  M.bind (newB none T_api_Note [vi 0,vi 0,Value.string (ofBytes [])]) fun x2 =>
  M.bind (stN (adr x2) [vi x1.1,vi x1.2.1,Value.string x1.2.2]) fun x3 =>
  M.bind (ldL (li) ((adr x2).plus 0)) fun (x4 : Int) =>
  if decide (x4 < a2) then
   M.pure (Sum.inr false)
  else
   M.bind (ldL (li) ((adr x2).plus 0)) fun (x5 : Int) =>
   M.bind (ldL (li) ((adr x2).plus 1)) fun (x6 : Int) =>
   if decide (x6 ≤ x5) then
    M.pure (Sum.inr false)
   else
    M.bind (ldL (li) ((adr x2).plus 1)) fun (x7 : Int) =>
    if decide (a1 < x7) then
     M.pure (Sum.inr false)
    else
     M.bind (ldL .str ((adr x2).plus 2)) fun (x8 : ByteArray) =>
     M.bind (ldL .str (a0.plus 1)) fun (x9 : ByteArray) =>
     M.bind (ldL (li) ((adr x2).plus 0)) fun (x10 : Int) =>
     M.bind (ldL (li) ((adr x2).plus 1)) fun (x11 : Int) =>
     M.bind (sliceS x9 x10 x11) fun x12 =>
     if !eqS x8 x12 then
      M.pure (Sum.inr false)
     else
      M.bind (ldL (li) ((adr x2).plus 1)) fun (x13 : Int) =>
      G a0 a1 x13 a3 a4 (IntKind.i64.wrap (a5 + 1))
 else
  M.pure (Sum.inl ())
def span_ranges_L1 : Nat → Addr → Int → Int → Sl → Int → Int → M ((Unit) ⊕ (Bool))
 | 0=>fun _ _ _ _ _ _=>M.fail
 | n + 1=>span_ranges_L1_B (span_ranges_L1 n) n
theorem span_ranges_L1_succ (n : Nat) : span_ranges_L1 (n + 1) = span_ranges_L1_B (span_ranges_L1 n) n:=rfl
def span_ranges_L0_J1_B (G : Addr → Int → Sl → Int → Int → M ((Unit) ⊕ (Bool))) (n : Nat) (a0 : Addr) (a1 : Int) (a2 : Addr) (a3 : Bool) (a4 : Sl) (a5 : Int) (a6 : Int) : M ((Unit) ⊕ (Bool)) :=
 if !a3 then
  M.bind (ldL (li) (a2.plus 5)) fun (x0 : Int) =>
  if !decide (x0 = 0) then
   M.pure (Sum.inr false)
  else
   M.bind (ldL (li) (a2.plus 6)) fun (x1 : Int) =>
   if !decide (x1 = 0) then
    M.pure (Sum.inr false)
   else
    G a0 a1 a4 a5 (IntKind.i64.wrap (a6 + 1))
 else
  G a0 a1 a4 a5 (IntKind.i64.wrap (a6 + 1))
def span_ranges_L0_J0_B (G : Addr → Int → Sl → Int → Int → M ((Unit) ⊕ (Bool))) (n : Nat) (a0 : Addr) (a1 : Int) (a2 : Addr) (a3 : Sl) (a4 : Int) (a5 : Int) : M ((Unit) ⊕ (Bool)) :=
 M.bind (ldL (li) (a2.plus 1)) fun (x0 : Int) =>
 if decide (0 ≤ x0) then
  M.bind (ldL .sl ((a0.plus 2).plus 0)) fun (x1 : Sl) =>
  M.bind (ldL .sl (a0.plus 4)) fun (x2 : Sl) =>
  M.bind (ldL (li) (a2.plus 1)) fun (x3 : Int) =>
  M.bind (idxA x2 x3 9) fun x4 =>
  M.bind (ldL (li) (x4.plus 0)) fun (x5 : Int) =>
  M.bind (idxA x1 x5 5) fun x6 =>
  M.bind (ldL (li) (x6.plus 0)) fun (x7 : Int) =>
  span_ranges_L0_J1_B G n a0 a1 a2 (decide (x7 = 10)) a3 a4 a5
 else
  span_ranges_L0_J1_B G n a0 a1 a2 false a3 a4 a5
def span_ranges_L0_B (G : Addr → Int → Sl → Int → Int → M ((Unit) ⊕ (Bool))) (n : Nat) (a0 : Addr) (a1 : Int) (a2 : Sl) (a3 : Int) (a4 : Int) : M ((Unit) ⊕ (Bool)) :=
 if decide (a4 < a3) then
  M.bind (idxA a2 a4 9) fun x0 =>
  M.bind (ldLs [li,li,li,li,li,li,li,.bool,.bool] x0) fun (x1 : Int × Int × Int × Int × Int × Int × Int × Bool × Bool) =>
  M.bind (newB none T_api_Span [vi 0,vi 0,vi 0,vi 0,vi 0,vi 0,vi 0,Value.bool false,Value.bool false]) fun x2 =>
  M.bind (stN (adr x2) [vi x1.1,vi x1.2.1,vi x1.2.2.1,vi x1.2.2.2.1,vi x1.2.2.2.2.1,vi x1.2.2.2.2.2.1,vi x1.2.2.2.2.2.2.1,Value.bool x1.2.2.2.2.2.2.2.1,Value.bool x1.2.2.2.2.2.2.2.2]) fun x3 =>
  M.bind (ldL (li) ((adr x2).plus 3)) fun (x4 : Int) =>
  if decide (x4 < 0) then
   M.pure (Sum.inr false)
  else
   M.bind (ldL (li) ((adr x2).plus 3)) fun (x5 : Int) =>
   M.bind (ldL (li) ((adr x2).plus 4)) fun (x6 : Int) =>
   if decide (x6 < x5) then
    M.pure (Sum.inr false)
   else
    M.bind (ldL (li) ((adr x2).plus 4)) fun (x7 : Int) =>
    if decide (a1 < x7) then
     M.pure (Sum.inr false)
    else
     M.bind (ldL (li) ((adr x2).plus 5)) fun (x8 : Int) =>
     if decide (x8 < 0) then
      M.pure (Sum.inr false)
     else
      M.bind (ldL (li) ((adr x2).plus 5)) fun (x9 : Int) =>
      M.bind (ldL (li) ((adr x2).plus 6)) fun (x10 : Int) =>
      if decide (x10 < x9) then
       M.pure (Sum.inr false)
      else
       M.bind (ldL (li) ((adr x2).plus 6)) fun (x11 : Int) =>
       if decide (a1 < x11) then
        M.pure (Sum.inr false)
       else
        span_ranges_L0_J0_B G n a0 a1 (adr x2) a2 a3 a4
 else
  M.pure (Sum.inl ())
def span_ranges_L0 : Nat → Addr → Int → Sl → Int → Int → M ((Unit) ⊕ (Bool))
 | 0=>fun _ _ _ _ _=>M.fail
 | n + 1=>span_ranges_L0_B (span_ranges_L0 n) n
theorem span_ranges_L0_succ (n : Nat) : span_ranges_L0 (n + 1) = span_ranges_L0_B (span_ranges_L0 n) n:=rfl
def span_ranges_L0_J0 (n : Nat) (a0 : Addr) (a1 : Int) (a2 : Addr) (a3 : Sl) (a4 : Int) (a5 : Int) : M ((Unit) ⊕ (Bool)):=span_ranges_L0_J0_B (span_ranges_L0 n) n a0 a1 a2 a3 a4 a5
def span_ranges_L0_J1 (n : Nat) (a0 : Addr) (a1 : Int) (a2 : Addr) (a3 : Bool) (a4 : Sl) (a5 : Int) (a6 : Int) : M ((Unit) ⊕ (Bool)):=span_ranges_L0_J1_B (span_ranges_L0 n) n a0 a1 a2 a3 a4 a5 a6
def span_ranges (n : Nat) (a0 : Int × ByteArray × Sl × Int × Sl × Sl) : M (Bool) :=
 M.bind (newB none T_api_Doc [vi a0.1,Value.string a0.2.1,vsl a0.2.2.1,vi a0.2.2.2.1,vsl a0.2.2.2.2.1,vsl a0.2.2.2.2.2]) fun x0 =>
 M.bind (ldL .str ((adr x0).plus 1)) fun (x1 : ByteArray) =>
 M.bind (ldL .sl ((adr x0).plus 4)) fun (x2 : Sl) =>
 M.bind (span_ranges_L0 n (adr x0) (↑(ByteArray.size x1) : Int) x2 (↑x2.len : Int) 0) (sumElim (fun x3 =>
  M.bind (ldL .sl ((adr x0).plus 5)) fun (x4 : Sl) =>
  M.bind (span_ranges_L1 n (adr x0) (↑(ByteArray.size x1) : Int) 0 x4 (↑x4.len : Int) 0) (sumElim (fun x5 =>
   M.pure true)
  (fun x5 =>
   M.pure x5)))
 (fun x3 =>
  M.pure x3))
abbrev q39_E (n : Nat) : Ent:=⟨39,[.agg [.int .i64,.str,.sl,.int .i64,.sl,.sl]],[tyB],fun x=>span_ranges n x⟩
abbrev q39_L0_a : List (Nat × Ty):=[(1,tyA),(3,tyI),(14,tyL),(15,tyI),(16,tyI)]
abbrev q39_L0_w : List Nat:=[2,5,6,16,17,18,19,20,21,22,23,24,25,26,27,28,29,30,31,32,33,34,35,36,37,38,39,40,41,42,43,44,45,46,47,48,49,50,51,52,53,54,55,56,57,58,59,60,61,62,63,64,65,66,67,68,69,70,71,72,73,74,75,76,77,78,79,80,81,82,83,84,85]
abbrev q39_L0_p : Path:=[0,1,0,1,1]
abbrev q39_L0_g (n : Nat) (x : TsDen (tys q39_L0_a)) : M ((Unit) ⊕ (Bool)):=span_ranges_L0 n (x.1) (x.2.1) (x.2.2.1) (x.2.2.2.1) (x.2.2.2.2)
abbrev q39_L0_l (n : Nat) : LEnt:=⟨q39_L0_p,q39_L0_a,actL2 q39_L0_a [] [(2,tyB)] q39_L0_w 0 .ret (q39_L0_g n)⟩
abbrev q39_L1_a : List (Nat × Ty):=[(1,tyA),(3,tyI),(7,tyI),(87,tyL),(88,tyI),(89,tyI)]
abbrev q39_L1_w : List Nat:=[2,7,9,89,90,91,92,93,94,95,96,97,98,99,100,101,102,103,104,105,106,107,108,109,110,111,112,113,114,115,116,117,118,119,120,121,122,123,124]
abbrev q39_L1_p : Path:=[0,1,0,1,1,1,1]
abbrev q39_L1_g (n : Nat) (x : TsDen (tys q39_L1_a)) : M ((Unit) ⊕ (Bool)):=span_ranges_L1 n (x.1) (x.2.1) (x.2.2.1) (x.2.2.2.1) (x.2.2.2.2.1) (x.2.2.2.2.2)
abbrev q39_L1_l (n : Nat) : LEnt:=⟨q39_L1_p,q39_L1_a,actL2 q39_L1_a [] [(2,tyB)] q39_L1_w 2 .ret (q39_L1_g n)⟩
abbrev q39_dt (n : Nat) : List DEnt:=[]
abbrev q39_ct (n : Nat) : List Ent:=[]
def q39_dr (i : Nat) : Option (List (Nat × List Nat)):=cond (Nat.beq i 7) (some [(0,[]),(1,[]),(2,[]),(3,[]),(4,[]),(5,[]),(7,[]),(9,[]),(6,[]),(8,[]),(10,[]),(11,[]),(12,[]),(13,[]),(14,[]),(15,[]),(16,[]),(17,[]),(18,[]),(19,[])]) (cond (Nat.beq i 15) (some [(0,[]),(2,[]),(1,[]),(3,[]),(4,[]),(5,[]),(7,[]),(6,[]),(8,[]),(9,[]),(10,[]),(11,[]),(12,[]),(14,[]),(13,[]),(15,[]),(16,[]),(17,[]),(18,[]),(20,[]),(22,[]),(24,[]),(19,[]),(21,[]),(23,[]),(25,[]),(26,[]),(27,[]),(28,[])]) (none))
abbrev q39_L0_jt2 (n : Nat) : List (JEnt ((Unit) ⊕ (Bool))):=[]
abbrev q39_L0_jt1 (n : Nat) : List (JEnt ((Unit) ⊕ (Bool))):=⟨[0,1,1,1,0,0,1,1,0,0,1,0,1,1],[.code [1,1,1,1,0,0,1,1,0,0,1,0,1,1],.blk 1,.code [1,1,1,0,0,1,0,1,1]],[(1,tyA),(3,tyI),(5,tyA),(6,tyB),(14,tyL),(15,tyI),(16,tyI)],fun x=>span_ranges_L0_J1 n (x.1) (x.2.1) (x.2.2.1) (x.2.2.2.1) (x.2.2.2.2.1) (x.2.2.2.2.2.1) (x.2.2.2.2.2.2)⟩ :: q39_L0_jt2 n
abbrev q39_L0_jt0 (n : Nat) : List (JEnt ((Unit) ⊕ (Bool))):=⟨[0,1,1,0,0,1,1,0,0,1,0,1,1],[.code [1,1,1,0,0,1,1,0,0,1,0,1,1],.blk 1,.code [1,1,1,0,0,1,0,1,1]],[(1,tyA),(3,tyI),(5,tyA),(14,tyL),(15,tyI),(16,tyI)],fun x=>span_ranges_L0_J0 n (x.1) (x.2.1) (x.2.2.1) (x.2.2.2.1) (x.2.2.2.2.1) (x.2.2.2.2.2)⟩ :: q39_L0_jt1 n
abbrev q39_lt (n : Nat) : List LEnt:=[q39_L0_l n,q39_L1_l n]
theorem q39_L1_ok (n : Nat) {W : Wr} (hW : subW W 125 q39_L1_w = true) : LEntOK Tryz.prog (bodyOf Tryz.f39) W (q39_L1_l n) :=
 loop2_t (bodyOf Tryz.f39) q39_L1_p q39_L1_a [] [(2,tyB)] 2 .ret 125 q39_L1_w [] q39_ct q39_dt (fun _=>[]) q39_dr q39_L1_g (fun _=>[]) (by kernel_rfl) (fun _=>by kernel_rfl) (fun n x=>by kernel_rfl) n (fun m hm=>⟨.nil,.nil,.nil,.nil,.nil⟩) hW
theorem q39_L0_ok (n : Nat) {W : Wr} (hW : subW W 125 q39_L0_w = true) : LEntOK Tryz.prog (bodyOf Tryz.f39) W (q39_L0_l n) :=
 loop2_t (bodyOf Tryz.f39) q39_L0_p q39_L0_a [] [(2,tyB)] 0 .ret 125 q39_L0_w [] q39_ct q39_dt (fun _=>[]) q39_dr q39_L0_g q39_L0_jt0 (by kernel_rfl) (fun _=>by kernel_rfl) (fun n x=>by kernel_rfl) n (fun m hm=>⟨.nil,.nil,.nil,.nil,(.cons (fun x=>by kernel_rfl) (.cons (fun x=>by kernel_rfl) .nil))⟩) hW
theorem span_ranges_ok (n : Nat) : FnOK Tryz.prog (q39_E n) :=
 fn_t (q39_E n) Tryz.f39 (bodyOf Tryz.f39) [(0,.agg [.int .i64,.str,.sl,.int .i64,.sl,.sl])] [] (q39_ct n) (q39_dt n) (q39_lt n) [] q39_dr (by kernel_rfl) (by kernel_rfl) (by kernel_rfl) (by kernel_rfl) (by kernel_rfl) ⟨.nil,.nil,.nil,(.cons (q39_L0_ok n (by kernel_rfl)) (.cons (q39_L1_ok n (by kernel_rfl)) .nil)),.nil⟩ (fun x=>by kernel_rfl)
def span_Check_4 (n : Nat) (a0 : Addr) : M (Bool × Int) :=
 M.bind (ldLs [li,.str,.sl,li,.sl,.sl] a0) fun (x0 : Int × ByteArray × Sl × Int × Sl × Sl) =>
 M.bind (span_ranges n (x0.1,x0.2.1,x0.2.2.1,x0.2.2.2.1,x0.2.2.2.2.1,x0.2.2.2.2.2)) fun x1 =>
 M.pure (x1,2)
abbrev q38_E (n : Nat) : Ent:=⟨38,[tyA],[tyB,tyI],fun x=>span_Check_4 n x⟩
abbrev q38_dt (n : Nat) : List DEnt:=[]
abbrev q38_ct (n : Nat) : List Ent:=[q39_E n]
def q38_dr (i : Nat) : Option (List (Nat × List Nat)):=none
theorem span_Check_4_ok (n : Nat) : FnOK Tryz.prog (q38_E n) :=
 fn_t (q38_E n) Tryz.f38 (bodyOf Tryz.f38) [(0,tyA)] [] (q38_ct n) (q38_dt n) [] [] q38_dr (by kernel_rfl) (by kernel_rfl) (by kernel_rfl) (by kernel_rfl) (by kernel_rfl) ⟨.nil,(.cons (span_ranges_ok n) .nil),.nil,.nil,.nil⟩ (fun x=>by kernel_rfl)
def span_ordered_L0_B (G : Addr → Sl → Sl → Int → Int → M (Unit)) (n : Nat) (a0 : Addr) (a1 : Sl) (a2 : Sl) (a3 : Int) (a4 : Int) : M (Unit) :=
 if decide (a4 < a3) then
  M.bind (idxA a2 a4 1) fun x0 =>
  M.bind (ldL (li) x0) fun (x1 : Int) =>
  M.bind (ldL .sl (a0.plus 4)) fun (x2 : Sl) =>
  M.bind (idxA x2 x1 9) fun x3 =>
  M.bind (ldL (li) (x3.plus 2)) fun (x4 : Int) =>
  M.bind (idxA a1 x4 1) fun x5 =>
  M.bind (stN x5 [vi x1]) fun x6 =>
  G a0 a1 a2 a3 (IntKind.i64.wrap (a4 + 1))
 else
  M.pure ()
def span_ordered_L0 : Nat → Addr → Sl → Sl → Int → Int → M (Unit)
 | 0=>fun _ _ _ _ _=>M.fail
 | n + 1=>span_ordered_L0_B (span_ordered_L0 n) n
theorem span_ordered_L0_succ (n : Nat) : span_ordered_L0 (n + 1) = span_ordered_L0_B (span_ordered_L0 n) n:=rfl
def span_ordered (n : Nat) (a0 : Int × ByteArray × Sl × Int × Sl × Sl) (a1 : Sl) : M (Sl) :=
 M.bind (newB none T_api_Doc [vi a0.1,Value.string a0.2.1,vsl a0.2.2.1,vi a0.2.2.2.1,vsl a0.2.2.2.2.1,vsl a0.2.2.2.2.2]) fun x0 =>
 M.bind (mkS none T_i64 [vi 0] (↑a1.len : Int) (↑a1.len : Int)) fun x1 =>
 M.bind (span_ordered_L0 n (adr x0) x1 a1 (↑a1.len : Int) 0) fun x2 =>
 M.pure x1
abbrev q75_E (n : Nat) : Ent:=⟨75,[.agg [.int .i64,.str,.sl,.int .i64,.sl,.sl],tyL],[tyL],fun x=>span_ordered n (x.1) (x.2)⟩
abbrev q75_L0_a : List (Nat × Ty):=[(2,tyA),(5,tyL),(11,tyL),(12,tyI),(13,tyI)]
abbrev q75_L0_w : List Nat:=[7,13,14,15,16,17,18,19,20,21,22,23,24,25,26]
abbrev q75_L0_p : Path:=[0,1,0,1,1]
abbrev q75_L0_g (n : Nat) (x : TsDen (tys q75_L0_a)) : M (Unit):=span_ordered_L0 n (x.1) (x.2.1) (x.2.2.1) (x.2.2.2.1) (x.2.2.2.2)
abbrev q75_L0_l (n : Nat) : LEnt:=⟨q75_L0_p,q75_L0_a,actL1 q75_L0_a [] q75_L0_w 0 (q75_L0_g n)⟩
abbrev q75_dt (n : Nat) : List DEnt:=[]
abbrev q75_ct (n : Nat) : List Ent:=[]
def q75_dr (i : Nat) : Option (List (Nat × List Nat)):=none
abbrev q75_lt (n : Nat) : List LEnt:=[q75_L0_l n]
theorem q75_L0_ok (n : Nat) {W : Wr} (hW : subW W 28 q75_L0_w = true) : LEntOK Tryz.prog (bodyOf Tryz.f75) W (q75_L0_l n) :=
 loop1_t (bodyOf Tryz.f75) q75_L0_p q75_L0_a [] 0 28 q75_L0_w [] q75_ct q75_dt (fun _=>[]) q75_dr q75_L0_g (fun _=>[]) (by kernel_rfl) (fun _=>by kernel_rfl) (fun n x=>by kernel_rfl) n (fun m hm=>⟨.nil,.nil,.nil,.nil,.nil⟩) hW
theorem span_ordered_ok (n : Nat) : FnOK Tryz.prog (q75_E n) :=
 fn_t (q75_E n) Tryz.f75 (bodyOf Tryz.f75) [(0,.agg [.int .i64,.str,.sl,.int .i64,.sl,.sl]),(1,tyL)] [] (q75_ct n) (q75_dt n) (q75_lt n) [] q75_dr (by kernel_rfl) (by kernel_rfl) (by kernel_rfl) (by kernel_rfl) (by kernel_rfl) ⟨.nil,.nil,.nil,(.cons (q75_L0_ok n (by kernel_rfl)) .nil),.nil⟩ (fun x=>by kernel_rfl)
def span_nested_L1_B (G : Addr → Option Nat → Addr → Int → Bool → Sl → Int → Int → Sl → Int → Int → M ((Int) ⊕ (Bool))) (n : Nat) (a0 : Addr) (a1 : Option Nat) (a2 : Addr) (a3 : Int) (a4 : Bool) (a5 : Sl) (a6 : Int) (a7 : Int) (a8 : Sl) (a9 : Int) (a10 : Int) : M ((Int) ⊕ (Bool)) :=
 if decide (a10 < a9) then
  M.bind (idxA a8 a10 1) fun x0 =>
  M.bind (ldL (li) x0) fun (x1 : Int) =>
  M.bind (ldL .sl (a0.plus 4)) fun (x2 : Sl) =>
  M.bind (idxA x2 x1 9) fun x3 =>
  M.bind (ldLs [li,li,li,li,li,li,li,.bool,.bool] x3) fun (x4 : Int × Int × Int × Int × Int × Int × Int × Bool × Bool) =>
  M.bind (newB none T_api_Span [vi 0,vi 0,vi 0,vi 0,vi 0,vi 0,vi 0,Value.bool false,Value.bool false]) fun x5 =>
  M.bind (stN (adr x5) [vi x4.1,vi x4.2.1,vi x4.2.2.1,vi x4.2.2.2.1,vi x4.2.2.2.2.1,vi x4.2.2.2.2.2.1,vi x4.2.2.2.2.2.2.1,Value.bool x4.2.2.2.2.2.2.2.1,Value.bool x4.2.2.2.2.2.2.2.2]) fun x6 =>
  if a4 then
   M.bind (ldL (li) ((adr x5).plus 5)) fun (x7 : Int) =>
   if decide (x7 < a3) then
    M.pure (Sum.inr false)
   else
    M.bind (ldL (li) ((adr x5).plus 6)) fun (x8 : Int) =>
    M.bind (ldL (li) ((adr x5).plus 3)) fun (x9 : Int) =>
    if decide (x9 < x8) then
     M.pure (Sum.inr false)
    else
     M.bind (ldL (li) ((adr x5).plus 4)) fun (x10 : Int) =>
     G a0 a1 a2 x10 a4 a5 a6 a7 a8 a9 (IntKind.i64.wrap (a10 + 1))
  else
   M.bind (ldL (li) ((adr x5).plus 3)) fun (x7 : Int) =>
   if decide (x7 < a3) then
    M.pure (Sum.inr false)
   else
    M.bind (ldL (li) ((adr x5).plus 4)) fun (x8 : Int) =>
    G a0 a1 a2 x8 a4 a5 a6 a7 a8 a9 (IntKind.i64.wrap (a10 + 1))
 else
  M.pure (Sum.inl a3)
def span_nested_L1 : Nat → Addr → Option Nat → Addr → Int → Bool → Sl → Int → Int → Sl → Int → Int → M ((Int) ⊕ (Bool))
 | 0=>fun _ _ _ _ _ _ _ _ _ _ _=>M.fail
 | n + 1=>span_nested_L1_B (span_nested_L1 n) n
theorem span_nested_L1_succ (n : Nat) : span_nested_L1 (n + 1) = span_nested_L1_B (span_nested_L1 n) n:=rfl
def span_nested_L0_J0_B (G : Addr → Option Nat → Sl → Int → Int → M ((Unit) ⊕ (Bool))) (n : Nat) (a0 : Addr) (a1 : Option Nat) (a2 : Int) (a3 : Addr) (a4 : Sl) (a5 : Int) (a6 : Int) : M ((Unit) ⊕ (Bool)) :=
 M.bind (ldL (li) (a3.plus 3)) fun (x0 : Int) =>
 M.bind (ldL .sl ((a0.plus 2).plus 0)) fun (x1 : Sl) =>
 M.bind (ldL (li) (a3.plus 0)) fun (x2 : Int) =>
 M.bind (idxA x1 x2 5) fun x3 =>
 M.bind (ldL (li) (x3.plus 0)) fun (x4 : Int) =>
 M.bind (ldLs [li,.str,.sl,li,.sl,.sl] a0) fun (x5 : Int × ByteArray × Sl × Int × Sl × Sl) =>
 M.bind (mpGet T_i64 (Ty.one .sl) sl0 a1 (vi a2)) fun (x6 : Bool × Sl) =>
 M.bind (span_ordered n (x5.1,x5.2.1,x5.2.2.1,x5.2.2.2.1,x5.2.2.2.2.1,x5.2.2.2.2.2) x6.2) fun x7 =>
 M.bind (span_nested_L1 n a0 a1 a3 x0 (decide (x4 = 10)) a4 a5 a6 x7 (↑x7.len : Int) 0) (sumElim (fun x8 =>
  M.bind (ldL (li) (a3.plus 4)) fun (x9 : Int) =>
  if decide (x9 < x8) then
   M.pure (Sum.inr false)
  else
   G a0 a1 a4 a5 (IntKind.i64.wrap (a6 + 1)))
 (fun x8 =>
  M.pure (Sum.inr x8)))
def span_nested_L0_B (G : Addr → Option Nat → Sl → Int → Int → M ((Unit) ⊕ (Bool))) (n : Nat) (a0 : Addr) (a1 : Option Nat) (a2 : Sl) (a3 : Int) (a4 : Int) : M ((Unit) ⊕ (Bool)) :=
 if decide (a4 < a3) then
  M.bind (idxA a2 a4 9) fun x0 =>
  M.bind (ldLs [li,li,li,li,li,li,li,.bool,.bool] x0) fun (x1 : Int × Int × Int × Int × Int × Int × Int × Bool × Bool) =>
  M.bind (newB none T_api_Span [vi 0,vi 0,vi 0,vi 0,vi 0,vi 0,vi 0,Value.bool false,Value.bool false]) fun x2 =>
  M.bind (stN (adr x2) [vi x1.1,vi x1.2.1,vi x1.2.2.1,vi x1.2.2.2.1,vi x1.2.2.2.2.1,vi x1.2.2.2.2.2.1,vi x1.2.2.2.2.2.2.1,Value.bool x1.2.2.2.2.2.2.2.1,Value.bool x1.2.2.2.2.2.2.2.2]) fun x3 =>
  M.bind (ldL .bool ((adr x2).plus 8)) fun (x4 : Bool) =>
  if !x4 then
   G a0 a1 a2 a3 (IntKind.i64.wrap (a4 + 1))
  else
   M.bind (ldL .bool ((adr x2).plus 7)) fun (x5 : Bool) =>
   if x5 then
    G a0 a1 a2 a3 (IntKind.i64.wrap (a4 + 1))
   else
    span_nested_L0_J0_B G n a0 a1 a4 (adr x2) a2 a3 a4
 else
  M.pure (Sum.inl ())
def span_nested_L0 : Nat → Addr → Option Nat → Sl → Int → Int → M ((Unit) ⊕ (Bool))
 | 0=>fun _ _ _ _ _=>M.fail
 | n + 1=>span_nested_L0_B (span_nested_L0 n) n
theorem span_nested_L0_succ (n : Nat) : span_nested_L0 (n + 1) = span_nested_L0_B (span_nested_L0 n) n:=rfl
def span_nested_L0_J0 (n : Nat) (a0 : Addr) (a1 : Option Nat) (a2 : Int) (a3 : Addr) (a4 : Sl) (a5 : Int) (a6 : Int) : M ((Unit) ⊕ (Bool)):=span_nested_L0_J0_B (span_nested_L0 n) n a0 a1 a2 a3 a4 a5 a6
def span_nested (n : Nat) (a0 : Int × ByteArray × Sl × Int × Sl × Sl) : M (Bool) :=
 M.bind (newB none T_api_Doc [vi a0.1,Value.string a0.2.1,vsl a0.2.2.1,vi a0.2.2.2.1,vsl a0.2.2.2.2.1,vsl a0.2.2.2.2.2]) fun x0 =>
 M.bind (ldLs [li,.str,.sl,li,.sl,.sl] (adr x0)) fun (x1 : Int × ByteArray × Sl × Int × Sl × Sl) =>
 M.bind (span_children n (x1.1,x1.2.1,x1.2.2.1,x1.2.2.2.1,x1.2.2.2.2.1,x1.2.2.2.2.2)) fun x2 =>
 M.bind (ldL .sl ((adr x0).plus 4)) fun (x3 : Sl) =>
 M.bind (span_nested_L0 n (adr x0) x2 x3 (↑x3.len : Int) 0) (sumElim (fun x4 =>
  M.pure true)
 (fun x4 =>
  M.pure x4))
abbrev q41_E (n : Nat) : Ent:=⟨41,[.agg [.int .i64,.str,.sl,.int .i64,.sl,.sl]],[tyB],fun x=>span_nested n x⟩
abbrev q41_L0_a : List (Nat × Ty):=[(1,tyA),(3,tyM),(14,tyL),(15,tyI),(16,tyI)]
abbrev q41_L0_w : List Nat:=[2,4,5,6,7,9,10,16,17,18,19,20,21,22,23,24,25,26,27,28,29,30,31,32,33,34,35,36,37,38,39,40,41,42,43,44,45,46,47,48,49,50,51,52,53,54,55,56,57,58,59,60,61,62,63,64,65,66,67,68,69,70,71,72]
abbrev q41_L0_p : Path:=[0,1,0,1,1]
abbrev q41_L0_g (n : Nat) (x : TsDen (tys q41_L0_a)) : M ((Unit) ⊕ (Bool)):=span_nested_L0 n (x.1) (x.2.1) (x.2.2.1) (x.2.2.2.1) (x.2.2.2.2)
abbrev q41_L0_l (n : Nat) : LEnt:=⟨q41_L0_p,q41_L0_a,actL2 q41_L0_a [] [(2,tyB)] q41_L0_w 0 .ret (q41_L0_g n)⟩
abbrev q41_L1_a : List (Nat × Ty):=[(1,tyA),(3,tyM),(5,tyA),(6,tyI),(7,tyB),(14,tyL),(15,tyI),(16,tyI),(43,tyL),(44,tyI),(45,tyI)]
abbrev q41_L1_w : List Nat:=[2,6,9,10,45,46,47,48,49,50,51,52,53,54,55,56,57,58,59,60,61,62,63,64,65,66,67]
abbrev q41_L1_p : Path:=[0,1,0,1,1,1,1,0,0,1,1,0,0,1,0,1,1]
abbrev q41_L1_g (n : Nat) (x : TsDen (tys q41_L1_a)) : M ((Int) ⊕ (Bool)):=span_nested_L1 n (x.1) (x.2.1) (x.2.2.1) (x.2.2.2.1) (x.2.2.2.2.1) (x.2.2.2.2.2.1) (x.2.2.2.2.2.2.1) (x.2.2.2.2.2.2.2.1) (x.2.2.2.2.2.2.2.2.1) (x.2.2.2.2.2.2.2.2.2.1) (x.2.2.2.2.2.2.2.2.2.2)
abbrev q41_L1_l (n : Nat) : LEnt:=⟨q41_L1_p,q41_L1_a,actL2 q41_L1_a [(6,tyI)] [(2,tyB)] q41_L1_w 2 .ret (q41_L1_g n)⟩
abbrev q41_dt (n : Nat) : List DEnt:=[]
abbrev q41_ct (n : Nat) : List Ent:=[q73_E n,q75_E n]
def q41_dr (i : Nat) : Option (List (Nat × List Nat)):=none
abbrev q41_L0_lt (n : Nat) : List LEnt:=[q41_L1_l n]
abbrev q41_L0_jt1 (n : Nat) : List (JEnt ((Unit) ⊕ (Bool))):=[]
abbrev q41_L0_jt0 (n : Nat) : List (JEnt ((Unit) ⊕ (Bool))):=⟨[0,1,1,0,0,1,1,0,0,1,0,1,1],[.code [1,1,1,0,0,1,1,0,0,1,0,1,1],.blk 1,.code [1,1,1,0,0,1,0,1,1]],[(1,tyA),(3,tyM),(4,tyI),(5,tyA),(14,tyL),(15,tyI),(16,tyI)],fun x=>span_nested_L0_J0 n (x.1) (x.2.1) (x.2.2.1) (x.2.2.2.1) (x.2.2.2.2.1) (x.2.2.2.2.2.1) (x.2.2.2.2.2.2)⟩ :: q41_L0_jt1 n
abbrev q41_lt (n : Nat) : List LEnt:=[q41_L0_l n]
theorem q41_L1_ok (n : Nat) {W : Wr} (hW : subW W 73 q41_L1_w = true) : LEntOK Tryz.prog (bodyOf Tryz.f41) W (q41_L1_l n) :=
 loop2_t (bodyOf Tryz.f41) q41_L1_p q41_L1_a [(6,tyI)] [(2,tyB)] 2 .ret 73 q41_L1_w [] q41_ct q41_dt (fun _=>[]) q41_dr q41_L1_g (fun _=>[]) (by kernel_rfl) (fun _=>by kernel_rfl) (fun n x=>by kernel_rfl) n (fun m hm=>⟨.nil,(.cons (span_children_ok m) (.cons (span_ordered_ok m) .nil)),.nil,.nil,.nil⟩) hW
theorem q41_L0_ok (n : Nat) {W : Wr} (hW : subW W 73 q41_L0_w = true) : LEntOK Tryz.prog (bodyOf Tryz.f41) W (q41_L0_l n) :=
 loop2_t (bodyOf Tryz.f41) q41_L0_p q41_L0_a [] [(2,tyB)] 0 .ret 73 q41_L0_w [] q41_ct q41_dt q41_L0_lt q41_dr q41_L0_g q41_L0_jt0 (by kernel_rfl) (fun _=>by kernel_rfl) (fun n x=>by kernel_rfl) n (fun m hm=>⟨.nil,(.cons (span_children_ok m) (.cons (span_ordered_ok m) .nil)),.nil,(.cons (q41_L1_ok m (by kernel_rfl)) .nil),(.cons (fun x=>by kernel_rfl) .nil)⟩) hW
theorem span_nested_ok (n : Nat) : FnOK Tryz.prog (q41_E n) :=
 fn_t (q41_E n) Tryz.f41 (bodyOf Tryz.f41) [(0,.agg [.int .i64,.str,.sl,.int .i64,.sl,.sl])] [] (q41_ct n) (q41_dt n) (q41_lt n) [] q41_dr (by kernel_rfl) (by kernel_rfl) (by kernel_rfl) (by kernel_rfl) (by kernel_rfl) ⟨.nil,(.cons (span_children_ok n) (.cons (span_ordered_ok n) .nil)),.nil,(.cons (q41_L0_ok n (by kernel_rfl)) .nil),.nil⟩ (fun x=>by kernel_rfl)
def span_Check_5 (n : Nat) (a0 : Addr) : M (Bool × Int) :=
 M.bind (ldLs [li,.str,.sl,li,.sl,.sl] a0) fun (x0 : Int × ByteArray × Sl × Int × Sl × Sl) =>
 M.bind (span_nested n (x0.1,x0.2.1,x0.2.2.1,x0.2.2.2.1,x0.2.2.2.2.1,x0.2.2.2.2.2)) fun x1 =>
 M.pure (x1,17)
abbrev q40_E (n : Nat) : Ent:=⟨40,[tyA],[tyB,tyI],fun x=>span_Check_5 n x⟩
abbrev q40_dt (n : Nat) : List DEnt:=[]
abbrev q40_ct (n : Nat) : List Ent:=[q41_E n]
def q40_dr (i : Nat) : Option (List (Nat × List Nat)):=none
theorem span_Check_5_ok (n : Nat) : FnOK Tryz.prog (q40_E n) :=
 fn_t (q40_E n) Tryz.f40 (bodyOf Tryz.f40) [(0,tyA)] [] (q40_ct n) (q40_dt n) [] [] q40_dr (by kernel_rfl) (by kernel_rfl) (by kernel_rfl) (by kernel_rfl) (by kernel_rfl) ⟨.nil,(.cons (span_nested_ok n) .nil),.nil,.nil,.nil⟩ (fun x=>by kernel_rfl)
def span_Check_D19 (n : Nat) (x : Value) : M (Bool × Int) :=
 if isFn F_span_Check_1 x then
  M.bind (asFn [tyA] x) fun (c : Addr)=>span_Check_1 n (c)
 else if isFn F_span_Check_2 x then
  M.bind (asFn [tyA] x) fun (c : Addr)=>span_Check_2 n (c)
 else if isFn F_span_Check_3 x then
  M.bind (asFn [tyA] x) fun (c : Addr)=>span_Check_3 n (c)
 else if isFn F_span_Check_4 x then
  M.bind (asFn [tyA] x) fun (c : Addr)=>span_Check_4 n (c)
 else if isFn F_span_Check_5 x then
  M.bind (asFn [tyA] x) fun (c : Addr)=>span_Check_5 n (c)
 else M.fail
def span_Check_L0_B (G : (Value × Value × Value × Value × Value) → Int → M ((Unit) ⊕ (Int))) (n : Nat) (a0 : Value × Value × Value × Value × Value) (a1 : Int) : M ((Unit) ⊕ (Int)) :=
 if decide (a1 < 5) then
  M.bind (idxC .raw 5 [a0.1,a0.2.1,a0.2.2.1,a0.2.2.2.1,a0.2.2.2.2] a1) fun x0 =>
  M.bind (span_Check_D19 n x0) fun x1 =>
  if !x1.1 then
   M.pure (Sum.inr x1.2)
  else
   G (a0.1,a0.2.1,a0.2.2.1,a0.2.2.2.1,a0.2.2.2.2) (IntKind.i64.wrap (a1 + 1))
 else
  M.pure (Sum.inl ())
def span_Check_L0 : Nat → (Value × Value × Value × Value × Value) → Int → M ((Unit) ⊕ (Int))
 | 0=>fun _ _=>M.fail
 | n + 1=>span_Check_L0_B (span_Check_L0 n) n
theorem span_Check_L0_succ (n : Nat) : span_Check_L0 (n + 1) = span_Check_L0_B (span_Check_L0 n) n:=rfl
def span_Check (n : Nat) (a0 : Int × ByteArray × Sl × Int × Sl × Sl) : M (Int) :=
 M.bind (newB none T_api_Doc [vi a0.1,Value.string a0.2.1,vsl a0.2.2.1,vi a0.2.2.2.1,vsl a0.2.2.2.2.1,vsl a0.2.2.2.2.2]) fun x0 =>
 M.bind (newB none T_ar5_fn__bool_api_Errno [Value.nilFunc,Value.nilFunc,Value.nilFunc,Value.nilFunc,Value.nilFunc]) fun x1 =>
 M.bind (stN (adr x1) [Value.func (Fn.func F_span_Check_1) #[] #[Value.pointer (some (adr x0))],Value.func (Fn.func F_span_Check_2) #[] #[Value.pointer (some (adr x0))],Value.func (Fn.func F_span_Check_3) #[] #[Value.pointer (some (adr x0))],Value.func (Fn.func F_span_Check_4) #[] #[Value.pointer (some (adr x0))],Value.func (Fn.func F_span_Check_5) #[] #[Value.pointer (some (adr x0))]]) fun x2 =>
 M.bind (ldLs [.raw,.raw,.raw,.raw,.raw] (adr x1)) fun (x3 : Value × Value × Value × Value × Value) =>
 M.bind (span_Check_L0 n (x3.1,x3.2.1,x3.2.2.1,x3.2.2.2.1,x3.2.2.2.2) 0) (sumElim (fun x4 =>
  M.pure 0)
 (fun x4 =>
  M.pure x4))
abbrev q14_E (n : Nat) : Ent:=⟨14,[.agg [.int .i64,.str,.sl,.int .i64,.sl,.sl]],[tyI],fun x=>span_Check n x⟩
abbrev q14_L0_a : List (Nat × Ty):=[(14,.agg [.raw,.raw,.raw,.raw,.raw]),(15,tyI)]
abbrev q14_L0_w : List Nat:=[2,5,6,7,15,16,17,18,19,20,21,22,23,24,25,26]
abbrev q14_L0_p : Path:=[0,1,0,1,1]
abbrev q14_L0_g (n : Nat) (x : TsDen (tys q14_L0_a)) : M ((Unit) ⊕ (Int)):=span_Check_L0 n (x.1) (x.2)
abbrev q14_L0_l (n : Nat) : LEnt:=⟨q14_L0_p,q14_L0_a,actL2 q14_L0_a [] [(2,tyI)] q14_L0_w 0 .ret (q14_L0_g n)⟩
abbrev q14_dt (n : Nat) : List DEnt:=[⟨19,[],[tyB,tyI],fun x _=>span_Check_D19 n x⟩]
abbrev q14_ct (n : Nat) : List Ent:=[]
def q14_dr (i : Nat) : Option (List (Nat × List Nat)):=none
abbrev q14_lt (n : Nat) : List LEnt:=[q14_L0_l n]
theorem q14_L0_ok (n : Nat) {W : Wr} (hW : subW W 27 q14_L0_w = true) : LEntOK Tryz.prog (bodyOf Tryz.f14) W (q14_L0_l n) :=
 loop2_t (bodyOf Tryz.f14) q14_L0_p q14_L0_a [] [(2,tyI)] 0 .ret 27 q14_L0_w [] q14_ct q14_dt (fun _=>[]) q14_dr q14_L0_g (fun _=>[]) (by kernel_rfl) (fun _=>by kernel_rfl) (fun n x=>by kernel_rfl) n (fun m hm=>⟨.nil,.nil,(.cons (dent_ok (l:=[⟨34,[tyA],fun _ c=>span_Check_1 m (c)⟩,⟨35,[tyA],fun _ c=>span_Check_2 m (c)⟩,⟨36,[tyA],fun _ c=>span_Check_3 m (c)⟩,⟨38,[tyA],fun _ c=>span_Check_4 m (c)⟩,⟨40,[tyA],fun _ c=>span_Check_5 m (c)⟩]) (.cons (fun a c=>callOK_cast (by kernel_rfl) ((span_Check_1_ok m) (c))) (.cons (fun a c=>callOK_cast (by kernel_rfl) ((span_Check_2_ok m) (c))) (.cons (fun a c=>callOK_cast (by kernel_rfl) ((span_Check_3_ok m) (c))) (.cons (fun a c=>callOK_cast (by kernel_rfl) ((span_Check_4_ok m) (c))) (.cons (fun a c=>callOK_cast (by kernel_rfl) ((span_Check_5_ok m) (c))) .nil))))) (fun x a=>by kernel_rfl)) .nil),.nil,.nil⟩) hW
theorem span_Check_ok (n : Nat) : FnOK Tryz.prog (q14_E n) :=
 fn_t (q14_E n) Tryz.f14 (bodyOf Tryz.f14) [(0,.agg [.int .i64,.str,.sl,.int .i64,.sl,.sl])] [] (q14_ct n) (q14_dt n) (q14_lt n) [] q14_dr (by kernel_rfl) (by kernel_rfl) (by kernel_rfl) (by kernel_rfl) (by kernel_rfl) ⟨.nil,.nil,(.cons (dent_ok (l:=[⟨34,[tyA],fun _ c=>span_Check_1 n (c)⟩,⟨35,[tyA],fun _ c=>span_Check_2 n (c)⟩,⟨36,[tyA],fun _ c=>span_Check_3 n (c)⟩,⟨38,[tyA],fun _ c=>span_Check_4 n (c)⟩,⟨40,[tyA],fun _ c=>span_Check_5 n (c)⟩]) (.cons (fun a c=>callOK_cast (by kernel_rfl) ((span_Check_1_ok n) (c))) (.cons (fun a c=>callOK_cast (by kernel_rfl) ((span_Check_2_ok n) (c))) (.cons (fun a c=>callOK_cast (by kernel_rfl) ((span_Check_3_ok n) (c))) (.cons (fun a c=>callOK_cast (by kernel_rfl) ((span_Check_4_ok n) (c))) (.cons (fun a c=>callOK_cast (by kernel_rfl) ((span_Check_5_ok n) (c))) .nil))))) (fun x a=>by kernel_rfl)) .nil),(.cons (q14_L0_ok n (by kernel_rfl)) .nil),.nil⟩ (fun x=>by kernel_rfl)
structure Cl_share_key_1 where
 share_key_1_L1 : Addr → Addr → Int → Sl → Sl → Sl → Int → Int → M (Sl)
 share_key_1_L0 : Addr → Addr → Int → Addr → Sl → Sl → Sl → Int → Int → M (Sl)
 share_key_1 : Int → Addr → Addr → Addr → M (Int)
def share_key_1_D42_B (G : Cl_share_key_1) (n : Nat) (x : Value) (a0 : Int) : M (Int) :=
 if isFn F_share_key_1 x then
  M.bind (asFn [tyA,tyA,tyA] x) fun (c : Addr × Addr × Addr)=>G.share_key_1 a0 (c.1) (c.2.1) (c.2.2)
 else M.fail
def share_key_1_D56_B (G : Cl_share_key_1) (n : Nat) (x : Value) (a0 : Int) : M (Int) :=
 if isFn F_share_key_1 x then
  M.bind (asFn [tyA,tyA,tyA] x) fun (c : Addr × Addr × Addr)=>G.share_key_1 a0 (c.1) (c.2.1) (c.2.2)
 else M.fail
def share_key_1_L1_B (G : Cl_share_key_1) (n : Nat) (a0 : Addr) (a1 : Addr) (a2 : Int) (a3 : Sl) (a4 : Sl) (a5 : Sl) (a6 : Int) (a7 : Int) : M (Sl) :=
 if decide (a7 < a6) then
  M.bind (idxA a5 a7 1) fun x0 =>
  M.bind (ldL (li) x0) fun (x1 : Int) =>
  M.bind (ldL .raw a1) fun (x2 : Value) =>
  M.bind (share_key_1_D56_B G n x2 x1) fun x3 =>
  M.bind (app false a4 1 T_i64 1 [vi x3]) fun x4 =>
  G.share_key_1_L1 a0 a1 a2 a3 x4 a5 a6 (IntKind.i64.wrap (a7 + 1))
 else
  M.pure a4
def share_key_1_L0_B (G : Cl_share_key_1) (n : Nat) (a0 : Addr) (a1 : Addr) (a2 : Int) (a3 : Addr) (a4 : Sl) (a5 : Sl) (a6 : Sl) (a7 : Int) (a8 : Int) : M (Sl) :=
 if decide (a8 < a7) then
  M.bind (idxA a6 a8 1) fun x0 =>
  M.bind (ldL (li) x0) fun (x1 : Int) =>
  M.bind (ldL .raw a1) fun (x2 : Value) =>
  M.bind (share_key_1_D42_B G n x2 x1) fun x3 =>
  M.bind (app false a4 1 T_i64 1 [vi x3]) fun x4 =>
  G.share_key_1_L0 a0 a1 a2 a3 x4 a5 a6 a7 (IntKind.i64.wrap (a8 + 1))
 else
  M.pure a4
def share_key_1_B (G : Cl_share_key_1) (n : Nat) (a0 : Int) (a1 : Addr) (a2 : Addr) (a3 : Addr) : M (Int) :=
 M.bind (ldL .sl (a1.plus 0)) fun (x0 : Sl) =>
 M.bind (ldL .sl (a2.plus 0)) fun (x1 : Sl) =>
 M.bind (idxA x1 a0 5) fun x2 =>
 M.bind (ldLs [li,.str,.bool,.sl,.sl] x2) fun (x3 : Int × ByteArray × Bool × Sl × Sl) =>
 M.bind (newB none T_api_Node [vi 0,Value.string (ofBytes []),Value.bool false,vsl0,vsl0]) fun x4 =>
 M.bind (stN (adr x4) [vi x3.1,Value.string x3.2.1,Value.bool x3.2.2.1,vsl x3.2.2.2.1,vsl x3.2.2.2.2]) fun x5 =>
 M.bind (ldL .sl (a1.plus 0)) fun (x6 : Sl) =>
 M.bind (ldL (li) ((adr x4).plus 0)) fun (x7 : Int) =>
 M.bind (ldL .str ((adr x4).plus 1)) fun (x8 : ByteArray) =>
 M.bind (ldL .bool ((adr x4).plus 2)) fun (x9 : Bool) =>
 M.bind (app false x6 5 T_api_Node 1 [vi x7,Value.string x8,Value.bool x9,vsl0,vsl0]) fun x10 =>
 M.bind (stN (a1.plus 0) [vsl x10]) fun x11 =>
 M.bind (ldL .sl ((adr x4).plus 3)) fun (x12 : Sl) =>
 M.bind (G.share_key_1_L0 a1 a3 (↑x0.len : Int) (adr x4) sl0 sl0 x12 (↑x12.len : Int) 0) fun x13 =>
 M.bind (ldL .sl ((adr x4).plus 4)) fun (x14 : Sl) =>
 M.bind (G.share_key_1_L1 a1 a3 (↑x0.len : Int) x13 sl0 x14 (↑x14.len : Int) 0) fun x15 =>
 M.bind (ldL .sl (a1.plus 0)) fun (x16 : Sl) =>
 M.bind (idxA x16 (↑x0.len : Int) 5) fun x17 =>
 M.bind (ldL .sl (a1.plus 0)) fun (x18 : Sl) =>
 M.bind (chk [some (a1.plus 0)] (stN (x17.plus 3) [vsl x13])) fun x19 =>
 M.bind (idxA x18 (↑x0.len : Int) 5) fun x20 =>
 M.bind (stN (x20.plus 4) [vsl x15]) fun x21 =>
 M.pure (↑x0.len : Int)
def Cl_share_key_1.at : Nat → Cl_share_key_1
 | 0=>⟨fun _ _ _ _ _ _ _ _=>M.fail,fun _ _ _ _ _ _ _ _ _=>M.fail,fun _ _ _ _=>M.fail⟩
 | n + 1=>⟨share_key_1_L1_B (Cl_share_key_1.at n) n,share_key_1_L0_B (Cl_share_key_1.at n) n,share_key_1_B (Cl_share_key_1.at n) n⟩
def share_key_1_L1 (n : Nat) (a0 : Addr) (a1 : Addr) (a2 : Int) (a3 : Sl) (a4 : Sl) (a5 : Sl) (a6 : Int) (a7 : Int) : M (Sl):=(Cl_share_key_1.at n).share_key_1_L1 a0 a1 a2 a3 a4 a5 a6 a7
theorem share_key_1_L1_succ (n : Nat) (a0 : Addr) (a1 : Addr) (a2 : Int) (a3 : Sl) (a4 : Sl) (a5 : Sl) (a6 : Int) (a7 : Int) : share_key_1_L1 (n + 1) a0 a1 a2 a3 a4 a5 a6 a7 = share_key_1_L1_B (Cl_share_key_1.at n) n a0 a1 a2 a3 a4 a5 a6 a7:=rfl
def share_key_1_L0 (n : Nat) (a0 : Addr) (a1 : Addr) (a2 : Int) (a3 : Addr) (a4 : Sl) (a5 : Sl) (a6 : Sl) (a7 : Int) (a8 : Int) : M (Sl):=(Cl_share_key_1.at n).share_key_1_L0 a0 a1 a2 a3 a4 a5 a6 a7 a8
theorem share_key_1_L0_succ (n : Nat) (a0 : Addr) (a1 : Addr) (a2 : Int) (a3 : Addr) (a4 : Sl) (a5 : Sl) (a6 : Sl) (a7 : Int) (a8 : Int) : share_key_1_L0 (n + 1) a0 a1 a2 a3 a4 a5 a6 a7 a8 = share_key_1_L0_B (Cl_share_key_1.at n) n a0 a1 a2 a3 a4 a5 a6 a7 a8:=rfl
def share_key_1 (n : Nat) (a0 : Int) (a1 : Addr) (a2 : Addr) (a3 : Addr) : M (Int):=(Cl_share_key_1.at n).share_key_1 a0 a1 a2 a3
theorem share_key_1_succ (n : Nat) (a0 : Int) (a1 : Addr) (a2 : Addr) (a3 : Addr) : share_key_1 (n + 1) a0 a1 a2 a3 = share_key_1_B (Cl_share_key_1.at n) n a0 a1 a2 a3:=rfl
def share_key_1_D42 (n : Nat) (x : Value) (a0 : Int) : M (Int):=share_key_1_D42_B (Cl_share_key_1.at n) n x a0
def share_key_1_D56 (n : Nat) (x : Value) (a0 : Int) : M (Int):=share_key_1_D56_B (Cl_share_key_1.at n) n x a0
abbrev q144_E (n : Nat) : Ent:=⟨144,[tyI,tyA,tyA,tyA],[tyI],fun x=>share_key_1 n (x.1) (x.2.1) (x.2.2.1) (x.2.2.2)⟩
abbrev q144_L0_a : List (Nat × Ty):=[(1,tyA),(3,tyA),(6,tyI),(7,tyA),(8,tyL),(9,tyL),(35,tyL),(36,tyI),(37,tyI)]
abbrev q144_L0_w : List Nat:=[8,11,37,38,39,40,41,42,43,44,45,46,47]
abbrev q144_L0_p : Path:=[0,1,0,1,1,1,1,1]
abbrev q144_L0_g (n : Nat) (x : TsDen (tys q144_L0_a)) : M (Sl):=share_key_1_L0 n (x.1) (x.2.1) (x.2.2.1) (x.2.2.2.1) (x.2.2.2.2.1) (x.2.2.2.2.2.1) (x.2.2.2.2.2.2.1) (x.2.2.2.2.2.2.2.1) (x.2.2.2.2.2.2.2.2)
abbrev q144_L0_l (n : Nat) : LEnt:=⟨q144_L0_p,q144_L0_a,actL1 q144_L0_a [(8,tyL)] q144_L0_w 0 (q144_L0_g n)⟩
abbrev q144_L1_a : List (Nat × Ty):=[(1,tyA),(3,tyA),(6,tyI),(8,tyL),(9,tyL),(49,tyL),(50,tyI),(51,tyI)]
abbrev q144_L1_w : List Nat:=[9,13,51,52,53,54,55,56,57,58,59,60,61]
abbrev q144_L1_p : Path:=[0,1,0,1,1,1,1,1,1]
abbrev q144_L1_g (n : Nat) (x : TsDen (tys q144_L1_a)) : M (Sl):=share_key_1_L1 n (x.1) (x.2.1) (x.2.2.1) (x.2.2.2.1) (x.2.2.2.2.1) (x.2.2.2.2.2.1) (x.2.2.2.2.2.2.1) (x.2.2.2.2.2.2.2)
abbrev q144_L1_l (n : Nat) : LEnt:=⟨q144_L1_p,q144_L1_a,actL1 q144_L1_a [(9,tyL)] q144_L1_w 2 (q144_L1_g n)⟩
abbrev q144_dt (n : Nat) : List DEnt:=[⟨42,[tyI],[tyI],fun x a=>share_key_1_D42 n x (a)⟩,
 ⟨56,[tyI],[tyI],fun x a=>share_key_1_D56 n x (a)⟩]
abbrev q144_ct (n : Nat) : List Ent:=[]
def q144_dr (i : Nat) : Option (List (Nat × List Nat)):=cond (Nat.beq i 15) (some [(0,[]),(2,[]),(3,[]),(5,[]),(6,[]),(7,[]),(1,[]),(8,[]),(9,[]),(4,[]),(10,[4]),(11,[]),(12,[]),(13,[])]) (none)
abbrev q144_lt (n : Nat) : List LEnt:=[q144_L0_l n,q144_L1_l n]
def P_share_key_1 (n : Nat) : Prop:=FnOK Tryz.prog (q144_E n)
theorem q144_L1_ok (n : Nat) (H : ∀ m,m < n → P_share_key_1 m) {W : Wr} (hW : subW W 75 q144_L1_w = true) : LEntOK Tryz.prog (bodyOf Tryz.f144) W (q144_L1_l n) :=
 loop1_t (bodyOf Tryz.f144) q144_L1_p q144_L1_a [(9,tyL)] 2 75 q144_L1_w [] q144_ct q144_dt (fun _=>[]) q144_dr q144_L1_g (fun _=>[]) (by kernel_rfl) (fun _=>by kernel_rfl) (fun n x=>by kernel_rfl) n (fun m hm=>⟨.nil,.nil,(.cons (dent_ok (l:=[⟨144,[tyA,tyA,tyA],fun a c=>share_key_1 m (a) (c.1) (c.2.1) (c.2.2)⟩]) (.cons (fun a c=>callOK_cast (by kernel_rfl) ((H m hm) (a,c.1,c.2.1,c.2.2))) .nil) (fun x a=>by kernel_rfl)) (.cons (dent_ok (l:=[⟨144,[tyA,tyA,tyA],fun a c=>share_key_1 m (a) (c.1) (c.2.1) (c.2.2)⟩]) (.cons (fun a c=>callOK_cast (by kernel_rfl) ((H m hm) (a,c.1,c.2.1,c.2.2))) .nil) (fun x a=>by kernel_rfl)) .nil)),.nil,.nil⟩) hW
theorem q144_L0_ok (n : Nat) (H : ∀ m,m < n → P_share_key_1 m) {W : Wr} (hW : subW W 75 q144_L0_w = true) : LEntOK Tryz.prog (bodyOf Tryz.f144) W (q144_L0_l n) :=
 loop1_t (bodyOf Tryz.f144) q144_L0_p q144_L0_a [(8,tyL)] 0 75 q144_L0_w [] q144_ct q144_dt (fun _=>[]) q144_dr q144_L0_g (fun _=>[]) (by kernel_rfl) (fun _=>by kernel_rfl) (fun n x=>by kernel_rfl) n (fun m hm=>⟨.nil,.nil,(.cons (dent_ok (l:=[⟨144,[tyA,tyA,tyA],fun a c=>share_key_1 m (a) (c.1) (c.2.1) (c.2.2)⟩]) (.cons (fun a c=>callOK_cast (by kernel_rfl) ((H m hm) (a,c.1,c.2.1,c.2.2))) .nil) (fun x a=>by kernel_rfl)) (.cons (dent_ok (l:=[⟨144,[tyA,tyA,tyA],fun a c=>share_key_1 m (a) (c.1) (c.2.1) (c.2.2)⟩]) (.cons (fun a c=>callOK_cast (by kernel_rfl) ((H m hm) (a,c.1,c.2.1,c.2.2))) .nil) (fun x a=>by kernel_rfl)) .nil)),.nil,.nil⟩) hW
theorem share_key_1_ok_step (n : Nat) (H : ∀ m,m < n + 1 → P_share_key_1 m) : FnOK Tryz.prog (q144_E (n + 1)) :=
 fn_t (q144_E (n + 1)) Tryz.f144 (bodyOf Tryz.f144) [(0,tyI),(1,tyA),(2,tyA),(3,tyA)] [] (q144_ct n) (q144_dt n) (q144_lt n) [] q144_dr (by kernel_rfl) (by kernel_rfl) (by kernel_rfl) (by kernel_rfl) (by kernel_rfl) ⟨.nil,.nil,(.cons (dent_ok (l:=[⟨144,[tyA,tyA,tyA],fun a c=>share_key_1 n (a) (c.1) (c.2.1) (c.2.2)⟩]) (.cons (fun a c=>callOK_cast (by kernel_rfl) ((H n (Nat.lt_succ_self n)) (a,c.1,c.2.1,c.2.2))) .nil) (fun x a=>by kernel_rfl)) (.cons (dent_ok (l:=[⟨144,[tyA,tyA,tyA],fun a c=>share_key_1 n (a) (c.1) (c.2.1) (c.2.2)⟩]) (.cons (fun a c=>callOK_cast (by kernel_rfl) ((H n (Nat.lt_succ_self n)) (a,c.1,c.2.1,c.2.2))) .nil) (fun x a=>by kernel_rfl)) .nil)),(.cons (q144_L0_ok n (fun k hk=>H k (Nat.lt_succ_of_lt hk)) (by kernel_rfl)) (.cons (q144_L1_ok n (fun k hk=>H k (Nat.lt_succ_of_lt hk)) (by kernel_rfl)) .nil)),.nil⟩ (fun x=>by kernel_rfl)
theorem P_share_key_1_all : ∀ n m,m < n → P_share_key_1 m:=by
 intro n
 induction n with
 | zero=>intro m hm;exact absurd hm (Nat.not_lt_zero m)
 | succ n ih =>
  intro m hm
  cases m with
  | zero=>exact fn_zero (fn:=Tryz.f144) (by kernel_rfl) (by kernel_rfl) (by kernel_rfl) (fun _=>rfl)
  | succ k=>exact share_key_1_ok_step k fun m hm=>ih m (by omega)
theorem share_key_1_ok (n : Nat) : FnOK Tryz.prog (q144_E n):=(P_share_key_1_all (n + 1) n (Nat.lt_succ_self n))
def share_key_D8 (n : Nat) (x : Value) (a0 : Int) : M (Int) :=
 if isFn F_share_key_1 x then
  M.bind (asFn [tyA,tyA,tyA] x) fun (c : Addr × Addr × Addr)=>share_key_1 n a0 (c.1) (c.2.1) (c.2.2)
 else M.fail
def share_key (n : Nat) (a0 : Sl × Int) (a1 : Int) : M (Sl × Int) :=
 M.bind (newB none T_api_Graph [vsl a0.1,vi a0.2]) fun x0 =>
 M.bind (newB none T_api_Graph [vsl0,vi 0]) fun x1 =>
 M.bind (newB none T_api_Graph [vsl0,vi 0]) fun x2 =>
 M.bind (newB none T_fn_i64__i64 [Value.nilFunc]) fun x3 =>
 M.bind (stN (adr x3) [Value.func (Fn.func F_share_key_1) #[] #[Value.pointer (some (adr x2)),Value.pointer (some (adr x0)),Value.pointer (some (adr x3))]]) fun x4 =>
 M.bind (ldL .raw (adr x3)) fun (x5 : Value) =>
 M.bind (share_key_D8 n x5 a1) fun x6 =>
 M.bind (ldLs [.sl,li] (adr x2)) fun (x7 : Sl × Int) =>
 M.bind (stN (adr x1) [vsl x7.1,vi x7.2]) fun x8 =>
 M.bind (ldLs [.sl,li] (adr x1)) fun (x9 : Sl × Int) =>
 M.pure (x9.1,x9.2)
abbrev q118_E (n : Nat) : Ent:=⟨118,[.agg [.sl,.int .i64],tyI],[.agg [.sl,.int .i64]],fun x=>share_key n (x.1) (x.2)⟩
abbrev q118_dt (n : Nat) : List DEnt:=[⟨8,[tyI],[tyI],fun x a=>share_key_D8 n x (a)⟩]
abbrev q118_ct (n : Nat) : List Ent:=[]
def q118_dr (i : Nat) : Option (List (Nat × List Nat)):=none
theorem share_key_ok (n : Nat) : FnOK Tryz.prog (q118_E n) :=
 fn_t (q118_E n) Tryz.f118 (bodyOf Tryz.f118) [(0,.agg [.sl,.int .i64]),(1,tyI)] [] (q118_ct n) (q118_dt n) [] [] q118_dr (by kernel_rfl) (by kernel_rfl) (by kernel_rfl) (by kernel_rfl) (by kernel_rfl) ⟨.nil,.nil,(.cons (dent_ok (l:=[⟨144,[tyA,tyA,tyA],fun a c=>share_key_1 n (a) (c.1) (c.2.1) (c.2.2)⟩]) (.cons (fun a c=>callOK_cast (by kernel_rfl) ((share_key_1_ok n) (a,c.1,c.2.1,c.2.2))) .nil) (fun x a=>by kernel_rfl)) .nil),.nil,.nil⟩ (fun x=>by kernel_rfl)
def canon_of (n : Nat) (a0 : Sl × Int) : M ((Option Addr)) :=
 M.bind (newB none T_api_Graph [vsl a0.1,vi a0.2]) fun x0 =>
 M.bind (reserve 8) fun x1 =>
 M.bind (ldLs [.sl,li] (adr x0)) fun (x2 : Sl × Int) =>
 M.bind (ldL .sl ((adr x0).plus 0)) fun (x3 : Sl) =>
 M.bind (mkS (some (x1 + 4)) T_sl_i64 [vsl0] (↑x3.len : Int) (↑x3.len : Int)) fun x4 =>
 M.bind (newB (some (x1 + 6)) T_canon_table [vsl x2.1,vi x2.2,vsl x4]) fun x5 =>
 M.pure (some (adr x5))
abbrev q70_E (n : Nat) : Ent:=⟨70,[.agg [.sl,.int .i64]],[tyP],fun x=>canon_of n x⟩
abbrev q70_dt (n : Nat) : List DEnt:=[]
abbrev q70_ct (n : Nat) : List Ent:=[]
def q70_dr (i : Nat) : Option (List (Nat × List Nat)):=cond (Nat.beq i 1) (some [(1,[]),(0,[]),(2,[]),(3,[]),(4,[]),(5,[]),(6,[]),(7,[])]) (none)
theorem canon_of_ok (n : Nat) : FnOK Tryz.prog (q70_E n) :=
 fn_t (q70_E n) Tryz.f70 (bodyOf Tryz.f70) [(0,.agg [.sl,.int .i64])] [] (q70_ct n) (q70_dt n) [] [] q70_dr (by kernel_rfl) (by kernel_rfl) (by kernel_rfl) (by kernel_rfl) (by kernel_rfl) ⟨.nil,.nil,.nil,.nil,.nil⟩ (fun x=>by kernel_rfl)
def canon_table_entries_L0_B (G : Int → Addr → Addr → Sl → Int → Int → M (Unit)) (n : Nat) (a0 : Int) (a1 : Addr) (a2 : Addr) (a3 : Sl) (a4 : Int) (a5 : Int) : M (Unit) :=
 if decide (a5 < a4) then
  M.bind (idxA a3 a5 1) fun x0 =>
  M.bind (stN x0 [vi a5]) fun x1 =>
  G a0 a1 a2 a3 a4 (IntKind.i64.wrap (a5 + 1))
 else
  M.pure ()
def canon_table_entries_L0 : Nat → Int → Addr → Addr → Sl → Int → Int → M (Unit)
 | 0=>fun _ _ _ _ _ _=>M.fail
 | n + 1=>canon_table_entries_L0_B (canon_table_entries_L0 n) n
def canon_table_entries_J0 (n : Nat) (a0 : Int) (a1 : Addr) (a2 : Addr) (a3 : Sl) : M (Sl) :=
 M.fail
def canon_table_entries (n : Nat) (a0 : Option Addr) (a1 : Int) : M (Sl) :=
 M.bind (newB none T_po_canon_table [Value.pointer a0]) fun x0 =>
 M.bind (ldL .ptr (adr x0)) fun (x1 : Option Addr) =>
 M.bind (nn x1) fun x2 =>
 M.bind (ldL .sl ((x2.plus 0).plus 0)) fun (x3 : Sl) =>
 M.bind (idxA x3 a1 5) fun x4 =>
 M.bind (newB none T_po_api_Node [Value.pointer none]) fun x5 =>
 M.bind (stN (adr x5) [Value.pointer (some x4)]) fun x6 =>
 M.bind (ldL .ptr (adr x0)) fun (x7 : Option Addr) =>
 M.bind (nn x7) fun x8 =>
 M.bind (ldL .sl (x8.plus 2)) fun (x9 : Sl) =>
 M.bind (idxA x9 a1 1) fun x10 =>
 M.bind (ldL .sl x10) fun (x11 : Sl) =>
 if !x11.a.isNone then
  M.bind (ldL .ptr (adr x0)) fun (x12 : Option Addr) =>
  M.bind (nn x12) fun x13 =>
  M.bind (ldL .sl (x13.plus 2)) fun (x14 : Sl) =>
  M.bind (idxA x14 a1 1) fun x15 =>
  M.bind (ldL .sl x15) fun (x16 : Sl) =>
  M.pure x16
 else
  M.bind (ldL .ptr (adr x5)) fun (x12 : Option Addr) =>
  M.bind (nn x12) fun x13 =>
  M.bind (ldL .sl (x13.plus 4)) fun (x14 : Sl) =>
  M.bind (mkS none T_i64 [vi 0] (↑x14.len : Int) (↑x14.len : Int)) fun x15 =>
  M.bind (canon_table_entries_L0 n a1 (adr x0) (adr x5) x15 (↑x15.len : Int) 0) fun x16 =>
  M.bind (ldL .ptr (adr x5)) fun (x17 : Option Addr) =>
  M.bind (nn x17) fun x18 =>
  M.bind (ldL (li) (x18.plus 0)) fun (x19 : Int) =>
  if decide (x19 = 10) then
   M.bind (ldL .ptr (adr x5)) fun (x20 : Option Addr) =>
   M.bind (nn x20) fun x21 =>
   M.bind (ldL .bool (x21.plus 2)) fun (x22 : Bool) =>
   if !x22 then
    canon_table_entries_J0 n a1 (adr x0) (adr x5) x15
   else
    M.bind (ldL .ptr (adr x0)) fun (x23 : Option Addr) =>
    M.bind (nn x23) fun x24 =>
    M.bind (ldL .sl (x24.plus 2)) fun (x25 : Sl) =>
    M.bind (idxA x25 a1 1) fun x26 =>
    M.bind (stN x26 [vsl x15]) fun x27 =>
    M.pure x15
  else
   M.bind (ldL .ptr (adr x0)) fun (x20 : Option Addr) =>
   M.bind (nn x20) fun x21 =>
   M.bind (ldL .sl (x21.plus 2)) fun (x22 : Sl) =>
   M.bind (idxA x22 a1 1) fun x23 =>
   M.bind (stN x23 [vsl x15]) fun x24 =>
   M.pure x15
abbrev q72_E (n : Nat) : Ent:=⟨72,[tyP,tyI],[tyL],fun x=>canon_table_entries n (x.1) (x.2)⟩
abbrev q72_L0_a : List (Nat × Ty):=[(1,tyI),(2,tyA),(5,tyA),(6,tyL),(37,tyI),(38,tyI)]
abbrev q72_L0_w : List Nat:=[7,38,39,40,41,42,43,44,45]
abbrev q72_L0_p : Path:=[0,1,0,1,1,1,1]
abbrev q72_L0_g (n : Nat) (x : TsDen (tys q72_L0_a)) : M (Unit):=canon_table_entries_L0 n (x.1) (x.2.1) (x.2.2.1) (x.2.2.2.1) (x.2.2.2.2.1) (x.2.2.2.2.2)
abbrev q72_L0_l (n : Nat) : LEnt:=⟨q72_L0_p,q72_L0_a,actL1 q72_L0_a [] q72_L0_w 0 (q72_L0_g n)⟩
abbrev q72_dt (n : Nat) : List DEnt:=[]
abbrev q72_ct (n : Nat) : List Ent:=[]
def q72_dr (i : Nat) : Option (List (Nat × List Nat)):=none
abbrev q72_lt (n : Nat) : List LEnt:=[q72_L0_l n]
abbrev q72_jt1 (n : Nat) : List (JEnt (Sl)):=[]
abbrev q72_jt0 (n : Nat) : List (JEnt (Sl)):=⟨[0,1,0,1,1,1,1,1],[.code [1,1,1,1,1,1]],[(1,tyI),(2,tyA),(5,tyA),(6,tyL)],fun x=>canon_table_entries_J0 n (x.1) (x.2.1) (x.2.2.1) (x.2.2.2)⟩ :: q72_jt1 n
theorem q72_L0_ok (n : Nat) {W : Wr} (hW : subW W 69 q72_L0_w = true) : LEntOK Tryz.prog (bodyOf Tryz.f72) W (q72_L0_l n) :=
 loop1_t (bodyOf Tryz.f72) q72_L0_p q72_L0_a [] 0 69 q72_L0_w [] q72_ct q72_dt (fun _=>[]) q72_dr q72_L0_g (fun _=>[]) (by kernel_rfl) (fun _=>by kernel_rfl) (fun n x=>by kernel_rfl) n (fun m hm=>⟨.nil,.nil,.nil,.nil,.nil⟩) hW
theorem canon_table_entries_ok (n : Nat) : FnOK Tryz.prog (q72_E n) :=
 fn_t (q72_E n) Tryz.f72 (bodyOf Tryz.f72) [(0,tyP),(1,tyI)] [] (q72_ct n) (q72_dt n) (q72_lt n) (q72_jt0 n) q72_dr (by kernel_rfl) (by kernel_rfl) (by kernel_rfl) (by kernel_rfl) (by kernel_rfl) ⟨.nil,.nil,.nil,(.cons (q72_L0_ok n (by kernel_rfl)) .nil),(.cons (fun x=>by kernel_rfl) .nil)⟩ (fun x=>by kernel_rfl)
def integer_size_L0_B (G : Sl → Sl → Int → M ((Unit) ⊕ (Int))) (n : Nat) (a0 : Sl) (a1 : Sl) (a2 : Int) : M ((Unit) ⊕ (Int)) :=
 if decide (0 ≤ a2) then
  M.bind (idxA a0 a2 1) fun x0 =>
  M.bind (idxA a1 a2 1) fun x1 =>
  M.bind (ldL (.int IntKind.u8) x0) fun (x2 : Int) =>
  M.bind (ldL (.int IntKind.u8) x1) fun (x3 : Int) =>
  if !decide (x2 = x3) then
   M.bind (idxA a0 a2 1) fun x4 =>
   M.bind (idxA a1 a2 1) fun x5 =>
   M.bind (ldL (.int IntKind.u8) x4) fun (x6 : Int) =>
   M.bind (ldL (.int IntKind.u8) x5) fun (x7 : Int) =>
   if decide (x6 < x7) then
    M.pure (Sum.inr (-1))
   else
    M.pure (Sum.inr 1)
  else
   G a0 a1 (IntKind.i64.wrap (a2 - 1))
 else
  M.pure (Sum.inl ())
def integer_size_L0 : Nat → Sl → Sl → Int → M ((Unit) ⊕ (Int))
 | 0=>fun _ _ _=>M.fail
 | n + 1=>integer_size_L0_B (integer_size_L0 n) n
def integer_size (n : Nat) (a0 : Sl) (a1 : Sl) : M (Int) :=
 if !decide ((↑a0.len : Int) = (↑a1.len : Int)) then
  if decide ((↑a0.len : Int) < (↑a1.len : Int)) then
   M.pure (-1)
  else
   M.pure 1
 else
  M.bind (integer_size_L0 n a0 a1 (IntKind.i64.wrap ((↑a0.len : Int) - 1))) (sumElim (fun x0 =>
   M.pure 0)
  (fun x0 =>
   M.pure x0))
abbrev q245_E (n : Nat) : Ent:=⟨245,[tyL,tyL],[tyI],fun x=>integer_size n (x.1) (x.2)⟩
abbrev q245_L0_a : List (Nat × Ty):=[(0,tyL),(1,tyL),(5,tyI)]
abbrev q245_L0_w : List Nat:=[4,5,19,20,21,22,23,24,25,26,27,28,29,30,31,32,33,34,35,36,37,38,39,40]
abbrev q245_L0_p : Path:=[0,1,0,1,1]
abbrev q245_L0_g (n : Nat) (x : TsDen (tys q245_L0_a)) : M ((Unit) ⊕ (Int)):=integer_size_L0 n (x.1) (x.2.1) (x.2.2)
abbrev q245_L0_l (n : Nat) : LEnt:=⟨q245_L0_p,q245_L0_a,actL2 q245_L0_a [] [(4,tyI)] q245_L0_w 0 .ret (q245_L0_g n)⟩
abbrev q245_dt (n : Nat) : List DEnt:=[]
abbrev q245_ct (n : Nat) : List Ent:=[]
def q245_dr (i : Nat) : Option (List (Nat × List Nat)):=cond (Nat.beq i 8) (some [(0,[]),(1,[]),(2,[]),(4,[]),(5,[]),(6,[]),(3,[]),(7,[]),(8,[])]) (cond (Nat.beq i 9) (some [(0,[]),(1,[]),(2,[]),(4,[]),(5,[]),(6,[]),(3,[]),(7,[]),(8,[])]) (none))
abbrev q245_lt (n : Nat) : List LEnt:=[q245_L0_l n]
theorem q245_L0_ok (n : Nat) {W : Wr} (hW : subW W 41 q245_L0_w = true) : LEntOK Tryz.prog (bodyOf Tryz.f245) W (q245_L0_l n) :=
 loop2_t (bodyOf Tryz.f245) q245_L0_p q245_L0_a [] [(4,tyI)] 0 .ret 41 q245_L0_w [] q245_ct q245_dt (fun _=>[]) q245_dr q245_L0_g (fun _=>[]) (by kernel_rfl) (fun _=>by kernel_rfl) (fun n x=>by kernel_rfl) n (fun m hm=>⟨.nil,.nil,.nil,.nil,.nil⟩) hW
theorem integer_size_ok (n : Nat) : FnOK Tryz.prog (q245_E n) :=
 fn_t (q245_E n) Tryz.f245 (bodyOf Tryz.f245) [(0,tyL),(1,tyL)] [] (q245_ct n) (q245_dt n) (q245_lt n) [] q245_dr (by kernel_rfl) (by kernel_rfl) (by kernel_rfl) (by kernel_rfl) (by kernel_rfl) ⟨.nil,.nil,.nil,(.cons (q245_L0_ok n (by kernel_rfl)) .nil),.nil⟩ (fun x=>by kernel_rfl)
def integer_Cmp_J1 (n : Nat) (a0 : Addr) (a1 : Addr) : M (Int) :=
 M.bind (ldL .bool (a0.plus 0)) fun (x0 : Bool) =>
 if x0 then
  M.bind (ldL .sl (a1.plus 1)) fun (x1 : Sl) =>
  M.bind (ldL .sl (a0.plus 1)) fun (x2 : Sl) =>
  M.bind (integer_size n x1 x2) fun x3 =>
  M.pure x3
 else
  M.bind (ldL .sl (a0.plus 1)) fun (x1 : Sl) =>
  M.bind (ldL .sl (a1.plus 1)) fun (x2 : Sl) =>
  M.bind (integer_size n x1 x2) fun x3 =>
  M.pure x3
def integer_Cmp_J0 (n : Nat) (a0 : Addr) (a1 : Addr) : M (Int) :=
 M.bind (ldL .bool (a0.plus 0)) fun (x0 : Bool) =>
 if x0 then
  M.bind (ldL .bool (a1.plus 0)) fun (x1 : Bool) =>
  if !x1 then
   M.pure (-1)
  else
   M.bind (ldL .bool (a0.plus 0)) fun (x2 : Bool) =>
   if !x2 then
    M.bind (ldL .bool (a1.plus 0)) fun (x3 : Bool) =>
    if x3 then
     M.pure 1
    else
     integer_Cmp_J1 n a0 a1
   else
    integer_Cmp_J1 n a0 a1
 else
  M.bind (ldL .bool (a0.plus 0)) fun (x1 : Bool) =>
  if !x1 then
   M.bind (ldL .bool (a1.plus 0)) fun (x2 : Bool) =>
   if x2 then
    M.pure 1
   else
    integer_Cmp_J1 n a0 a1
  else
   integer_Cmp_J1 n a0 a1
def integer_Cmp (n : Nat) (a0 : ByteArray) (a1 : ByteArray) : M (Int) :=
 M.bind (integer_read n a0) fun x0 =>
 M.bind (newB none T_integer_number [Value.bool false,vsl0]) fun x1 =>
 M.bind (stN (adr x1) [Value.bool x0.1.1,vsl x0.1.2]) fun x2 =>
 M.bind (integer_read n a1) fun x3 =>
 M.bind (newB none T_integer_number [Value.bool false,vsl0]) fun x4 =>
 M.bind (stN (adr x4) [Value.bool x3.1.1,vsl x3.1.2]) fun x5 =>
 if !x0.2 then
  M.pure 0
 else
  if !x3.2 then
   M.pure 0
  else
   integer_Cmp_J0 n (adr x1) (adr x4)
abbrev q210_E (n : Nat) : Ent:=⟨210,[tyS,tyS],[tyI],fun x=>integer_Cmp n (x.1) (x.2)⟩
abbrev q210_dt (n : Nat) : List DEnt:=[]
abbrev q210_ct (n : Nat) : List Ent:=[q129_E n,q245_E n]
def q210_dr (i : Nat) : Option (List (Nat × List Nat)):=none
abbrev q210_jt2 (n : Nat) : List (JEnt (Int)):=[]
abbrev q210_jt1 (n : Nat) : List (JEnt (Int)):=⟨[0,1,1,1,1,0,0,1,1,1,1],[.code [1,1,1,1,1,0,0,1,1,1,1],.blk 0,.code [1,1,1,1,1]],[(5,tyA),(7,tyA)],fun x=>integer_Cmp_J1 n (x.1) (x.2)⟩ :: q210_jt2 n
abbrev q210_jt0 (n : Nat) : List (JEnt (Int)):=⟨[0,0,0,1,1,1,1],[.code [1,0,0,1,1,1,1],.blk 0,.code [1,1,1,1,1]],[(5,tyA),(7,tyA)],fun x=>integer_Cmp_J0 n (x.1) (x.2)⟩ :: q210_jt1 n
theorem integer_Cmp_ok (n : Nat) : FnOK Tryz.prog (q210_E n) :=
 fn_t (q210_E n) Tryz.f210 (bodyOf Tryz.f210) [(0,tyS),(1,tyS)] [] (q210_ct n) (q210_dt n) [] (q210_jt0 n) q210_dr (by kernel_rfl) (by kernel_rfl) (by kernel_rfl) (by kernel_rfl) (by kernel_rfl) ⟨.nil,(.cons (integer_read_ok n) (.cons (integer_size_ok n) .nil)),.nil,.nil,(.cons (fun x=>by kernel_rfl) (.cons (fun x=>by kernel_rfl) .nil))⟩ (fun x=>by kernel_rfl)
def canon_scalar (n : Nat) (a0 : Int) (a1 : ByteArray) (a2 : ByteArray) : M (Int) :=
 if eqS a1 a2 then
  M.pure 0
 else
  if decide (a0 = 2) then
   M.bind (integer_Cmp n a1 a2) fun x0 =>
   M.pure x0
  else
   if decide (a0 = 3) then
    M.fail
   else
    if decide (a0 = 4) then
     if eqS a1 (ofBytes [110,97,110]) then
      M.pure 1
     else
      if eqS a2 (ofBytes [110,97,110]) then
       M.pure (-1)
      else
       M.fail
    else
     M.bind (strings_Compare n a1 a2) fun x0 =>
     M.pure x0
abbrev q171_E (n : Nat) : Ent:=⟨171,[tyI,tyS,tyS],[tyI],fun x=>canon_scalar n (x.1) (x.2.1) (x.2.2)⟩
abbrev q171_dt (n : Nat) : List DEnt:=[]
abbrev q171_ct (n : Nat) : List Ent:=[⟨94,[tyS,tyS],[tyI],fun x=>strings_Compare n (x.1) (x.2)⟩,q210_E n]
def q171_dr (i : Nat) : Option (List (Nat × List Nat)):=none
theorem canon_scalar_ok (n : Nat) : FnOK Tryz.prog (q171_E n) :=
 fn_t (q171_E n) Tryz.f171 (bodyOf Tryz.f171) [(0,tyI),(1,tyS),(2,tyS)] [] (q171_ct n) (q171_dt n) [] [] q171_dr (by kernel_rfl) (by kernel_rfl) (by kernel_rfl) (by kernel_rfl) (by kernel_rfl) ⟨.nil,(.cons (strings_Compare_ok n) (.cons (integer_Cmp_ok n) .nil)),.nil,.nil,.nil⟩ (fun x=>by kernel_rfl)
structure Cl_canon_compare where
 canon_compare : Option Addr → Int → Option Addr → Int → Option Nat → M (Int)
 canon_differ_L0 : Option Addr → Option Addr → Option Nat → Option Addr → Option Addr → Sl → Sl → Int → Int → M ((Unit) ⊕ (Int))
 canon_differ : Option Addr → Int → Option Addr → Int → Option Nat → M (Int)
def canon_compare_B (G : Cl_canon_compare) (n : Nat) (a0 : Option Addr) (a1 : Int) (a2 : Option Addr) (a3 : Int) (a4 : Option Nat) : M (Int) :=
 M.bind (mpGet T_ar2_i64 (Ty.one (li)) 0 a4 (Value.agg #[vi a1,vi a3])) fun (x0 : Bool × Int) =>
 if x0.1 then
  M.pure x0.2
 else
  M.bind (G.canon_differ a0 a1 a2 a3 a4) fun x1 =>
  if !a4.isNone then
   M.bind (mpSet T_ar2_i64 a4 (Value.agg #[vi a1,vi a3]) (vi x1)) fun x2 =>
   M.pure x1
  else
   M.pure x1
def canon_differ_L0_J0_B (G : Cl_canon_compare) (n : Nat) (a0 : Option Addr) (a1 : Option Addr) (a2 : Option Nat) (a3 : Option Addr) (a4 : Option Addr) (a5 : Sl) (a6 : Sl) (a7 : Int) (a8 : Int) (a9 : Int) : M ((Unit) ⊕ (Int)) :=
 M.bind (nn a3) fun x0 =>
 M.bind (idxA a5 a7 1) fun x1 =>
 M.bind (nn a4) fun x2 =>
 M.bind (idxA a6 a7 1) fun x3 =>
 M.bind (ldL .sl (x0.plus 4)) fun (x4 : Sl) =>
 M.bind (ldL (li) x1) fun (x5 : Int) =>
 M.bind (idxA x4 x5 1) fun x6 =>
 M.bind (ldL (li) x6) fun (x7 : Int) =>
 M.bind (ldL .sl (x2.plus 4)) fun (x8 : Sl) =>
 M.bind (ldL (li) x3) fun (x9 : Int) =>
 M.bind (idxA x8 x9 1) fun x10 =>
 M.bind (ldL (li) x10) fun (x11 : Int) =>
 M.bind (G.canon_compare a0 x7 a1 x11 a2) fun x12 =>
 if !decide (x12 = 0) then
  M.pure (Sum.inr x12)
 else
  G.canon_differ_L0 a0 a1 a2 a3 a4 a5 a6 a8 (IntKind.i64.wrap (a9 + 1))
def canon_differ_L0_B (G : Cl_canon_compare) (n : Nat) (a0 : Option Addr) (a1 : Option Addr) (a2 : Option Nat) (a3 : Option Addr) (a4 : Option Addr) (a5 : Sl) (a6 : Sl) (a7 : Int) (a8 : Int) : M ((Unit) ⊕ (Int)) :=
 if decide (a8 < a7) then
  M.bind (nn a3) fun x0 =>
  M.bind (ldL (li) (x0.plus 0)) fun (x1 : Int) =>
  if decide (x1 = 10) then
   M.bind (nn a3) fun x2 =>
   M.bind (idxA a5 a8 1) fun x3 =>
   M.bind (nn a4) fun x4 =>
   M.bind (idxA a6 a8 1) fun x5 =>
   M.bind (ldL .sl (x2.plus 3)) fun (x6 : Sl) =>
   M.bind (ldL (li) x3) fun (x7 : Int) =>
   M.bind (idxA x6 x7 1) fun x8 =>
   M.bind (ldL (li) x8) fun (x9 : Int) =>
   M.bind (ldL .sl (x4.plus 3)) fun (x10 : Sl) =>
   M.bind (ldL (li) x5) fun (x11 : Int) =>
   M.bind (idxA x10 x11 1) fun x12 =>
   M.bind (ldL (li) x12) fun (x13 : Int) =>
   M.bind (G.canon_compare a0 x9 a1 x13 none) fun x14 =>
   if !decide (x14 = 0) then
    M.pure (Sum.inr x14)
   else
    canon_differ_L0_J0_B G n a0 a1 a2 a3 a4 a5 a6 a8 a7 a8
  else
   canon_differ_L0_J0_B G n a0 a1 a2 a3 a4 a5 a6 a8 a7 a8
 else
  M.pure (Sum.inl ())
def canon_differ_B (G : Cl_canon_compare) (n : Nat) (a0 : Option Addr) (a1 : Int) (a2 : Option Addr) (a3 : Int) (a4 : Option Nat) : M (Int) :=
 M.bind (nn a0) fun x0 =>
 M.bind (nn a2) fun x1 =>
 M.bind (ldL .sl ((x0.plus 0).plus 0)) fun (x2 : Sl) =>
 M.bind (idxA x2 a1 5) fun x3 =>
 M.bind (ldL .sl ((x1.plus 0).plus 0)) fun (x4 : Sl) =>
 M.bind (idxA x4 a3 5) fun x5 =>
 M.bind (nn (some x3)) fun x6 =>
 M.bind (nn (some x5)) fun x7 =>
 M.bind (ldL (li) (x6.plus 0)) fun (x8 : Int) =>
 M.bind (ldL (li) (x7.plus 0)) fun (x9 : Int) =>
 if decide (x8 < x9) then
  M.pure (-1)
 else
  M.bind (nn (some x3)) fun x10 =>
  M.bind (nn (some x5)) fun x11 =>
  M.bind (ldL (li) (x10.plus 0)) fun (x12 : Int) =>
  M.bind (ldL (li) (x11.plus 0)) fun (x13 : Int) =>
  if decide (x13 < x12) then
   M.pure 1
  else
   M.bind (nn (some x3)) fun x14 =>
   M.bind (nn (some x5)) fun x15 =>
   M.bind (ldL .bool (x14.plus 2)) fun (x16 : Bool) =>
   M.bind (ldL .bool (x15.plus 2)) fun (x17 : Bool) =>
   if !x16 == x17 then
    M.bind (nn (some x5)) fun x18 =>
    M.bind (ldL .bool (x18.plus 2)) fun (x19 : Bool) =>
    if x19 then
     M.pure (-1)
    else
     M.pure 1
   else
    M.bind (nn (some x3)) fun x18 =>
    M.bind (nn (some x3)) fun x19 =>
    M.bind (nn (some x5)) fun x20 =>
    M.bind (ldL (li) (x18.plus 0)) fun (x21 : Int) =>
    M.bind (ldL .str (x19.plus 1)) fun (x22 : ByteArray) =>
    M.bind (ldL .str (x20.plus 1)) fun (x23 : ByteArray) =>
    M.bind (canon_scalar n x21 x22 x23) fun x24 =>
    if !decide (x24 = 0) then
     M.pure x24
    else
     M.bind (canon_table_entries n a0 a1) fun x25 =>
     M.bind (canon_table_entries n a2 a3) fun x26 =>
     M.bind (G.canon_differ_L0 a0 a2 a4 (some x3) (some x5) x25 x26 (if (↑x26.len : Int) < (↑x25.len : Int) then (↑x26.len : Int) else (↑x25.len : Int)) 0) (sumElim (fun x27 =>
      if decide ((↑x25.len : Int) < (↑x26.len : Int)) then
       M.pure (-1)
      else
       if decide ((↑x26.len : Int) < (↑x25.len : Int)) then
        M.pure 1
       else
        M.pure 0)
     (fun x27 =>
      M.pure x27))
def Cl_canon_compare.at : Nat → Cl_canon_compare
 | 0=>⟨fun _ _ _ _ _=>M.fail,fun _ _ _ _ _ _ _ _ _=>M.fail,fun _ _ _ _ _=>M.fail⟩
 | n + 1=>⟨canon_compare_B (Cl_canon_compare.at n) n,canon_differ_L0_B (Cl_canon_compare.at n) n,canon_differ_B (Cl_canon_compare.at n) n⟩
def canon_compare (n : Nat) (a0 : Option Addr) (a1 : Int) (a2 : Option Addr) (a3 : Int) (a4 : Option Nat) : M (Int):=(Cl_canon_compare.at n).canon_compare a0 a1 a2 a3 a4
theorem canon_compare_succ (n : Nat) (a0 : Option Addr) (a1 : Int) (a2 : Option Addr) (a3 : Int) (a4 : Option Nat) : canon_compare (n + 1) a0 a1 a2 a3 a4 = canon_compare_B (Cl_canon_compare.at n) n a0 a1 a2 a3 a4:=rfl
def canon_differ_L0 (n : Nat) (a0 : Option Addr) (a1 : Option Addr) (a2 : Option Nat) (a3 : Option Addr) (a4 : Option Addr) (a5 : Sl) (a6 : Sl) (a7 : Int) (a8 : Int) : M ((Unit) ⊕ (Int)):=(Cl_canon_compare.at n).canon_differ_L0 a0 a1 a2 a3 a4 a5 a6 a7 a8
def canon_differ (n : Nat) (a0 : Option Addr) (a1 : Int) (a2 : Option Addr) (a3 : Int) (a4 : Option Nat) : M (Int):=(Cl_canon_compare.at n).canon_differ a0 a1 a2 a3 a4
theorem canon_differ_succ (n : Nat) (a0 : Option Addr) (a1 : Int) (a2 : Option Addr) (a3 : Int) (a4 : Option Nat) : canon_differ (n + 1) a0 a1 a2 a3 a4 = canon_differ_B (Cl_canon_compare.at n) n a0 a1 a2 a3 a4:=rfl
def canon_differ_L0_J0 (n : Nat) (a0 : Option Addr) (a1 : Option Addr) (a2 : Option Nat) (a3 : Option Addr) (a4 : Option Addr) (a5 : Sl) (a6 : Sl) (a7 : Int) (a8 : Int) (a9 : Int) : M ((Unit) ⊕ (Int)):=canon_differ_L0_J0_B (Cl_canon_compare.at n) n a0 a1 a2 a3 a4 a5 a6 a7 a8 a9
abbrev q108_E (n : Nat) : Ent:=⟨108,[tyP,tyI,tyP,tyI,tyM],[tyI],fun x=>canon_compare n (x.1) (x.2.1) (x.2.2.1) (x.2.2.2.1) (x.2.2.2.2)⟩
abbrev q136_E (n : Nat) : Ent:=⟨136,[tyP,tyI,tyP,tyI,tyM],[tyI],fun x=>canon_differ n (x.1) (x.2.1) (x.2.2.1) (x.2.2.2.1) (x.2.2.2.2)⟩
abbrev q136_L0_a : List (Nat × Ty):=[(0,tyP),(2,tyP),(4,tyM),(11,tyP),(12,tyP),(14,tyL),(15,tyL),(93,tyI),(94,tyI)]
abbrev q136_L0_w : List Nat:=[10,16,17,18,94,95,96,97,98,99,100,101,102,103,104,105,106,107,108,109,110,111,112,113,114,115,116,117,118,119,120,121,122,123,124,125,126,127,128,129,130,131,132,133,134,135,136,137,138,139,140,141,142,143,144,145,146,147,148,149,150,151,152,153,154,155]
abbrev q136_L0_p : Path:=[0,1,0,1,1,1,1,1]
abbrev q136_L0_g (n : Nat) (x : TsDen (tys q136_L0_a)) : M ((Unit) ⊕ (Int)):=canon_differ_L0 n (x.1) (x.2.1) (x.2.2.1) (x.2.2.2.1) (x.2.2.2.2.1) (x.2.2.2.2.2.1) (x.2.2.2.2.2.2.1) (x.2.2.2.2.2.2.2.1) (x.2.2.2.2.2.2.2.2)
abbrev q136_L0_l (n : Nat) : LEnt:=⟨q136_L0_p,q136_L0_a,actL2 q136_L0_a [] [(10,tyI)] q136_L0_w 1 .ret (q136_L0_g n)⟩
abbrev q108_dt (n : Nat) : List DEnt:=[]
abbrev q108_ct (n : Nat) : List Ent:=[q136_E n]
def q108_dr (i : Nat) : Option (List (Nat × List Nat)):=none
abbrev q136_dt (n : Nat) : List DEnt:=[]
abbrev q136_ct (n : Nat) : List Ent:=[q72_E n,q108_E n,q171_E n]
def q136_dr (i : Nat) : Option (List (Nat × List Nat)):=cond (Nat.beq i 1) (some [(0,[]),(1,[]),(2,[]),(3,[]),(5,[]),(7,[]),(8,[]),(9,[]),(10,[]),(12,[]),(4,[]),(6,[]),(14,[]),(11,[]),(13,[]),(15,[])]) (cond (Nat.beq i 2) (some [(0,[]),(1,[]),(2,[]),(4,[]),(5,[]),(6,[]),(3,[]),(7,[]),(8,[]),(9,[])]) (cond (Nat.beq i 4) (some [(0,[]),(1,[]),(2,[]),(4,[]),(5,[]),(6,[]),(3,[]),(7,[]),(8,[]),(9,[])]) (cond (Nat.beq i 6) (some [(0,[]),(1,[]),(2,[]),(4,[]),(5,[]),(6,[]),(3,[]),(7,[]),(8,[]),(9,[])]) (cond (Nat.beq i 10) (some [(0,[]),(1,[]),(2,[]),(4,[]),(5,[]),(6,[]),(8,[]),(9,[]),(10,[]),(3,[]),(7,[]),(11,[]),(12,[]),(13,[])]) (cond (Nat.beq i 18) (some [(0,[]),(1,[]),(2,[]),(3,[]),(5,[]),(6,[]),(7,[]),(11,[]),(12,[]),(13,[]),(14,[]),(16,[]),(17,[]),(18,[]),(4,[]),(8,[]),(9,[]),(10,[]),(15,[]),(19,[]),(20,[]),(21,[]),(22,[]),(23,[])]) (cond (Nat.beq i 21) (some [(0,[]),(1,[]),(2,[]),(3,[]),(5,[]),(6,[]),(7,[]),(11,[]),(12,[]),(13,[]),(14,[]),(16,[]),(17,[]),(18,[]),(22,[]),(4,[]),(8,[]),(9,[]),(10,[]),(15,[]),(19,[]),(20,[]),(21,[]),(23,[]),(24,[])]) (none)))))))
abbrev q136_L0_jt1 (n : Nat) : List (JEnt ((Unit) ⊕ (Int))):=[]
abbrev q136_L0_jt0 (n : Nat) : List (JEnt ((Unit) ⊕ (Int))):=⟨[0,1,1,0,0,1,1,0,0,1,0,1,1,1,1,1],[.code [1,1,1,0,0,1,1,0,0,1,0,1,1,1,1,1],.blk 2,.code [1,1,1,0,0,1,0,1,1,1,1,1]],[(0,tyP),(2,tyP),(4,tyM),(11,tyP),(12,tyP),(14,tyL),(15,tyL),(16,tyI),(93,tyI),(94,tyI)],fun x=>canon_differ_L0_J0 n (x.1) (x.2.1) (x.2.2.1) (x.2.2.2.1) (x.2.2.2.2.1) (x.2.2.2.2.2.1) (x.2.2.2.2.2.2.1) (x.2.2.2.2.2.2.2.1) (x.2.2.2.2.2.2.2.2.1) (x.2.2.2.2.2.2.2.2.2)⟩ :: q136_L0_jt1 n
abbrev q136_lt (n : Nat) : List LEnt:=[q136_L0_l n]
def P_canon_compare (n : Nat) : Prop:=FnOK Tryz.prog (q108_E n)∧FnOK Tryz.prog (q136_E n)
theorem canon_compare_ok_step (n : Nat) (H : ∀ m,m < n + 1 → P_canon_compare m) : FnOK Tryz.prog (q108_E (n + 1)) :=
 fn_t (q108_E (n + 1)) Tryz.f108 (bodyOf Tryz.f108) [(0,tyP),(1,tyI),(2,tyP),(3,tyI),(4,tyM)] [] (q108_ct n) (q108_dt n) [] [] q108_dr (by kernel_rfl) (by kernel_rfl) (by kernel_rfl) (by kernel_rfl) (by kernel_rfl) ⟨.nil,(.cons (H n (Nat.lt_succ_self n)).2 .nil),.nil,.nil,.nil⟩ (fun x=>by kernel_rfl)
theorem q136_L0_ok (n : Nat) (H : ∀ m,m < n → P_canon_compare m) {W : Wr} (hW : subW W 168 q136_L0_w = true) : LEntOK Tryz.prog (bodyOf Tryz.f136) W (q136_L0_l n) :=
 loop2_t (bodyOf Tryz.f136) q136_L0_p q136_L0_a [] [(10,tyI)] 1 .ret 168 q136_L0_w [] q136_ct q136_dt (fun _=>[]) q136_dr q136_L0_g q136_L0_jt0 (by kernel_rfl) (fun _=>by kernel_rfl) (fun n x=>by kernel_rfl) n (fun m hm=>⟨.nil,(.cons (canon_table_entries_ok m) (.cons (H m hm).1 (.cons (canon_scalar_ok m) .nil))),.nil,.nil,(.cons (fun x=>by kernel_rfl) .nil)⟩) hW
theorem canon_differ_ok_step (n : Nat) (H : ∀ m,m < n + 1 → P_canon_compare m) : FnOK Tryz.prog (q136_E (n + 1)) :=
 fn_t (q136_E (n + 1)) Tryz.f136 (bodyOf Tryz.f136) [(0,tyP),(1,tyI),(2,tyP),(3,tyI),(4,tyM)] [] (q136_ct n) (q136_dt n) (q136_lt n) [] q136_dr (by kernel_rfl) (by kernel_rfl) (by kernel_rfl) (by kernel_rfl) (by kernel_rfl) ⟨.nil,(.cons (canon_table_entries_ok n) (.cons (H n (Nat.lt_succ_self n)).1 (.cons (canon_scalar_ok n) .nil))),.nil,(.cons (q136_L0_ok n (fun k hk=>H k (Nat.lt_succ_of_lt hk)) (by kernel_rfl)) .nil),.nil⟩ (fun x=>by kernel_rfl)
theorem P_canon_compare_all : ∀ n m,m < n → P_canon_compare m:=by
 intro n
 induction n with
 | zero=>intro m hm;exact absurd hm (Nat.not_lt_zero m)
 | succ n ih =>
  intro m hm
  cases m with
  | zero=>exact ⟨fn_zero (fn:=Tryz.f108) (by kernel_rfl) (by kernel_rfl) (by kernel_rfl) (fun _=>rfl),fn_zero (fn:=Tryz.f136) (by kernel_rfl) (by kernel_rfl) (by kernel_rfl) (fun _=>rfl)⟩
  | succ k=>exact ⟨canon_compare_ok_step k fun m hm=>ih m (by omega),canon_differ_ok_step k fun m hm=>ih m (by omega)⟩
theorem canon_compare_ok (n : Nat) : FnOK Tryz.prog (q108_E n):=(P_canon_compare_all (n + 1) n (Nat.lt_succ_self n)).1
def graph_Depth (n : Nat) (a0 : Sl × Int) : M (Int × Bool) :=
 M.bind (newB none T_api_Graph [vsl a0.1,vi a0.2]) fun x0 =>
 M.bind (ldLs [.sl,li] (adr x0)) fun (x1 : Sl × Int) =>
 M.bind (graph_Check n (x1.1,x1.2)) fun x2 =>
 if !decide (x2 = 0) then
  M.pure (0,false)
 else
  M.bind (ldLs [.sl,li] (adr x0)) fun (x3 : Sl × Int) =>
  M.bind (graph_depth n (x3.1,x3.2)) fun x4 =>
  M.pure (x4.1,x4.2)
abbrev q191_E (n : Nat) : Ent:=⟨191,[.agg [.sl,.int .i64]],[tyI,tyB],fun x=>graph_Depth n x⟩
abbrev q191_dt (n : Nat) : List DEnt:=[]
abbrev q191_ct (n : Nat) : List Ent:=[q15_E n,q48_E n]
def q191_dr (i : Nat) : Option (List (Nat × List Nat)):=none
theorem graph_Depth_ok (n : Nat) : FnOK Tryz.prog (q191_E n) :=
 fn_t (q191_E n) Tryz.f191 (bodyOf Tryz.f191) [(0,.agg [.sl,.int .i64])] [] (q191_ct n) (q191_dt n) [] [] q191_dr (by kernel_rfl) (by kernel_rfl) (by kernel_rfl) (by kernel_rfl) (by kernel_rfl) ⟨.nil,(.cons (graph_Check_ok n) (.cons (graph_depth_ok n) .nil)),.nil,.nil,.nil⟩ (fun x=>by kernel_rfl)
def canon_acyclic (n : Nat) (a0 : Sl × Int) : M (Int) :=
 M.bind (newB none T_api_Graph [vsl a0.1,vi a0.2]) fun x0 =>
 M.bind (ldLs [.sl,li] (adr x0)) fun (x1 : Sl × Int) =>
 M.bind (graph_Check n (x1.1,x1.2)) fun x2 =>
 if !decide (x2 = 0) then
  M.pure 3
 else
  M.bind (ldLs [.sl,li] (adr x0)) fun (x3 : Sl × Int) =>
  M.bind (graph_Depth n (x3.1,x3.2)) fun x4 =>
  if !x4.2 then
   M.pure 14
  else
   M.pure 0
abbrev q145_E (n : Nat) : Ent:=⟨145,[.agg [.sl,.int .i64]],[tyI],fun x=>canon_acyclic n x⟩
abbrev q145_dt (n : Nat) : List DEnt:=[]
abbrev q145_ct (n : Nat) : List Ent:=[q15_E n,q191_E n]
def q145_dr (i : Nat) : Option (List (Nat × List Nat)):=none
theorem canon_acyclic_ok (n : Nat) : FnOK Tryz.prog (q145_E n) :=
 fn_t (q145_E n) Tryz.f145 (bodyOf Tryz.f145) [(0,.agg [.sl,.int .i64])] [] (q145_ct n) (q145_dt n) [] [] q145_dr (by kernel_rfl) (by kernel_rfl) (by kernel_rfl) (by kernel_rfl) (by kernel_rfl) ⟨.nil,(.cons (graph_Check_ok n) (.cons (graph_Depth_ok n) .nil)),.nil,.nil,.nil⟩ (fun x=>by kernel_rfl)
end Go.Sh
