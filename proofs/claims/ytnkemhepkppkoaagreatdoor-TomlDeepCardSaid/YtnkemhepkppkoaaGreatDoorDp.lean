/-
toml.Parse, which defers a closure that recovers: what it denotes, and that it is sound. No theorem about what it computes stands here.
-/
import Derived.Test.YtnkemhepkppkoaaGreatDoorSh3
import Derived.Test.YtnkemhepkppkoaaGreatDoorAgoV
set_option maxRecDepth 100000
set_option linter.all false
namespace Go.Sh
open Go Go.Ago Go.Proofs
noncomputable def dfrP : Dfr := ⟨16, Tryz.f16, 6, 3, [2, 3, 4], 31, List.range' 5 26 ++ List.range' 32 6⟩
abbrev prR : List Ty := [.agg [.int .i64, .str, .sl, .int .i64, .sl, .sl], tyI, tyI]
def prD (i : Nat) : Option (List (Nat × List Nat)) := cond (Nat.beq i 3) (some [(0, []), (1, []), (2, []), (3, [1, 2]), (4, [2]), (5, [])]) none
def clD (i : Nat) : Option (List (Nat × List Nat)) := cond (Nat.beq i 5) (some [(0, []), (1, []), (3, []), (2, []), (4, []), (5, [2, 4]), (6, [4]), (7, [])]) none
def prT1 (n : Nat) : Tabs (TsDen prR) := ⟨lookC [q10_E n] [], lookL [], lookJ [], prD, fun _ => M.fail⟩
def prC2 (n : Nat) : Ctab := lookC [] [] [] [q17_E n]
def prTc : Tabs Unit := ⟨lookC [] [], lookL [], lookJ [], clD, fun _ => M.fail⟩
-- BODY
def toml_Parse (n : Nat) (s : ByteArray) : M ((Int × ByteArray × Sl × Int × Sl × Sl) × Int × Int) :=
  M.bind (newB none T_api_Doc [vi 0, Value.string (ofBytes []), vsl0, vi 0, vsl0, vsl0]) fun x0 =>
  M.bind (newB none T_i64 [vi 0]) fun x1 =>
  M.bind (newB none T_api_Errno [vi 0]) fun x2 =>
  M.bind (tomllex_Scan n s) fun x3 =>
  M.bind (stN (adr x1) [vi x3.2.2.1]) fun x4 =>
  M.bind (stN (adr x2) [vi x3.2.2.2]) fun x5 =>
  M.bind (ldL (li) (adr x2)) fun (x6 : Int) =>
  if !decide (x6 = 0) then
    M.bind (ldL (li) (adr x1)) fun (x7 : Int) =>
    M.bind (ldL (li) (adr x2)) fun (x8 : Int) =>
    M.bind (chk [some (adr x1), some (adr x2)] (stN (adr x0) [vi 0, Value.string (ofBytes []), vsl0, vi 0, vsl0, vsl0])) fun x9 =>
    M.bind (chk [some (adr x2)] (stN (adr x1) [vi x7])) fun x10 =>
    M.bind (stN (adr x2) [vi x8]) fun x11 =>
    M.bind (ldLs [li, .str, .sl, li, .sl, .sl] (adr x0)) fun (x12 : Int × ByteArray × Sl × Int × Sl × Sl) =>
    M.bind (ldL (li) (adr x1)) fun (x13 : Int) =>
    M.bind (ldL (li) (adr x2)) fun (x14 : Int) =>
    M.pure ((x12.1, x12.2.1, x12.2.2.1, x12.2.2.2.1, x12.2.2.2.2.1, x12.2.2.2.2.2), x13, x14)
  else
    M.bind (mpNew T_i64) fun x7 =>
    M.bind (newB none T_toml_parser [Value.string s, vsl x3.1, vi 0, vi 0, Value.string (ofBytes []), vsl0, vi 0, vsl0, vsl0, Value.map (some x7), vi 0, vi 0]) fun x8 =>
    M.bind (nn (some (adr x8))) fun x9 =>
    M.bind (stN (x9.plus 3) [vi 2, Value.string s, vsl0, vi 0, vsl0, vsl x3.2.1]) fun x10 =>
    M.bind (toml_parser_document n (some (adr x8))) (sumElim (fun x11 =>
      M.bind (nn (some (adr x8))) fun x12 =>
      M.bind (ldLs [li, .str, .sl, li, .sl, .sl] (x12.plus 3)) fun (x13 : Int × ByteArray × Sl × Int × Sl × Sl) =>
      M.bind (stN (adr x0) [vi x13.1, Value.string x13.2.1, vsl x13.2.2.1, vi x13.2.2.2.1, vsl x13.2.2.2.2.1, vsl x13.2.2.2.2.2]) fun x14 =>
      M.bind (stN (adr x1) [vi 0]) fun x15 =>
      M.bind (stN (adr x2) [vi 0]) fun x16 =>
      M.bind (M.bind (isNilI Value.nilIface) fun x17 =>
        if !x17 then
          M.bind (asI T_toml_failure (Ty.agg [li, li]) Value.nilIface) fun x18 =>
          M.bind (newB none T_toml_failure [vi 0, vi 0]) fun x19 =>
          M.bind (stN (adr x19) [vi x18.1, vi x18.2]) fun x20 =>
          M.bind (ldL (li) ((adr x19).plus 0)) fun (x21 : Int) =>
          M.bind (ldL (li) ((adr x19).plus 1)) fun (x22 : Int) =>
          M.bind (chk [some ((adr x19).plus 0), some ((adr x19).plus 1)] (stN (adr x0) [vi 0, Value.string (ofBytes []), vsl0, vi 0, vsl0, vsl0])) fun x23 =>
          M.bind (chk [some ((adr x19).plus 1)] (stN (adr x1) [vi x21])) fun x24 =>
          M.bind (stN (adr x2) [vi x22]) fun x25 =>
          M.pure ()
        else
          M.pure ()) fun x17 =>
      M.bind (ldLs [li, .str, .sl, li, .sl, .sl] (adr x0)) fun (x18 : Int × ByteArray × Sl × Int × Sl × Sl) =>
      M.bind (ldL (li) (adr x1)) fun (x19 : Int) =>
      M.bind (ldL (li) (adr x2)) fun (x20 : Int) =>
      M.pure ((x18.1, x18.2.1, x18.2.2.1, x18.2.2.2.1, x18.2.2.2.2.1, x18.2.2.2.2.2), x19, x20))
    (fun x11 =>
      M.bind (M.bind (isNilI x11) fun x12 =>
        if !x12 then
          M.bind (asI T_toml_failure (Ty.agg [li, li]) x11) fun x13 =>
          M.bind (newB none T_toml_failure [vi 0, vi 0]) fun x14 =>
          M.bind (stN (adr x14) [vi x13.1, vi x13.2]) fun x15 =>
          M.bind (ldL (li) ((adr x14).plus 0)) fun (x16 : Int) =>
          M.bind (ldL (li) ((adr x14).plus 1)) fun (x17 : Int) =>
          M.bind (chk [some ((adr x14).plus 0), some ((adr x14).plus 1)] (stN (adr x0) [vi 0, Value.string (ofBytes []), vsl0, vi 0, vsl0, vsl0])) fun x18 =>
          M.bind (chk [some ((adr x14).plus 1)] (stN (adr x1) [vi x16])) fun x19 =>
          M.bind (stN (adr x2) [vi x17]) fun x20 =>
          M.pure ()
        else
          M.pure ()) fun x12 =>
      M.bind (ldLs [li, .str, .sl, li, .sl, .sl] (adr x0)) fun (x13 : Int × ByteArray × Sl × Int × Sl × Sl) =>
      M.bind (ldL (li) (adr x1)) fun (x14 : Int) =>
      M.bind (ldL (li) (adr x2)) fun (x15 : Int) =>
      M.pure ((x13.1, x13.2.1, x13.2.2.1, x13.2.2.2.1, x13.2.2.2.2.1, x13.2.2.2.2.2), x14, x15)))
-- END BODY
theorem prIs (n : Nat) : DfrIs Tryz.prog Tryz.f7 prR (prT1 n) (prC2 n) prTc dfrP where
  t1 := fun fin => tabs_ok (N := 0) .nil (.cons (tomllex_Scan_ok n) .nil) .nil .nil AllP.nil (disj_nil _) .nil
  p1 := rfl
  c2 := lookC_ok .nil .nil .nil (.cons (toml_parser_document_ok n) .nil) rfl
  tc := tabs_ok (N := 0) .nil .nil .nil .nil AllP.nil (disj_nil _) .nil
  pc := rfl
  fg := by kernel_rfl
  bg := by kernel_rfl
  ng := by kernel_rfl
  rg := by kernel_rfl
  rc := by kernel_rfl
  r1 := by kernel_rfl
  r2 := by kernel_rfl
  nc := by kernel_rfl
  d := by kernel_rfl
  ws := by kernel_rfl
  dcs := by decide
theorem toml_Parse_eq (n : Nat) (s : ByteArray) : denD Tryz.prog Tryz.f7 prR (prT1 n) (prC2 n) (fun _ => none) prTc 400 dfrP 5 [] (putE [(0, tyS)] (pkTs [tyS] s)) = toml_Parse n s := by kernel_rfl
theorem toml_Parse_ok (n : Nat) : FnOK Tryz.prog ⟨7, [tyS], prR, fun x => toml_Parse n x⟩ :=
  fnd_ok (ps := [(0, tyS)]) (prIs n) (by kernel_rfl) (by kernel_rfl) (by kernel_rfl) rfl (by kernel_rfl) (k := 5) (by kernel_rfl) (fun x => toml_Parse_eq n x)
end Go.Sh
