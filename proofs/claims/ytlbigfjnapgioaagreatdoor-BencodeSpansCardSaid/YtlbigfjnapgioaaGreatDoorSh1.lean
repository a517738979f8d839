/-
The shallow functions of this seat, part 1, and that each is sound; written by program. No theorem about what they compute stands here.
-/
import Derived.Test.YtlbigfjnapgioaaGreatDoorSh0
set_option maxRecDepth 100000
set_option maxHeartbeats 0
set_option linter.all false
namespace Go.Sh
open Go Go.Ago Go.Proofs
def graph_name_L0_B (G : ByteArray → Int → Int → M ((Unit) ⊕ (Bool))) (n : Nat) (a0 : ByteArray) (a1 : Int) (a2 : Int) : M ((Unit) ⊕ (Bool)) :=
  if decide (a2 < a1) then
    M.bind (idxS a0 a2) fun x0 =>
    if decide (97 ≤ (↑x0.toNat : Int)) then
      if decide ((↑x0.toNat : Int) ≤ 122) then
        G a0 a1 (IntKind.i64.wrap (a2 + 1))
      else
        if decide (65 ≤ (↑x0.toNat : Int)) then
          if decide ((↑x0.toNat : Int) ≤ 90) then
            G a0 a1 (IntKind.i64.wrap (a2 + 1))
          else
            if decide (48 ≤ (↑x0.toNat : Int)) then
              if decide ((↑x0.toNat : Int) ≤ 57) then
                G a0 a1 (IntKind.i64.wrap (a2 + 1))
              else
                if decide ((↑x0.toNat : Int) = 95) then
                  G a0 a1 (IntKind.i64.wrap (a2 + 1))
                else
                  if decide ((↑x0.toNat : Int) = 45) then
                    G a0 a1 (IntKind.i64.wrap (a2 + 1))
                  else
                    if decide ((↑x0.toNat : Int) = 46) then
                      G a0 a1 (IntKind.i64.wrap (a2 + 1))
                    else
                      if !decide ((↑x0.toNat : Int) = 58) then
                        M.pure (Sum.inr false)
                      else
                        G a0 a1 (IntKind.i64.wrap (a2 + 1))
            else
              if decide ((↑x0.toNat : Int) = 95) then
                G a0 a1 (IntKind.i64.wrap (a2 + 1))
              else
                if decide ((↑x0.toNat : Int) = 45) then
                  G a0 a1 (IntKind.i64.wrap (a2 + 1))
                else
                  if decide ((↑x0.toNat : Int) = 46) then
                    G a0 a1 (IntKind.i64.wrap (a2 + 1))
                  else
                    if !decide ((↑x0.toNat : Int) = 58) then
                      M.pure (Sum.inr false)
                    else
                      G a0 a1 (IntKind.i64.wrap (a2 + 1))
        else
          if decide (48 ≤ (↑x0.toNat : Int)) then
            if decide ((↑x0.toNat : Int) ≤ 57) then
              G a0 a1 (IntKind.i64.wrap (a2 + 1))
            else
              if decide ((↑x0.toNat : Int) = 95) then
                G a0 a1 (IntKind.i64.wrap (a2 + 1))
              else
                if decide ((↑x0.toNat : Int) = 45) then
                  G a0 a1 (IntKind.i64.wrap (a2 + 1))
                else
                  if decide ((↑x0.toNat : Int) = 46) then
                    G a0 a1 (IntKind.i64.wrap (a2 + 1))
                  else
                    if !decide ((↑x0.toNat : Int) = 58) then
                      M.pure (Sum.inr false)
                    else
                      G a0 a1 (IntKind.i64.wrap (a2 + 1))
          else
            if decide ((↑x0.toNat : Int) = 95) then
              G a0 a1 (IntKind.i64.wrap (a2 + 1))
            else
              if decide ((↑x0.toNat : Int) = 45) then
                G a0 a1 (IntKind.i64.wrap (a2 + 1))
              else
                if decide ((↑x0.toNat : Int) = 46) then
                  G a0 a1 (IntKind.i64.wrap (a2 + 1))
                else
                  if !decide ((↑x0.toNat : Int) = 58) then
                    M.pure (Sum.inr false)
                  else
                    G a0 a1 (IntKind.i64.wrap (a2 + 1))
    else
      if decide (65 ≤ (↑x0.toNat : Int)) then
        if decide ((↑x0.toNat : Int) ≤ 90) then
          G a0 a1 (IntKind.i64.wrap (a2 + 1))
        else
          if decide (48 ≤ (↑x0.toNat : Int)) then
            if decide ((↑x0.toNat : Int) ≤ 57) then
              G a0 a1 (IntKind.i64.wrap (a2 + 1))
            else
              if decide ((↑x0.toNat : Int) = 95) then
                G a0 a1 (IntKind.i64.wrap (a2 + 1))
              else
                if decide ((↑x0.toNat : Int) = 45) then
                  G a0 a1 (IntKind.i64.wrap (a2 + 1))
                else
                  if decide ((↑x0.toNat : Int) = 46) then
                    G a0 a1 (IntKind.i64.wrap (a2 + 1))
                  else
                    if !decide ((↑x0.toNat : Int) = 58) then
                      M.pure (Sum.inr false)
                    else
                      G a0 a1 (IntKind.i64.wrap (a2 + 1))
          else
            if decide ((↑x0.toNat : Int) = 95) then
              G a0 a1 (IntKind.i64.wrap (a2 + 1))
            else
              if decide ((↑x0.toNat : Int) = 45) then
                G a0 a1 (IntKind.i64.wrap (a2 + 1))
              else
                if decide ((↑x0.toNat : Int) = 46) then
                  G a0 a1 (IntKind.i64.wrap (a2 + 1))
                else
                  if !decide ((↑x0.toNat : Int) = 58) then
                    M.pure (Sum.inr false)
                  else
                    G a0 a1 (IntKind.i64.wrap (a2 + 1))
      else
        if decide (48 ≤ (↑x0.toNat : Int)) then
          if decide ((↑x0.toNat : Int) ≤ 57) then
            G a0 a1 (IntKind.i64.wrap (a2 + 1))
          else
            if decide ((↑x0.toNat : Int) = 95) then
              G a0 a1 (IntKind.i64.wrap (a2 + 1))
            else
              if decide ((↑x0.toNat : Int) = 45) then
                G a0 a1 (IntKind.i64.wrap (a2 + 1))
              else
                if decide ((↑x0.toNat : Int) = 46) then
                  G a0 a1 (IntKind.i64.wrap (a2 + 1))
                else
                  if !decide ((↑x0.toNat : Int) = 58) then
                    M.pure (Sum.inr false)
                  else
                    G a0 a1 (IntKind.i64.wrap (a2 + 1))
        else
          if decide ((↑x0.toNat : Int) = 95) then
            G a0 a1 (IntKind.i64.wrap (a2 + 1))
          else
            if decide ((↑x0.toNat : Int) = 45) then
              G a0 a1 (IntKind.i64.wrap (a2 + 1))
            else
              if decide ((↑x0.toNat : Int) = 46) then
                G a0 a1 (IntKind.i64.wrap (a2 + 1))
              else
                if !decide ((↑x0.toNat : Int) = 58) then
                  M.pure (Sum.inr false)
                else
                  G a0 a1 (IntKind.i64.wrap (a2 + 1))
  else
    M.pure (Sum.inl ())
def graph_name_L0 : Nat → ByteArray → Int → Int → M ((Unit) ⊕ (Bool))
  | 0 => fun _ _ _ => M.fail
  | n + 1 => graph_name_L0_B (graph_name_L0 n) n
theorem graph_name_L0_succ (n : Nat) : graph_name_L0 (n + 1) = graph_name_L0_B (graph_name_L0 n) n := rfl
def graph_name (n : Nat) (a0 : ByteArray) : M (Bool) :=
  M.bind (graph_name_L0 n a0 (↑a0.size : Int) 0) (sumElim (fun x0 =>
    if decide (1 ≤ (↑a0.size : Int)) then
      M.pure (decide ((↑a0.size : Int) ≤ 64))
    else
      M.pure false)
  (fun x0 =>
    M.pure x0))
def graph_name_dt (n : Nat) : List DEnt := []
def graph_name_ct (n : Nat) : List Ent := []
def graph_name_dr (i : Nat) : Option (List (Nat × List Nat)) := none
def graph_name_L0_lt (n : Nat) : List LEnt := []
def graph_name_L0_jt0 (n : Nat) : List (JEnt ((Unit) ⊕ (Bool))) := []
def graph_name_lt (n : Nat) : List LEnt := [⟨[0, 1, 0, 1], [(0, .one (.str)), (6, .one (.int .i64)), (7, .one (.int .i64))], actL2 [(0, .one (.str)), (6, .one (.int .i64)), (7, .one (.int .i64))] [] [(2, .one (.bool))] [2, 3, 4, 7, 8, 9, 10, 11, 12, 13, 14, 15, 16, 17, 18, 19, 20, 21, 22, 23, 24, 25, 26, 27, 28, 29, 30, 31, 32, 33, 34, 35, 36, 37, 38, 39, 40, 41, 42, 43, 44, 45, 46, 47, 48, 49, 50, 51, 52] 0 .ret (fun x => graph_name_L0 n (x.1) (x.2.1) (x.2.2))⟩]
def graph_name_jt0 (n : Nat) : List (JEnt (Bool)) := []
theorem graph_name_L0_ok (n : Nat) {W : Wr} (hW : subW W 61 [2, 3, 4, 7, 8, 9, 10, 11, 12, 13, 14, 15, 16, 17, 18, 19, 20, 21, 22, 23, 24, 25, 26, 27, 28, 29, 30, 31, 32, 33, 34, 35, 36, 37, 38, 39, 40, 41, 42, 43, 44, 45, 46, 47, 48, 49, 50, 51, 52] = true) : LEntOK Tryz.prog (bodyOf Tryz.f77) W ⟨[0, 1, 0, 1], [(0, .one (.str)), (6, .one (.int .i64)), (7, .one (.int .i64))], actL2 [(0, .one (.str)), (6, .one (.int .i64)), (7, .one (.int .i64))] [] [(2, .one (.bool))] [2, 3, 4, 7, 8, 9, 10, 11, 12, 13, 14, 15, 16, 17, 18, 19, 20, 21, 22, 23, 24, 25, 26, 27, 28, 29, 30, 31, 32, 33, 34, 35, 36, 37, 38, 39, 40, 41, 42, 43, 44, 45, 46, 47, 48, 49, 50, 51, 52] 0 .ret (fun x => graph_name_L0 n (x.1) (x.2.1) (x.2.2))⟩ :=
  loop2_ok (P := Tryz.prog) (body := (bodyOf Tryz.f77)) (c := child (codeAt (bodyOf Tryz.f77) [0, 1, 0, 1]) 0) (p := [0, 1, 0, 1]) (ls := [(0, .one (.str)), (6, .one (.int .i64)), (7, .one (.int .i64))]) (ms := []) (rs := [(2, .one (.bool))]) (id := 0) (e2 := .ret) (nt := 61) (ws := [2, 3, 4, 7, 8, 9, 10, 11, 12, 13, 14, 15, 16, 17, 18, 19, 20, 21, 22, 23, 24, 25, 26, 27, 28, 29, 30, 31, 32, 33, 34, 35, 36, 37, 38, 39, 40, 41, 42, 43, 44, 45, 46, 47, 48, 49, 50, 51, 52]) (N := 400) (G := (fun n x => graph_name_L0 n (x.1) (x.2.1) (x.2.2))) (T := fun n => ⟨lookC (graph_name_ct n) (graph_name_dt n), lookL (graph_name_L0_lt n), lookJ (graph_name_L0_jt0 n), graph_name_dr⟩)
    (by kernel_rfl) (fun _ => by kernel_rfl) (fun n x => by kernel_rfl) n (fun m hm => (tabs_ok (P := Tryz.prog) (body := (bodyOf Tryz.f77)) (W := (61, some [2, 3, 4, 7, 8, 9, 10, 11, 12, 13, 14, 15, 16, 17, 18, 19, 20, 21, 22, 23, 24, 25, 26, 27, 28, 29, 30, 31, 32, 33, 34, 35, 36, 37, 38, 39, 40, 41, 42, 43, 44, 45, 46, 47, 48, 49, 50, 51, 52])) (cl := graph_name_ct m) (dl := graph_name_dt m) (ll := graph_name_L0_lt m) (dr := graph_name_dr) (fin := (finL2 [(0, .one (.str)), (6, .one (.int .i64)), (7, .one (.int .i64))] [] [(2, .one (.bool))] 0 .ret (fun x => graph_name_L0 m (x.1) (x.2.1) (x.2.2)))) (N := 400) (js := graph_name_L0_jt0 m) AllMo.nil AllOK.nil AllD.nil AllL.nil AllJ.nil)) hW
theorem graph_name_ok (n : Nat) : FnOK Tryz.prog ⟨77, [.one (.str)], [.one (.bool)], fun x => graph_name n (x)⟩ :=
  fn_ok (P := Tryz.prog) (e := ⟨77, [.one (.str)], [.one (.bool)], fun x => graph_name n (x)⟩) (fn := Tryz.f77) (c := (bodyOf Tryz.f77)) (T := ⟨lookC (graph_name_ct n) (graph_name_dt n), lookL (graph_name_lt n), lookJ (graph_name_jt0 n), graph_name_dr⟩) (N := 400) (ps := [(0, .one (.str))])
    (by kernel_rfl) (by kernel_rfl) (by kernel_rfl) (by kernel_rfl) (by kernel_rfl) (tabs_ok (P := Tryz.prog) (body := (bodyOf Tryz.f77)) (W := (61, none)) (cl := graph_name_ct n) (dl := graph_name_dt n) (ll := graph_name_lt n) (dr := graph_name_dr) (fin := (finF Tryz.prog Tryz.f77 [.one (.bool)])) (N := 400) (js := graph_name_jt0 n) AllMo.nil AllOK.nil AllD.nil (AllL.cons (graph_name_L0_ok n (by kernel_rfl)) AllL.nil) AllJ.nil) (fun x => by kernel_rfl)
def graph_scalar (n : Nat) (a0 : Int) (a1 : ByteArray) : M (Bool) :=
  if decide (a0 = 0) then
    M.pure (eqS a1 (ofBytes []))
  else
    if decide (a0 = 1) then
      if eqS a1 (ofBytes [116, 114, 117, 101]) then
        M.pure true
      else
        M.pure (eqS a1 (ofBytes [102, 97, 108, 115, 101]))
    else
      if decide (a0 = 2) then
        M.bind (integer_Valid n a1) fun x0 =>
        M.pure x0
      else
        if decide (a0 = 3) then
          M.fail
        else
          if decide (a0 = 4) then
            M.fail
          else
            if decide (a0 = 5) then
              M.bind (codepoint_Check n a1) fun x0 =>
              M.pure (decide (x0.2 = 0))
            else
              if decide (a0 = 6) then
                M.pure true
              else
                if decide (a0 = 7) then
                  M.fail
                else
                  if decide (a0 = 8) then
                    M.fail
                  else
                    M.pure false
def graph_scalar_dt (n : Nat) : List DEnt := []
def graph_scalar_ct (n : Nat) : List Ent := [⟨97, [.one (.str)], [.one (.bool)], fun x => integer_Valid n (x)⟩,
  ⟨100, [.one (.str)], [.one (.int .i64), .one (.int .i64)], fun x => codepoint_Check n (x)⟩]
def graph_scalar_dr (i : Nat) : Option (List (Nat × List Nat)) := none
def graph_scalar_lt (n : Nat) : List LEnt := []
def graph_scalar_jt0 (n : Nat) : List (JEnt (Bool)) := []
theorem graph_scalar_ok (n : Nat) : FnOK Tryz.prog ⟨78, [.one (.int .i64), .one (.str)], [.one (.bool)], fun x => graph_scalar n (x.1) (x.2)⟩ :=
  fn_ok (P := Tryz.prog) (e := ⟨78, [.one (.int .i64), .one (.str)], [.one (.bool)], fun x => graph_scalar n (x.1) (x.2)⟩) (fn := Tryz.f78) (c := (bodyOf Tryz.f78)) (T := ⟨lookC (graph_scalar_ct n) (graph_scalar_dt n), lookL (graph_scalar_lt n), lookJ (graph_scalar_jt0 n), graph_scalar_dr⟩) (N := 400) (ps := [(0, .one (.int .i64)), (1, .one (.str))])
    (by kernel_rfl) (by kernel_rfl) (by kernel_rfl) (by kernel_rfl) (by kernel_rfl) (tabs_ok (P := Tryz.prog) (body := (bodyOf Tryz.f78)) (W := (64, none)) (cl := graph_scalar_ct n) (dl := graph_scalar_dt n) (ll := graph_scalar_lt n) (dr := graph_scalar_dr) (fin := (finF Tryz.prog Tryz.f78 [.one (.bool)])) (N := 400) (js := graph_scalar_jt0 n) AllMo.nil (AllOK.cons (integer_Valid_ok n) (AllOK.cons (codepoint_Check_ok n) AllOK.nil)) AllD.nil AllL.nil AllJ.nil) (fun x => by kernel_rfl)
def graph_form (n : Nat) (a0 : Int × ByteArray × Bool × Sl × Sl) : M (Bool) :=
  M.bind (newB none T_api_Node [vi a0.1, Value.string a0.2.1, Value.bool a0.2.2.1, vsl a0.2.2.2.1, vsl a0.2.2.2.2]) fun x0 =>
  M.bind (ldL (li) ((adr x0).plus 0)) fun (x1 : Int) =>
  if decide (x1 = 9) then
    M.bind (ldL .str ((adr x0).plus 1)) fun (x2 : ByteArray) =>
    if eqS x2 (ofBytes []) then
      M.bind (ldL .bool ((adr x0).plus 2)) fun (x3 : Bool) =>
      if !x3 then
        M.bind (ldL .sl ((adr x0).plus 3)) fun (x4 : Sl) =>
        M.pure (decide ((↑x4.len : Int) = 0))
      else
        M.pure false
    else
      M.pure false
  else
    if decide (x1 = 10) then
      M.bind (ldL .str ((adr x0).plus 1)) fun (x2 : ByteArray) =>
      if eqS x2 (ofBytes []) then
        M.bind (ldL .sl ((adr x0).plus 3)) fun (x3 : Sl) =>
        M.bind (ldL .sl ((adr x0).plus 4)) fun (x4 : Sl) =>
        M.pure (decide ((↑x3.len : Int) = (↑x4.len : Int)))
      else
        M.pure false
    else
      if decide (x1 = 11) then
        M.bind (ldL .str ((adr x0).plus 1)) fun (x2 : ByteArray) =>
        M.bind (graph_name n x2) fun x3 =>
        if x3 then
          M.bind (ldL .bool ((adr x0).plus 2)) fun (x4 : Bool) =>
          if !x4 then
            M.bind (ldL .sl ((adr x0).plus 3)) fun (x5 : Sl) =>
            if decide ((↑x5.len : Int) = 0) then
              M.bind (ldL .sl ((adr x0).plus 4)) fun (x6 : Sl) =>
              M.pure (decide ((↑x6.len : Int) = 1))
            else
              M.pure false
          else
            M.pure false
        else
          M.pure false
      else
        M.bind (ldL .bool ((adr x0).plus 2)) fun (x2 : Bool) =>
        if !x2 then
          M.bind (ldL .sl ((adr x0).plus 3)) fun (x3 : Sl) =>
          if decide ((↑x3.len : Int) = 0) then
            M.bind (ldL .sl ((adr x0).plus 4)) fun (x4 : Sl) =>
            if decide ((↑x4.len : Int) = 0) then
              M.bind (ldL (li) ((adr x0).plus 0)) fun (x5 : Int) =>
              M.bind (ldL .str ((adr x0).plus 1)) fun (x6 : ByteArray) =>
              M.bind (graph_scalar n x5 x6) fun x7 =>
              M.pure x7
            else
              M.pure false
          else
            M.pure false
        else
          M.pure false
def graph_form_dt (n : Nat) : List DEnt := []
def graph_form_ct (n : Nat) : List Ent := [⟨77, [.one (.str)], [.one (.bool)], fun x => graph_name n (x)⟩,
  ⟨78, [.one (.int .i64), .one (.str)], [.one (.bool)], fun x => graph_scalar n (x.1) (x.2)⟩]
def graph_form_dr (i : Nat) : Option (List (Nat × List Nat)) := none
def graph_form_lt (n : Nat) : List LEnt := []
def graph_form_jt0 (n : Nat) : List (JEnt (Bool)) := []
theorem graph_form_ok (n : Nat) : FnOK Tryz.prog ⟨44, [.agg [.int .i64, .str, .bool, .sl, .sl]], [.one (.bool)], fun x => graph_form n (x)⟩ :=
  fn_ok (P := Tryz.prog) (e := ⟨44, [.agg [.int .i64, .str, .bool, .sl, .sl]], [.one (.bool)], fun x => graph_form n (x)⟩) (fn := Tryz.f44) (c := (bodyOf Tryz.f44)) (T := ⟨lookC (graph_form_ct n) (graph_form_dt n), lookL (graph_form_lt n), lookJ (graph_form_jt0 n), graph_form_dr⟩) (N := 400) (ps := [(0, .agg [.int .i64, .str, .bool, .sl, .sl])])
    (by kernel_rfl) (by kernel_rfl) (by kernel_rfl) (by kernel_rfl) (by kernel_rfl) (tabs_ok (P := Tryz.prog) (body := (bodyOf Tryz.f44)) (W := (79, none)) (cl := graph_form_ct n) (dl := graph_form_dt n) (ll := graph_form_lt n) (dr := graph_form_dr) (fin := (finF Tryz.prog Tryz.f44 [.one (.bool)])) (N := 400) (js := graph_form_jt0 n) AllMo.nil (AllOK.cons (graph_name_ok n) (AllOK.cons (graph_scalar_ok n) AllOK.nil)) AllD.nil AllL.nil AllJ.nil) (fun x => by kernel_rfl)
def graph_counts_L1_B (G : Sl → Addr → Sl → Int → Int → Sl → Int → Int → M (Unit)) (n : Nat) (a0 : Sl) (a1 : Addr) (a2 : Sl) (a3 : Int) (a4 : Int) (a5 : Sl) (a6 : Int) (a7 : Int) : M (Unit) :=
  if decide (a7 < a6) then
    M.bind (idxA a5 a7 1) fun x0 =>
    M.bind (ldL (li) x0) fun (x1 : Int) =>
    M.bind (idxA a0 x1 1) fun x2 =>
    M.bind (ldL (li) x2) fun (x3 : Int) =>
    M.bind (idxA a0 x1 1) fun x4 =>
    M.bind (stN x4 [vi (IntKind.i64.wrap (x3 + 1))]) fun x5 =>
    G a0 a1 a2 a3 a4 a5 a6 (IntKind.i64.wrap (a7 + 1))
  else
    M.pure ()
def graph_counts_L1 : Nat → Sl → Addr → Sl → Int → Int → Sl → Int → Int → M (Unit)
  | 0 => fun _ _ _ _ _ _ _ _ => M.fail
  | n + 1 => graph_counts_L1_B (graph_counts_L1 n) n
theorem graph_counts_L1_succ (n : Nat) : graph_counts_L1 (n + 1) = graph_counts_L1_B (graph_counts_L1 n) n := rfl
def graph_counts_L2_B (G : Sl → Sl → Int → Int → Sl → Int → Int → M (Unit)) (n : Nat) (a0 : Sl) (a1 : Sl) (a2 : Int) (a3 : Int) (a4 : Sl) (a5 : Int) (a6 : Int) : M (Unit) :=
  if decide (a6 < a5) then
    M.bind (idxA a4 a6 1) fun x0 =>
    M.bind (ldL (li) x0) fun (x1 : Int) =>
    M.bind (idxA a0 x1 1) fun x2 =>
    M.bind (ldL (li) x2) fun (x3 : Int) =>
    M.bind (idxA a0 x1 1) fun x4 =>
    M.bind (stN x4 [vi (IntKind.i64.wrap (x3 + 1))]) fun x5 =>
    G a0 a1 a2 a3 a4 a5 (IntKind.i64.wrap (a6 + 1))
  else
    M.pure ()
def graph_counts_L2 : Nat → Sl → Sl → Int → Int → Sl → Int → Int → M (Unit)
  | 0 => fun _ _ _ _ _ _ _ => M.fail
  | n + 1 => graph_counts_L2_B (graph_counts_L2 n) n
theorem graph_counts_L2_succ (n : Nat) : graph_counts_L2 (n + 1) = graph_counts_L2_B (graph_counts_L2 n) n := rfl
def graph_counts_L0_B (G : Sl → Sl → Int → Int → M (Unit)) (n : Nat) (a0 : Sl) (a1 : Sl) (a2 : Int) (a3 : Int) : M (Unit) :=
  if decide (a3 < a2) then
    M.bind (idxA a1 a3 5) fun x0 =>
    M.bind (ldLs [li, .str, .bool, .sl, .sl] x0) fun (x1 : Int × ByteArray × Bool × Sl × Sl) =>
    M.bind (newB none T_api_Node [vi 0, Value.string (ofBytes []), Value.bool false, vsl0, vsl0]) fun x2 =>
    M.bind (stN (adr x2) [vi x1.1, Value.string x1.2.1, Value.bool x1.2.2.1, vsl x1.2.2.2.1, vsl x1.2.2.2.2]) fun x3 =>
    M.bind (ldL .sl ((adr x2).plus 3)) fun (x4 : Sl) =>
    M.bind (graph_counts_L1 n a0 (adr x2) a1 a2 a3 x4 (↑x4.len : Int) 0) fun x5 =>
    M.bind (ldL .sl ((adr x2).plus 4)) fun (x6 : Sl) =>
    M.bind (graph_counts_L2 n a0 a1 a2 a3 x6 (↑x6.len : Int) 0) fun x7 =>
    G a0 a1 a2 (IntKind.i64.wrap (a3 + 1))
  else
    M.pure ()
def graph_counts_L0 : Nat → Sl → Sl → Int → Int → M (Unit)
  | 0 => fun _ _ _ _ => M.fail
  | n + 1 => graph_counts_L0_B (graph_counts_L0 n) n
theorem graph_counts_L0_succ (n : Nat) : graph_counts_L0 (n + 1) = graph_counts_L0_B (graph_counts_L0 n) n := rfl
def graph_counts (n : Nat) (a0 : Sl × Int) : M (Sl) :=
  M.bind (newB none T_api_Graph [vsl a0.1, vi a0.2]) fun x0 =>
  M.bind (ldL .sl ((adr x0).plus 0)) fun (x1 : Sl) =>
  M.bind (mkS none T_i64 [vi 0] (↑x1.len : Int) (↑x1.len : Int)) fun x2 =>
  M.bind (ldL (li) ((adr x0).plus 1)) fun (x3 : Int) =>
  M.bind (idxA x2 x3 1) fun x4 =>
  M.bind (ldL (li) x4) fun (x5 : Int) =>
  M.bind (idxA x2 x3 1) fun x6 =>
  M.bind (stN x6 [vi (IntKind.i64.wrap (x5 + 1))]) fun x7 =>
  M.bind (ldL .sl ((adr x0).plus 0)) fun (x8 : Sl) =>
  M.bind (graph_counts_L0 n x2 x8 (↑x8.len : Int) 0) fun x9 =>
  M.pure x2
def graph_counts_dt (n : Nat) : List DEnt := []
def graph_counts_ct (n : Nat) : List Ent := []
def graph_counts_dr (i : Nat) : Option (List (Nat × List Nat)) := none
def graph_counts_L1_lt (n : Nat) : List LEnt := []
def graph_counts_L1_jt0 (n : Nat) : List (JEnt (Unit)) := []
def graph_counts_L2_lt (n : Nat) : List LEnt := []
def graph_counts_L2_jt0 (n : Nat) : List (JEnt (Unit)) := []
def graph_counts_L0_lt (n : Nat) : List LEnt := [⟨[0, 1, 0, 1, 0, 0, 1, 1, 0, 0, 1, 0, 1, 1, 1], [(3, .one (.sl)), (5, .one (.adr)), (22, .one (.sl)), (23, .one (.int .i64)), (24, .one (.int .i64)), (29, .one (.sl)), (30, .one (.int .i64)), (31, .one (.int .i64))], actL1 [(3, .one (.sl)), (5, .one (.adr)), (22, .one (.sl)), (23, .one (.int .i64)), (24, .one (.int .i64)), (29, .one (.sl)), (30, .one (.int .i64)), (31, .one (.int .i64))] [] [7, 31, 32, 33, 34, 35, 36, 37, 38, 39, 40, 41] 2 (fun x => graph_counts_L1 n (x.1) (x.2.1) (x.2.2.1) (x.2.2.2.1) (x.2.2.2.2.1) (x.2.2.2.2.2.1) (x.2.2.2.2.2.2.1) (x.2.2.2.2.2.2.2))⟩,
  ⟨[0, 1, 1, 1, 0, 0, 1, 1, 0, 0, 1, 0, 1, 1, 1], [(3, .one (.sl)), (22, .one (.sl)), (23, .one (.int .i64)), (24, .one (.int .i64)), (43, .one (.sl)), (44, .one (.int .i64)), (45, .one (.int .i64))], actL1 [(3, .one (.sl)), (22, .one (.sl)), (23, .one (.int .i64)), (24, .one (.int .i64)), (43, .one (.sl)), (44, .one (.int .i64)), (45, .one (.int .i64))] [] [9, 45, 46, 47, 48, 49, 50, 51, 52, 53, 54, 55] 4 (fun x => graph_counts_L2 n (x.1) (x.2.1) (x.2.2.1) (x.2.2.2.1) (x.2.2.2.2.1) (x.2.2.2.2.2.1) (x.2.2.2.2.2.2))⟩]
def graph_counts_L0_jt0 (n : Nat) : List (JEnt (Unit)) := []
def graph_counts_lt (n : Nat) : List LEnt := [⟨[0, 1, 0, 1, 1, 1], [(3, .one (.sl)), (22, .one (.sl)), (23, .one (.int .i64)), (24, .one (.int .i64))], actL1 [(3, .one (.sl)), (22, .one (.sl)), (23, .one (.int .i64)), (24, .one (.int .i64))] [] [5, 7, 9, 24, 25, 26, 27, 28, 29, 30, 31, 32, 33, 34, 35, 36, 37, 38, 39, 40, 41, 42, 43, 44, 45, 46, 47, 48, 49, 50, 51, 52, 53, 54, 55, 56] 0 (fun x => graph_counts_L0 n (x.1) (x.2.1) (x.2.2.1) (x.2.2.2))⟩]
def graph_counts_jt0 (n : Nat) : List (JEnt (Sl)) := []
theorem graph_counts_L1_ok (n : Nat) {W : Wr} (hW : subW W 58 [7, 31, 32, 33, 34, 35, 36, 37, 38, 39, 40, 41] = true) : LEntOK Tryz.prog (bodyOf Tryz.f45) W ⟨[0, 1, 0, 1, 0, 0, 1, 1, 0, 0, 1, 0, 1, 1, 1], [(3, .one (.sl)), (5, .one (.adr)), (22, .one (.sl)), (23, .one (.int .i64)), (24, .one (.int .i64)), (29, .one (.sl)), (30, .one (.int .i64)), (31, .one (.int .i64))], actL1 [(3, .one (.sl)), (5, .one (.adr)), (22, .one (.sl)), (23, .one (.int .i64)), (24, .one (.int .i64)), (29, .one (.sl)), (30, .one (.int .i64)), (31, .one (.int .i64))] [] [7, 31, 32, 33, 34, 35, 36, 37, 38, 39, 40, 41] 2 (fun x => graph_counts_L1 n (x.1) (x.2.1) (x.2.2.1) (x.2.2.2.1) (x.2.2.2.2.1) (x.2.2.2.2.2.1) (x.2.2.2.2.2.2.1) (x.2.2.2.2.2.2.2))⟩ :=
  loop1_ok (P := Tryz.prog) (body := (bodyOf Tryz.f45)) (c := child (codeAt (bodyOf Tryz.f45) [0, 1, 0, 1, 0, 0, 1, 1, 0, 0, 1, 0, 1, 1, 1]) 0) (p := [0, 1, 0, 1, 0, 0, 1, 1, 0, 0, 1, 0, 1, 1, 1]) (ls := [(3, .one (.sl)), (5, .one (.adr)), (22, .one (.sl)), (23, .one (.int .i64)), (24, .one (.int .i64)), (29, .one (.sl)), (30, .one (.int .i64)), (31, .one (.int .i64))]) (ms := []) (id := 2) (nt := 58) (ws := [7, 31, 32, 33, 34, 35, 36, 37, 38, 39, 40, 41]) (N := 400) (G := (fun n x => graph_counts_L1 n (x.1) (x.2.1) (x.2.2.1) (x.2.2.2.1) (x.2.2.2.2.1) (x.2.2.2.2.2.1) (x.2.2.2.2.2.2.1) (x.2.2.2.2.2.2.2))) (T := fun n => ⟨lookC (graph_counts_ct n) (graph_counts_dt n), lookL (graph_counts_L1_lt n), lookJ (graph_counts_L1_jt0 n), graph_counts_dr⟩)
    (by kernel_rfl) (fun _ => by kernel_rfl) (fun n x => by kernel_rfl) n (fun m hm => (tabs_ok (P := Tryz.prog) (body := (bodyOf Tryz.f45)) (W := (58, some [7, 31, 32, 33, 34, 35, 36, 37, 38, 39, 40, 41])) (cl := graph_counts_ct m) (dl := graph_counts_dt m) (ll := graph_counts_L1_lt m) (dr := graph_counts_dr) (fin := (finL1 [(3, .one (.sl)), (5, .one (.adr)), (22, .one (.sl)), (23, .one (.int .i64)), (24, .one (.int .i64)), (29, .one (.sl)), (30, .one (.int .i64)), (31, .one (.int .i64))] [] 2 (fun x => graph_counts_L1 m (x.1) (x.2.1) (x.2.2.1) (x.2.2.2.1) (x.2.2.2.2.1) (x.2.2.2.2.2.1) (x.2.2.2.2.2.2.1) (x.2.2.2.2.2.2.2)))) (N := 400) (js := graph_counts_L1_jt0 m) AllMo.nil AllOK.nil AllD.nil AllL.nil AllJ.nil)) hW
theorem graph_counts_L2_ok (n : Nat) {W : Wr} (hW : subW W 58 [9, 45, 46, 47, 48, 49, 50, 51, 52, 53, 54, 55] = true) : LEntOK Tryz.prog (bodyOf Tryz.f45) W ⟨[0, 1, 1, 1, 0, 0, 1, 1, 0, 0, 1, 0, 1, 1, 1], [(3, .one (.sl)), (22, .one (.sl)), (23, .one (.int .i64)), (24, .one (.int .i64)), (43, .one (.sl)), (44, .one (.int .i64)), (45, .one (.int .i64))], actL1 [(3, .one (.sl)), (22, .one (.sl)), (23, .one (.int .i64)), (24, .one (.int .i64)), (43, .one (.sl)), (44, .one (.int .i64)), (45, .one (.int .i64))] [] [9, 45, 46, 47, 48, 49, 50, 51, 52, 53, 54, 55] 4 (fun x => graph_counts_L2 n (x.1) (x.2.1) (x.2.2.1) (x.2.2.2.1) (x.2.2.2.2.1) (x.2.2.2.2.2.1) (x.2.2.2.2.2.2))⟩ :=
  loop1_ok (P := Tryz.prog) (body := (bodyOf Tryz.f45)) (c := child (codeAt (bodyOf Tryz.f45) [0, 1, 1, 1, 0, 0, 1, 1, 0, 0, 1, 0, 1, 1, 1]) 0) (p := [0, 1, 1, 1, 0, 0, 1, 1, 0, 0, 1, 0, 1, 1, 1]) (ls := [(3, .one (.sl)), (22, .one (.sl)), (23, .one (.int .i64)), (24, .one (.int .i64)), (43, .one (.sl)), (44, .one (.int .i64)), (45, .one (.int .i64))]) (ms := []) (id := 4) (nt := 58) (ws := [9, 45, 46, 47, 48, 49, 50, 51, 52, 53, 54, 55]) (N := 400) (G := (fun n x => graph_counts_L2 n (x.1) (x.2.1) (x.2.2.1) (x.2.2.2.1) (x.2.2.2.2.1) (x.2.2.2.2.2.1) (x.2.2.2.2.2.2))) (T := fun n => ⟨lookC (graph_counts_ct n) (graph_counts_dt n), lookL (graph_counts_L2_lt n), lookJ (graph_counts_L2_jt0 n), graph_counts_dr⟩)
    (by kernel_rfl) (fun _ => by kernel_rfl) (fun n x => by kernel_rfl) n (fun m hm => (tabs_ok (P := Tryz.prog) (body := (bodyOf Tryz.f45)) (W := (58, some [9, 45, 46, 47, 48, 49, 50, 51, 52, 53, 54, 55])) (cl := graph_counts_ct m) (dl := graph_counts_dt m) (ll := graph_counts_L2_lt m) (dr := graph_counts_dr) (fin := (finL1 [(3, .one (.sl)), (22, .one (.sl)), (23, .one (.int .i64)), (24, .one (.int .i64)), (43, .one (.sl)), (44, .one (.int .i64)), (45, .one (.int .i64))] [] 4 (fun x => graph_counts_L2 m (x.1) (x.2.1) (x.2.2.1) (x.2.2.2.1) (x.2.2.2.2.1) (x.2.2.2.2.2.1) (x.2.2.2.2.2.2)))) (N := 400) (js := graph_counts_L2_jt0 m) AllMo.nil AllOK.nil AllD.nil AllL.nil AllJ.nil)) hW
theorem graph_counts_L0_ok (n : Nat) {W : Wr} (hW : subW W 58 [5, 7, 9, 24, 25, 26, 27, 28, 29, 30, 31, 32, 33, 34, 35, 36, 37, 38, 39, 40, 41, 42, 43, 44, 45, 46, 47, 48, 49, 50, 51, 52, 53, 54, 55, 56] = true) : LEntOK Tryz.prog (bodyOf Tryz.f45) W ⟨[0, 1, 0, 1, 1, 1], [(3, .one (.sl)), (22, .one (.sl)), (23, .one (.int .i64)), (24, .one (.int .i64))], actL1 [(3, .one (.sl)), (22, .one (.sl)), (23, .one (.int .i64)), (24, .one (.int .i64))] [] [5, 7, 9, 24, 25, 26, 27, 28, 29, 30, 31, 32, 33, 34, 35, 36, 37, 38, 39, 40, 41, 42, 43, 44, 45, 46, 47, 48, 49, 50, 51, 52, 53, 54, 55, 56] 0 (fun x => graph_counts_L0 n (x.1) (x.2.1) (x.2.2.1) (x.2.2.2))⟩ :=
  loop1_ok (P := Tryz.prog) (body := (bodyOf Tryz.f45)) (c := child (codeAt (bodyOf Tryz.f45) [0, 1, 0, 1, 1, 1]) 0) (p := [0, 1, 0, 1, 1, 1]) (ls := [(3, .one (.sl)), (22, .one (.sl)), (23, .one (.int .i64)), (24, .one (.int .i64))]) (ms := []) (id := 0) (nt := 58) (ws := [5, 7, 9, 24, 25, 26, 27, 28, 29, 30, 31, 32, 33, 34, 35, 36, 37, 38, 39, 40, 41, 42, 43, 44, 45, 46, 47, 48, 49, 50, 51, 52, 53, 54, 55, 56]) (N := 400) (G := (fun n x => graph_counts_L0 n (x.1) (x.2.1) (x.2.2.1) (x.2.2.2))) (T := fun n => ⟨lookC (graph_counts_ct n) (graph_counts_dt n), lookL (graph_counts_L0_lt n), lookJ (graph_counts_L0_jt0 n), graph_counts_dr⟩)
    (by kernel_rfl) (fun _ => by kernel_rfl) (fun n x => by kernel_rfl) n (fun m hm => (tabs_ok (P := Tryz.prog) (body := (bodyOf Tryz.f45)) (W := (58, some [5, 7, 9, 24, 25, 26, 27, 28, 29, 30, 31, 32, 33, 34, 35, 36, 37, 38, 39, 40, 41, 42, 43, 44, 45, 46, 47, 48, 49, 50, 51, 52, 53, 54, 55, 56])) (cl := graph_counts_ct m) (dl := graph_counts_dt m) (ll := graph_counts_L0_lt m) (dr := graph_counts_dr) (fin := (finL1 [(3, .one (.sl)), (22, .one (.sl)), (23, .one (.int .i64)), (24, .one (.int .i64))] [] 0 (fun x => graph_counts_L0 m (x.1) (x.2.1) (x.2.2.1) (x.2.2.2)))) (N := 400) (js := graph_counts_L0_jt0 m) AllMo.nil AllOK.nil AllD.nil (AllL.cons (graph_counts_L1_ok m (by kernel_rfl)) (AllL.cons (graph_counts_L2_ok m (by kernel_rfl)) AllL.nil)) AllJ.nil)) hW
theorem graph_counts_ok (n : Nat) : FnOK Tryz.prog ⟨45, [.agg [.sl, .int .i64]], [.one (.sl)], fun x => graph_counts n (x)⟩ :=
  fn_ok (P := Tryz.prog) (e := ⟨45, [.agg [.sl, .int .i64]], [.one (.sl)], fun x => graph_counts n (x)⟩) (fn := Tryz.f45) (c := (bodyOf Tryz.f45)) (T := ⟨lookC (graph_counts_ct n) (graph_counts_dt n), lookL (graph_counts_lt n), lookJ (graph_counts_jt0 n), graph_counts_dr⟩) (N := 400) (ps := [(0, .agg [.sl, .int .i64])])
    (by kernel_rfl) (by kernel_rfl) (by kernel_rfl) (by kernel_rfl) (by kernel_rfl) (tabs_ok (P := Tryz.prog) (body := (bodyOf Tryz.f45)) (W := (58, none)) (cl := graph_counts_ct n) (dl := graph_counts_dt n) (ll := graph_counts_lt n) (dr := graph_counts_dr) (fin := (finF Tryz.prog Tryz.f45 [.one (.sl)])) (N := 400) (js := graph_counts_jt0 n) AllMo.nil AllOK.nil AllD.nil (AllL.cons (graph_counts_L0_ok n (by kernel_rfl)) AllL.nil) AllJ.nil) (fun x => by kernel_rfl)
def graph_inKeys_L1_B (G : Addr → Sl → Sl → Int → Int → Sl → Int → Int → M (Unit)) (n : Nat) (a0 : Addr) (a1 : Sl) (a2 : Sl) (a3 : Int) (a4 : Int) (a5 : Sl) (a6 : Int) (a7 : Int) : M (Unit) :=
  if decide (a7 < a6) then
    M.bind (idxA a5 a7 1) fun x0 =>
    M.bind (ldL (li) x0) fun (x1 : Int) =>
    M.bind (ldLs [.sl, li] a0) fun (x2 : Sl × Int) =>
    M.bind (graph_reached n (x2.1, x2.2) x1 a1) fun x3 =>
    G a0 a1 a2 a3 a4 a5 a6 (IntKind.i64.wrap (a7 + 1))
  else
    M.pure ()
def graph_inKeys_L1 : Nat → Addr → Sl → Sl → Int → Int → Sl → Int → Int → M (Unit)
  | 0 => fun _ _ _ _ _ _ _ _ => M.fail
  | n + 1 => graph_inKeys_L1_B (graph_inKeys_L1 n) n
theorem graph_inKeys_L1_succ (n : Nat) : graph_inKeys_L1 (n + 1) = graph_inKeys_L1_B (graph_inKeys_L1 n) n := rfl
def graph_inKeys_L0_B (G : Addr → Sl → Sl → Int → Int → M (Unit)) (n : Nat) (a0 : Addr) (a1 : Sl) (a2 : Sl) (a3 : Int) (a4 : Int) : M (Unit) :=
  if decide (a4 < a3) then
    M.bind (idxA a2 a4 5) fun x0 =>
    M.bind (ldLs [li, .str, .bool, .sl, .sl] x0) fun (x1 : Int × ByteArray × Bool × Sl × Sl) =>
    M.bind (newB none T_api_Node [vi 0, Value.string (ofBytes []), Value.bool false, vsl0, vsl0]) fun x2 =>
    M.bind (stN (adr x2) [vi x1.1, Value.string x1.2.1, Value.bool x1.2.2.1, vsl x1.2.2.2.1, vsl x1.2.2.2.2]) fun x3 =>
    M.bind (ldL .sl ((adr x2).plus 3)) fun (x4 : Sl) =>
    M.bind (graph_inKeys_L1 n a0 a1 a2 a3 a4 x4 (↑x4.len : Int) 0) fun x5 =>
    G a0 a1 a2 a3 (IntKind.i64.wrap (a4 + 1))
  else
    M.pure ()
def graph_inKeys_L0 : Nat → Addr → Sl → Sl → Int → Int → M (Unit)
  | 0 => fun _ _ _ _ _ => M.fail
  | n + 1 => graph_inKeys_L0_B (graph_inKeys_L0 n) n
theorem graph_inKeys_L0_succ (n : Nat) : graph_inKeys_L0 (n + 1) = graph_inKeys_L0_B (graph_inKeys_L0 n) n := rfl
def graph_inKeys (n : Nat) (a0 : Sl × Int) : M (Sl) :=
  M.bind (newB none T_api_Graph [vsl a0.1, vi a0.2]) fun x0 =>
  M.bind (ldL .sl ((adr x0).plus 0)) fun (x1 : Sl) =>
  M.bind (mkS none T_bool [Value.bool false] (↑x1.len : Int) (↑x1.len : Int)) fun x2 =>
  M.bind (ldL .sl ((adr x0).plus 0)) fun (x3 : Sl) =>
  M.bind (graph_inKeys_L0 n (adr x0) x2 x3 (↑x3.len : Int) 0) fun x4 =>
  M.pure x2
def graph_inKeys_dt (n : Nat) : List DEnt := []
def graph_inKeys_ct (n : Nat) : List Ent := [⟨43, [.agg [.sl, .int .i64], .one (.int .i64), .one (.sl)], [], fun x => graph_reached n (x.1) (x.2.1) (x.2.2)⟩]
def graph_inKeys_dr (i : Nat) : Option (List (Nat × List Nat)) := none
def graph_inKeys_L1_lt (n : Nat) : List LEnt := []
def graph_inKeys_L1_jt0 (n : Nat) : List (JEnt (Unit)) := []
def graph_inKeys_L0_lt (n : Nat) : List LEnt := [⟨[0, 1, 1, 0, 0, 1, 1, 0, 0, 1, 0, 1, 1], [(1, .one (.adr)), (3, .one (.sl)), (13, .one (.sl)), (14, .one (.int .i64)), (15, .one (.int .i64)), (20, .one (.sl)), (21, .one (.int .i64)), (22, .one (.int .i64))], actL1 [(1, .one (.adr)), (3, .one (.sl)), (13, .one (.sl)), (14, .one (.int .i64)), (15, .one (.int .i64)), (20, .one (.sl)), (21, .one (.int .i64)), (22, .one (.int .i64))] [] [7, 22, 23, 24, 25, 26, 27, 28, 29, 30] 2 (fun x => graph_inKeys_L1 n (x.1) (x.2.1) (x.2.2.1) (x.2.2.2.1) (x.2.2.2.2.1) (x.2.2.2.2.2.1) (x.2.2.2.2.2.2.1) (x.2.2.2.2.2.2.2))⟩]
def graph_inKeys_L0_jt0 (n : Nat) : List (JEnt (Unit)) := []
def graph_inKeys_lt (n : Nat) : List LEnt := [⟨[0, 1, 0, 1, 1], [(1, .one (.adr)), (3, .one (.sl)), (13, .one (.sl)), (14, .one (.int .i64)), (15, .one (.int .i64))], actL1 [(1, .one (.adr)), (3, .one (.sl)), (13, .one (.sl)), (14, .one (.int .i64)), (15, .one (.int .i64))] [] [5, 7, 15, 16, 17, 18, 19, 20, 21, 22, 23, 24, 25, 26, 27, 28, 29, 30, 31] 0 (fun x => graph_inKeys_L0 n (x.1) (x.2.1) (x.2.2.1) (x.2.2.2.1) (x.2.2.2.2))⟩]
def graph_inKeys_jt0 (n : Nat) : List (JEnt (Sl)) := []
theorem graph_inKeys_L1_ok (n : Nat) {W : Wr} (hW : subW W 33 [7, 22, 23, 24, 25, 26, 27, 28, 29, 30] = true) : LEntOK Tryz.prog (bodyOf Tryz.f46) W ⟨[0, 1, 1, 0, 0, 1, 1, 0, 0, 1, 0, 1, 1], [(1, .one (.adr)), (3, .one (.sl)), (13, .one (.sl)), (14, .one (.int .i64)), (15, .one (.int .i64)), (20, .one (.sl)), (21, .one (.int .i64)), (22, .one (.int .i64))], actL1 [(1, .one (.adr)), (3, .one (.sl)), (13, .one (.sl)), (14, .one (.int .i64)), (15, .one (.int .i64)), (20, .one (.sl)), (21, .one (.int .i64)), (22, .one (.int .i64))] [] [7, 22, 23, 24, 25, 26, 27, 28, 29, 30] 2 (fun x => graph_inKeys_L1 n (x.1) (x.2.1) (x.2.2.1) (x.2.2.2.1) (x.2.2.2.2.1) (x.2.2.2.2.2.1) (x.2.2.2.2.2.2.1) (x.2.2.2.2.2.2.2))⟩ :=
  loop1_ok (P := Tryz.prog) (body := (bodyOf Tryz.f46)) (c := child (codeAt (bodyOf Tryz.f46) [0, 1, 1, 0, 0, 1, 1, 0, 0, 1, 0, 1, 1]) 0) (p := [0, 1, 1, 0, 0, 1, 1, 0, 0, 1, 0, 1, 1]) (ls := [(1, .one (.adr)), (3, .one (.sl)), (13, .one (.sl)), (14, .one (.int .i64)), (15, .one (.int .i64)), (20, .one (.sl)), (21, .one (.int .i64)), (22, .one (.int .i64))]) (ms := []) (id := 2) (nt := 33) (ws := [7, 22, 23, 24, 25, 26, 27, 28, 29, 30]) (N := 400) (G := (fun n x => graph_inKeys_L1 n (x.1) (x.2.1) (x.2.2.1) (x.2.2.2.1) (x.2.2.2.2.1) (x.2.2.2.2.2.1) (x.2.2.2.2.2.2.1) (x.2.2.2.2.2.2.2))) (T := fun n => ⟨lookC (graph_inKeys_ct n) (graph_inKeys_dt n), lookL (graph_inKeys_L1_lt n), lookJ (graph_inKeys_L1_jt0 n), graph_inKeys_dr⟩)
    (by kernel_rfl) (fun _ => by kernel_rfl) (fun n x => by kernel_rfl) n (fun m hm => (tabs_ok (P := Tryz.prog) (body := (bodyOf Tryz.f46)) (W := (33, some [7, 22, 23, 24, 25, 26, 27, 28, 29, 30])) (cl := graph_inKeys_ct m) (dl := graph_inKeys_dt m) (ll := graph_inKeys_L1_lt m) (dr := graph_inKeys_dr) (fin := (finL1 [(1, .one (.adr)), (3, .one (.sl)), (13, .one (.sl)), (14, .one (.int .i64)), (15, .one (.int .i64)), (20, .one (.sl)), (21, .one (.int .i64)), (22, .one (.int .i64))] [] 2 (fun x => graph_inKeys_L1 m (x.1) (x.2.1) (x.2.2.1) (x.2.2.2.1) (x.2.2.2.2.1) (x.2.2.2.2.2.1) (x.2.2.2.2.2.2.1) (x.2.2.2.2.2.2.2)))) (N := 400) (js := graph_inKeys_L1_jt0 m) AllMo.nil (AllOK.cons (graph_reached_ok m) AllOK.nil) AllD.nil AllL.nil AllJ.nil)) hW
theorem graph_inKeys_L0_ok (n : Nat) {W : Wr} (hW : subW W 33 [5, 7, 15, 16, 17, 18, 19, 20, 21, 22, 23, 24, 25, 26, 27, 28, 29, 30, 31] = true) : LEntOK Tryz.prog (bodyOf Tryz.f46) W ⟨[0, 1, 0, 1, 1], [(1, .one (.adr)), (3, .one (.sl)), (13, .one (.sl)), (14, .one (.int .i64)), (15, .one (.int .i64))], actL1 [(1, .one (.adr)), (3, .one (.sl)), (13, .one (.sl)), (14, .one (.int .i64)), (15, .one (.int .i64))] [] [5, 7, 15, 16, 17, 18, 19, 20, 21, 22, 23, 24, 25, 26, 27, 28, 29, 30, 31] 0 (fun x => graph_inKeys_L0 n (x.1) (x.2.1) (x.2.2.1) (x.2.2.2.1) (x.2.2.2.2))⟩ :=
  loop1_ok (P := Tryz.prog) (body := (bodyOf Tryz.f46)) (c := child (codeAt (bodyOf Tryz.f46) [0, 1, 0, 1, 1]) 0) (p := [0, 1, 0, 1, 1]) (ls := [(1, .one (.adr)), (3, .one (.sl)), (13, .one (.sl)), (14, .one (.int .i64)), (15, .one (.int .i64))]) (ms := []) (id := 0) (nt := 33) (ws := [5, 7, 15, 16, 17, 18, 19, 20, 21, 22, 23, 24, 25, 26, 27, 28, 29, 30, 31]) (N := 400) (G := (fun n x => graph_inKeys_L0 n (x.1) (x.2.1) (x.2.2.1) (x.2.2.2.1) (x.2.2.2.2))) (T := fun n => ⟨lookC (graph_inKeys_ct n) (graph_inKeys_dt n), lookL (graph_inKeys_L0_lt n), lookJ (graph_inKeys_L0_jt0 n), graph_inKeys_dr⟩)
    (by kernel_rfl) (fun _ => by kernel_rfl) (fun n x => by kernel_rfl) n (fun m hm => (tabs_ok (P := Tryz.prog) (body := (bodyOf Tryz.f46)) (W := (33, some [5, 7, 15, 16, 17, 18, 19, 20, 21, 22, 23, 24, 25, 26, 27, 28, 29, 30, 31])) (cl := graph_inKeys_ct m) (dl := graph_inKeys_dt m) (ll := graph_inKeys_L0_lt m) (dr := graph_inKeys_dr) (fin := (finL1 [(1, .one (.adr)), (3, .one (.sl)), (13, .one (.sl)), (14, .one (.int .i64)), (15, .one (.int .i64))] [] 0 (fun x => graph_inKeys_L0 m (x.1) (x.2.1) (x.2.2.1) (x.2.2.2.1) (x.2.2.2.2)))) (N := 400) (js := graph_inKeys_L0_jt0 m) AllMo.nil (AllOK.cons (graph_reached_ok m) AllOK.nil) AllD.nil (AllL.cons (graph_inKeys_L1_ok m (by kernel_rfl)) AllL.nil) AllJ.nil)) hW
theorem graph_inKeys_ok (n : Nat) : FnOK Tryz.prog ⟨46, [.agg [.sl, .int .i64]], [.one (.sl)], fun x => graph_inKeys n (x)⟩ :=
  fn_ok (P := Tryz.prog) (e := ⟨46, [.agg [.sl, .int .i64]], [.one (.sl)], fun x => graph_inKeys n (x)⟩) (fn := Tryz.f46) (c := (bodyOf Tryz.f46)) (T := ⟨lookC (graph_inKeys_ct n) (graph_inKeys_dt n), lookL (graph_inKeys_lt n), lookJ (graph_inKeys_jt0 n), graph_inKeys_dr⟩) (N := 400) (ps := [(0, .agg [.sl, .int .i64])])
    (by kernel_rfl) (by kernel_rfl) (by kernel_rfl) (by kernel_rfl) (by kernel_rfl) (tabs_ok (P := Tryz.prog) (body := (bodyOf Tryz.f46)) (W := (33, none)) (cl := graph_inKeys_ct n) (dl := graph_inKeys_dt n) (ll := graph_inKeys_lt n) (dr := graph_inKeys_dr) (fin := (finF Tryz.prog Tryz.f46 [.one (.sl)])) (N := 400) (js := graph_inKeys_jt0 n) AllMo.nil (AllOK.cons (graph_reached_ok n) AllOK.nil) AllD.nil (AllL.cons (graph_inKeys_L0_ok n (by kernel_rfl)) AllL.nil) AllJ.nil) (fun x => by kernel_rfl)
structure Cl_graph_same where
  graph_same_L1 : Addr → Addr → Addr → Int → Int → Bool → Sl → Int → Int → Sl → Int → Int → M (Bool)
  graph_same_L0 : Addr → Addr → Addr → Sl → Int → Int → M ((Unit) ⊕ (Bool))
  graph_same_L2 : Addr → Addr → Addr → Int → Int → M ((Unit) ⊕ (Bool))
  graph_same : (Sl × Int) → Int → Int → M (Bool)
def graph_same_L1_B (G : Cl_graph_same) (n : Nat) (a0 : Addr) (a1 : Addr) (a2 : Addr) (a3 : Int) (a4 : Int) (a5 : Bool) (a6 : Sl) (a7 : Int) (a8 : Int) (a9 : Sl) (a10 : Int) (a11 : Int) : M (Bool) :=
  if decide (a11 < a10) then
    M.bind (idxA a9 a11 1) fun x0 =>
    M.bind (ldL (li) x0) fun (x1 : Int) =>
    if a5 then
      G.graph_same_L1 a0 a1 a2 a3 a4 true a6 a7 a8 a9 a10 (IntKind.i64.wrap (a11 + 1))
    else
      M.bind (ldLs [.sl, li] a0) fun (x2 : Sl × Int) =>
      M.bind (G.graph_same (x2.1, x2.2) a4 x1) fun x3 =>
      if x3 then
        M.bind (ldLs [.sl, li] a0) fun (x4 : Sl × Int) =>
        M.bind (ldL .sl (a1.plus 4)) fun (x5 : Sl) =>
        M.bind (idxA x5 a3 1) fun x6 =>
        M.bind (ldL (li) x6) fun (x7 : Int) =>
        M.bind (ldL .sl (a2.plus 4)) fun (x8 : Sl) =>
        M.bind (idxA x8 a11 1) fun x9 =>
        M.bind (ldL (li) x9) fun (x10 : Int) =>
        M.bind (G.graph_same (x4.1, x4.2) x7 x10) fun x11 =>
        G.graph_same_L1 a0 a1 a2 a3 a4 x11 a6 a7 a8 a9 a10 (IntKind.i64.wrap (a11 + 1))
      else
        G.graph_same_L1 a0 a1 a2 a3 a4 false a6 a7 a8 a9 a10 (IntKind.i64.wrap (a11 + 1))
  else
    M.pure a5
def graph_same_L0_B (G : Cl_graph_same) (n : Nat) (a0 : Addr) (a1 : Addr) (a2 : Addr) (a3 : Sl) (a4 : Int) (a5 : Int) : M ((Unit) ⊕ (Bool)) :=
  if decide (a5 < a4) then
    M.bind (idxA a3 a5 1) fun x0 =>
    M.bind (ldL (li) x0) fun (x1 : Int) =>
    M.bind (ldL .sl (a2.plus 3)) fun (x2 : Sl) =>
    M.bind (G.graph_same_L1 a0 a1 a2 a5 x1 false a3 a4 a5 x2 (↑x2.len : Int) 0) fun x3 =>
    if !x3 then
      M.pure (Sum.inr false)
    else
      G.graph_same_L0 a0 a1 a2 a3 a4 (IntKind.i64.wrap (a5 + 1))
  else
    M.pure (Sum.inl ())
def graph_same_L2_B (G : Cl_graph_same) (n : Nat) (a0 : Addr) (a1 : Addr) (a2 : Addr) (a3 : Int) (a4 : Int) : M ((Unit) ⊕ (Bool)) :=
  if decide (a4 < a3) then
    M.bind (ldL (li) (a1.plus 0)) fun (x0 : Int) =>
    if decide (x0 = 10) then
      M.bind (ldLs [.sl, li] a0) fun (x1 : Sl × Int) =>
      M.bind (ldL .sl (a1.plus 3)) fun (x2 : Sl) =>
      M.bind (idxA x2 a4 1) fun x3 =>
      M.bind (ldL (li) x3) fun (x4 : Int) =>
      M.bind (ldL .sl (a2.plus 3)) fun (x5 : Sl) =>
      M.bind (idxA x5 a4 1) fun x6 =>
      M.bind (ldL (li) x6) fun (x7 : Int) =>
      M.bind (G.graph_same (x1.1, x1.2) x4 x7) fun x8 =>
      if !x8 then
        M.pure (Sum.inr false)
      else
        M.bind (ldLs [.sl, li] a0) fun (x9 : Sl × Int) =>
        M.bind (ldL .sl (a1.plus 4)) fun (x10 : Sl) =>
        M.bind (idxA x10 a4 1) fun x11 =>
        M.bind (ldL (li) x11) fun (x12 : Int) =>
        M.bind (ldL .sl (a2.plus 4)) fun (x13 : Sl) =>
        M.bind (idxA x13 a4 1) fun x14 =>
        M.bind (ldL (li) x14) fun (x15 : Int) =>
        M.bind (G.graph_same (x9.1, x9.2) x12 x15) fun x16 =>
        if !x16 then
          M.pure (Sum.inr false)
        else
          G.graph_same_L2 a0 a1 a2 a3 (IntKind.i64.wrap (a4 + 1))
    else
      M.bind (ldLs [.sl, li] a0) fun (x1 : Sl × Int) =>
      M.bind (ldL .sl (a1.plus 4)) fun (x2 : Sl) =>
      M.bind (idxA x2 a4 1) fun x3 =>
      M.bind (ldL (li) x3) fun (x4 : Int) =>
      M.bind (ldL .sl (a2.plus 4)) fun (x5 : Sl) =>
      M.bind (idxA x5 a4 1) fun x6 =>
      M.bind (ldL (li) x6) fun (x7 : Int) =>
      M.bind (G.graph_same (x1.1, x1.2) x4 x7) fun x8 =>
      if !x8 then
        M.pure (Sum.inr false)
      else
        G.graph_same_L2 a0 a1 a2 a3 (IntKind.i64.wrap (a4 + 1))
  else
    M.pure (Sum.inl ())
def graph_same_J0_B (G : Cl_graph_same) (n : Nat) (a0 : Addr) (a1 : Addr) (a2 : Addr) : M (Bool) :=
  M.bind (ldL (li) (a1.plus 0)) fun (x0 : Int) =>
  if decide (x0 = 10) then
    M.bind (ldL .bool (a1.plus 2)) fun (x1 : Bool) =>
    if !x1 then
      M.bind (ldL .sl (a1.plus 3)) fun (x2 : Sl) =>
      M.bind (G.graph_same_L0 a0 a1 a2 x2 (↑x2.len : Int) 0) (sumElim (fun x3 =>
        M.pure true)
      (fun x3 =>
        M.pure x3))
    else
      M.bind (ldL .sl (a1.plus 4)) fun (x2 : Sl) =>
      M.bind (G.graph_same_L2 a0 a1 a2 (↑x2.len : Int) 0) (sumElim (fun x3 =>
        M.pure true)
      (fun x3 =>
        M.pure x3))
  else
    M.bind (ldL .sl (a1.plus 4)) fun (x1 : Sl) =>
    M.bind (G.graph_same_L2 a0 a1 a2 (↑x1.len : Int) 0) (sumElim (fun x2 =>
      M.pure true)
    (fun x2 =>
      M.pure x2))
def graph_same_B (G : Cl_graph_same) (n : Nat) (a0 : Sl × Int) (a1 : Int) (a2 : Int) : M (Bool) :=
  M.bind (newB none T_api_Graph [vsl a0.1, vi a0.2]) fun x0 =>
  M.bind (reserve 14) fun x1 =>
  M.bind (ldL .sl ((adr x0).plus 0)) fun (x2 : Sl) =>
  M.bind (idxA x2 a1 5) fun x3 =>
  M.bind (ldLs [li, .str, .bool, .sl, .sl] x3) fun (x4 : Int × ByteArray × Bool × Sl × Sl) =>
  M.bind (ldL .sl ((adr x0).plus 0)) fun (x5 : Sl) =>
  M.bind (idxA x5 a2 5) fun x6 =>
  M.bind (ldLs [li, .str, .bool, .sl, .sl] x6) fun (x7 : Int × ByteArray × Bool × Sl × Sl) =>
  M.bind (newB (some (x1 + 10)) T_api_Node [vi 0, Value.string (ofBytes []), Value.bool false, vsl0, vsl0]) fun x8 =>
  M.bind (newB (some (x1 + 11)) T_api_Node [vi 0, Value.string (ofBytes []), Value.bool false, vsl0, vsl0]) fun x9 =>
  M.bind (chk [some ((adr x0).plus 0), some x6] (stN (adr x8) [vi x4.1, Value.string x4.2.1, Value.bool x4.2.2.1, vsl x4.2.2.2.1, vsl x4.2.2.2.2])) fun x10 =>
  M.bind (stN (adr x9) [vi x7.1, Value.string x7.2.1, Value.bool x7.2.2.1, vsl x7.2.2.2.1, vsl x7.2.2.2.2]) fun x11 =>
  M.bind (ldL (li) ((adr x8).plus 0)) fun (x12 : Int) =>
  M.bind (ldL (li) ((adr x9).plus 0)) fun (x13 : Int) =>
  if !decide (x12 = x13) then
    M.pure false
  else
    M.bind (ldL .str ((adr x8).plus 1)) fun (x14 : ByteArray) =>
    M.bind (ldL .str ((adr x9).plus 1)) fun (x15 : ByteArray) =>
    if !eqS x14 x15 then
      M.pure false
    else
      M.bind (ldL .bool ((adr x8).plus 2)) fun (x16 : Bool) =>
      M.bind (ldL .bool ((adr x9).plus 2)) fun (x17 : Bool) =>
      if !x16 == x17 then
        M.pure false
      else
        M.bind (ldL .sl ((adr x8).plus 4)) fun (x18 : Sl) =>
        M.bind (ldL .sl ((adr x9).plus 4)) fun (x19 : Sl) =>
        if !decide ((↑x18.len : Int) = (↑x19.len : Int)) then
          M.pure false
        else
          graph_same_J0_B G n (adr x0) (adr x8) (adr x9)
def Cl_graph_same.at : Nat → Cl_graph_same
  | 0 => ⟨fun _ _ _ _ _ _ _ _ _ _ _ _ => M.fail, fun _ _ _ _ _ _ => M.fail, fun _ _ _ _ _ => M.fail, fun _ _ _ => M.fail⟩
  | n + 1 => ⟨graph_same_L1_B (Cl_graph_same.at n) n, graph_same_L0_B (Cl_graph_same.at n) n, graph_same_L2_B (Cl_graph_same.at n) n, graph_same_B (Cl_graph_same.at n) n⟩
def graph_same_L1 (n : Nat) (a0 : Addr) (a1 : Addr) (a2 : Addr) (a3 : Int) (a4 : Int) (a5 : Bool) (a6 : Sl) (a7 : Int) (a8 : Int) (a9 : Sl) (a10 : Int) (a11 : Int) : M (Bool) := (Cl_graph_same.at n).graph_same_L1 a0 a1 a2 a3 a4 a5 a6 a7 a8 a9 a10 a11
theorem graph_same_L1_succ (n : Nat) (a0 : Addr) (a1 : Addr) (a2 : Addr) (a3 : Int) (a4 : Int) (a5 : Bool) (a6 : Sl) (a7 : Int) (a8 : Int) (a9 : Sl) (a10 : Int) (a11 : Int) : graph_same_L1 (n + 1) a0 a1 a2 a3 a4 a5 a6 a7 a8 a9 a10 a11 = graph_same_L1_B (Cl_graph_same.at n) n a0 a1 a2 a3 a4 a5 a6 a7 a8 a9 a10 a11 := rfl
def graph_same_L0 (n : Nat) (a0 : Addr) (a1 : Addr) (a2 : Addr) (a3 : Sl) (a4 : Int) (a5 : Int) : M ((Unit) ⊕ (Bool)) := (Cl_graph_same.at n).graph_same_L0 a0 a1 a2 a3 a4 a5
theorem graph_same_L0_succ (n : Nat) (a0 : Addr) (a1 : Addr) (a2 : Addr) (a3 : Sl) (a4 : Int) (a5 : Int) : graph_same_L0 (n + 1) a0 a1 a2 a3 a4 a5 = graph_same_L0_B (Cl_graph_same.at n) n a0 a1 a2 a3 a4 a5 := rfl
def graph_same_L2 (n : Nat) (a0 : Addr) (a1 : Addr) (a2 : Addr) (a3 : Int) (a4 : Int) : M ((Unit) ⊕ (Bool)) := (Cl_graph_same.at n).graph_same_L2 a0 a1 a2 a3 a4
theorem graph_same_L2_succ (n : Nat) (a0 : Addr) (a1 : Addr) (a2 : Addr) (a3 : Int) (a4 : Int) : graph_same_L2 (n + 1) a0 a1 a2 a3 a4 = graph_same_L2_B (Cl_graph_same.at n) n a0 a1 a2 a3 a4 := rfl
def graph_same (n : Nat) (a0 : Sl × Int) (a1 : Int) (a2 : Int) : M (Bool) := (Cl_graph_same.at n).graph_same a0 a1 a2
theorem graph_same_succ (n : Nat) (a0 : Sl × Int) (a1 : Int) (a2 : Int) : graph_same (n + 1) a0 a1 a2 = graph_same_B (Cl_graph_same.at n) n a0 a1 a2 := rfl
def graph_same_J0 (n : Nat) (a0 : Addr) (a1 : Addr) (a2 : Addr) : M (Bool) := graph_same_J0_B (Cl_graph_same.at n) n a0 a1 a2
def graph_same_dt (n : Nat) : List DEnt := []
def graph_same_ct (n : Nat) : List Ent := [⟨79, [.agg [.sl, .int .i64], .one (.int .i64), .one (.int .i64)], [.one (.bool)], fun x => graph_same n (x.1) (x.2.1) (x.2.2)⟩]
def graph_same_dr (i : Nat) : Option (List (Nat × List Nat)) := cond (Nat.beq i 1) (some [(0, []), (2, []), (5, []), (7, []), (1, []), (3, []), (4, []), (6, []), (8, []), (9, []), (10, []), (11, []), (12, [6, 9]), (13, [])]) (cond (Nat.beq i 12) (some [(0, []), (1, []), (3, []), (4, []), (2, []), (5, []), (6, []), (8, []), (10, []), (13, []), (15, []), (7, []), (9, []), (11, []), (12, []), (14, []), (16, []), (17, []), (18, []), (19, []), (20, []), (21, [])]) (cond (Nat.beq i 21) (some [(0, []), (1, []), (2, []), (3, []), (5, []), (7, []), (10, []), (12, []), (4, []), (6, []), (8, []), (9, []), (11, []), (13, []), (14, []), (15, []), (16, []), (17, []), (18, []), (20, []), (22, []), (25, []), (27, []), (19, []), (21, []), (23, []), (24, []), (26, []), (28, []), (29, []), (30, []), (31, []), (32, [])]) (none)))
def graph_same_L1_lt (n : Nat) : List LEnt := []
def graph_same_L1_jt0 (n : Nat) : List (JEnt (Bool)) := []
def graph_same_L0_lt (n : Nat) : List LEnt := [⟨[0, 1, 0, 1, 1, 0, 0, 1, 1, 0, 0, 1, 0, 0, 1, 0, 1, 1, 1], [(3, .one (.adr)), (7, .one (.adr)), (8, .one (.adr)), (9, .one (.int .i64)), (10, .one (.int .i64)), (11, .one (.bool)), (62, .one (.sl)), (63, .one (.int .i64)), (64, .one (.int .i64)), (70, .one (.sl)), (71, .one (.int .i64)), (72, .one (.int .i64))], actL1 [(3, .one (.adr)), (7, .one (.adr)), (8, .one (.adr)), (9, .one (.int .i64)), (10, .one (.int .i64)), (11, .one (.bool)), (62, .one (.sl)), (63, .one (.int .i64)), (64, .one (.int .i64)), (70, .one (.sl)), (71, .one (.int .i64)), (72, .one (.int .i64))] [(11, .one (.bool))] [11, 12, 13, 72, 73, 74, 75, 76, 77, 78, 79, 80, 81, 82, 83, 84, 85, 86, 87, 88, 89, 90, 91, 92, 93, 94, 95, 96, 97, 98] 2 (fun x => graph_same_L1 n (x.1) (x.2.1) (x.2.2.1) (x.2.2.2.1) (x.2.2.2.2.1) (x.2.2.2.2.2.1) (x.2.2.2.2.2.2.1) (x.2.2.2.2.2.2.2.1) (x.2.2.2.2.2.2.2.2.1) (x.2.2.2.2.2.2.2.2.2.1) (x.2.2.2.2.2.2.2.2.2.2.1) (x.2.2.2.2.2.2.2.2.2.2.2))⟩]
def graph_same_L0_jt0 (n : Nat) : List (JEnt ((Unit) ⊕ (Bool))) := []
def graph_same_L2_lt (n : Nat) : List LEnt := []
def graph_same_L2_jt0 (n : Nat) : List (JEnt ((Unit) ⊕ (Bool))) := []
def graph_same_lt (n : Nat) : List LEnt := [⟨[0, 1, 0, 0, 1, 0, 1, 1, 1], [(3, .one (.adr)), (7, .one (.adr)), (8, .one (.adr)), (62, .one (.sl)), (63, .one (.int .i64)), (64, .one (.int .i64))], actL2 [(3, .one (.adr)), (7, .one (.adr)), (8, .one (.adr)), (62, .one (.sl)), (63, .one (.int .i64)), (64, .one (.int .i64))] [] [(6, .one (.bool))] [6, 9, 10, 11, 12, 13, 64, 65, 66, 67, 68, 69, 70, 71, 72, 73, 74, 75, 76, 77, 78, 79, 80, 81, 82, 83, 84, 85, 86, 87, 88, 89, 90, 91, 92, 93, 94, 95, 96, 97, 98, 99, 100, 101] 0 .ret (fun x => graph_same_L0 n (x.1) (x.2.1) (x.2.2.1) (x.2.2.2.1) (x.2.2.2.2.1) (x.2.2.2.2.2))⟩,
  ⟨[0, 1, 0, 1, 1, 1, 1], [(3, .one (.adr)), (7, .one (.adr)), (8, .one (.adr)), (104, .one (.int .i64)), (105, .one (.int .i64))], actL2 [(3, .one (.adr)), (7, .one (.adr)), (8, .one (.adr)), (104, .one (.int .i64)), (105, .one (.int .i64))] [] [(6, .one (.bool))] [6, 14, 105, 106, 107, 108, 109, 110, 111, 112, 113, 114, 115, 116, 117, 118, 119, 120, 121, 122, 123, 124, 125, 126, 127, 128, 129, 130, 131, 132, 133, 134, 135, 136, 137, 138, 139, 140, 141] 4 .ret (fun x => graph_same_L2 n (x.1) (x.2.1) (x.2.2.1) (x.2.2.2.1) (x.2.2.2.2))⟩]
def graph_same_jt1 (n : Nat) : List (JEnt (Bool)) := []
def graph_same_jt0 (n : Nat) : List (JEnt (Bool)) := ⟨[0, 0, 1, 1, 1], [.code [1, 0, 1, 1, 1], .code [1, 1, 1, 1]], [(3, .one (.adr)), (7, .one (.adr)), (8, .one (.adr))], fun x => graph_same_J0 n (x.1) (x.2.1) (x.2.2)⟩ :: graph_same_jt1 n
def P_graph_same (n : Nat) : Prop := FnOK Tryz.prog ⟨79, [.agg [.sl, .int .i64], .one (.int .i64), .one (.int .i64)], [.one (.bool)], fun x => graph_same n (x.1) (x.2.1) (x.2.2)⟩
theorem graph_same_L1_ok (n : Nat) (H : ∀ m, m < n → P_graph_same m) {W : Wr} (hW : subW W 142 [11, 12, 13, 72, 73, 74, 75, 76, 77, 78, 79, 80, 81, 82, 83, 84, 85, 86, 87, 88, 89, 90, 91, 92, 93, 94, 95, 96, 97, 98] = true) : LEntOK Tryz.prog (bodyOf Tryz.f79) W ⟨[0, 1, 0, 1, 1, 0, 0, 1, 1, 0, 0, 1, 0, 0, 1, 0, 1, 1, 1], [(3, .one (.adr)), (7, .one (.adr)), (8, .one (.adr)), (9, .one (.int .i64)), (10, .one (.int .i64)), (11, .one (.bool)), (62, .one (.sl)), (63, .one (.int .i64)), (64, .one (.int .i64)), (70, .one (.sl)), (71, .one (.int .i64)), (72, .one (.int .i64))], actL1 [(3, .one (.adr)), (7, .one (.adr)), (8, .one (.adr)), (9, .one (.int .i64)), (10, .one (.int .i64)), (11, .one (.bool)), (62, .one (.sl)), (63, .one (.int .i64)), (64, .one (.int .i64)), (70, .one (.sl)), (71, .one (.int .i64)), (72, .one (.int .i64))] [(11, .one (.bool))] [11, 12, 13, 72, 73, 74, 75, 76, 77, 78, 79, 80, 81, 82, 83, 84, 85, 86, 87, 88, 89, 90, 91, 92, 93, 94, 95, 96, 97, 98] 2 (fun x => graph_same_L1 n (x.1) (x.2.1) (x.2.2.1) (x.2.2.2.1) (x.2.2.2.2.1) (x.2.2.2.2.2.1) (x.2.2.2.2.2.2.1) (x.2.2.2.2.2.2.2.1) (x.2.2.2.2.2.2.2.2.1) (x.2.2.2.2.2.2.2.2.2.1) (x.2.2.2.2.2.2.2.2.2.2.1) (x.2.2.2.2.2.2.2.2.2.2.2))⟩ :=
  loop1_ok (P := Tryz.prog) (body := (bodyOf Tryz.f79)) (c := child (codeAt (bodyOf Tryz.f79) [0, 1, 0, 1, 1, 0, 0, 1, 1, 0, 0, 1, 0, 0, 1, 0, 1, 1, 1]) 0) (p := [0, 1, 0, 1, 1, 0, 0, 1, 1, 0, 0, 1, 0, 0, 1, 0, 1, 1, 1]) (ls := [(3, .one (.adr)), (7, .one (.adr)), (8, .one (.adr)), (9, .one (.int .i64)), (10, .one (.int .i64)), (11, .one (.bool)), (62, .one (.sl)), (63, .one (.int .i64)), (64, .one (.int .i64)), (70, .one (.sl)), (71, .one (.int .i64)), (72, .one (.int .i64))]) (ms := [(11, .one (.bool))]) (id := 2) (nt := 142) (ws := [11, 12, 13, 72, 73, 74, 75, 76, 77, 78, 79, 80, 81, 82, 83, 84, 85, 86, 87, 88, 89, 90, 91, 92, 93, 94, 95, 96, 97, 98]) (N := 400) (G := (fun n x => graph_same_L1 n (x.1) (x.2.1) (x.2.2.1) (x.2.2.2.1) (x.2.2.2.2.1) (x.2.2.2.2.2.1) (x.2.2.2.2.2.2.1) (x.2.2.2.2.2.2.2.1) (x.2.2.2.2.2.2.2.2.1) (x.2.2.2.2.2.2.2.2.2.1) (x.2.2.2.2.2.2.2.2.2.2.1) (x.2.2.2.2.2.2.2.2.2.2.2))) (T := fun n => ⟨lookC (graph_same_ct n) (graph_same_dt n), lookL (graph_same_L1_lt n), lookJ (graph_same_L1_jt0 n), graph_same_dr⟩)
    (by kernel_rfl) (fun _ => by kernel_rfl) (fun n x => by kernel_rfl) n (fun m hm => (tabs_ok (P := Tryz.prog) (body := (bodyOf Tryz.f79)) (W := (142, some [11, 12, 13, 72, 73, 74, 75, 76, 77, 78, 79, 80, 81, 82, 83, 84, 85, 86, 87, 88, 89, 90, 91, 92, 93, 94, 95, 96, 97, 98])) (cl := graph_same_ct m) (dl := graph_same_dt m) (ll := graph_same_L1_lt m) (dr := graph_same_dr) (fin := (finL1 [(3, .one (.adr)), (7, .one (.adr)), (8, .one (.adr)), (9, .one (.int .i64)), (10, .one (.int .i64)), (11, .one (.bool)), (62, .one (.sl)), (63, .one (.int .i64)), (64, .one (.int .i64)), (70, .one (.sl)), (71, .one (.int .i64)), (72, .one (.int .i64))] [(11, .one (.bool))] 2 (fun x => graph_same_L1 m (x.1) (x.2.1) (x.2.2.1) (x.2.2.2.1) (x.2.2.2.2.1) (x.2.2.2.2.2.1) (x.2.2.2.2.2.2.1) (x.2.2.2.2.2.2.2.1) (x.2.2.2.2.2.2.2.2.1) (x.2.2.2.2.2.2.2.2.2.1) (x.2.2.2.2.2.2.2.2.2.2.1) (x.2.2.2.2.2.2.2.2.2.2.2)))) (N := 400) (js := graph_same_L1_jt0 m) AllMo.nil (AllOK.cons (H m hm) AllOK.nil) AllD.nil AllL.nil AllJ.nil)) hW
theorem graph_same_L0_ok (n : Nat) (H : ∀ m, m < n → P_graph_same m) {W : Wr} (hW : subW W 142 [6, 9, 10, 11, 12, 13, 64, 65, 66, 67, 68, 69, 70, 71, 72, 73, 74, 75, 76, 77, 78, 79, 80, 81, 82, 83, 84, 85, 86, 87, 88, 89, 90, 91, 92, 93, 94, 95, 96, 97, 98, 99, 100, 101] = true) : LEntOK Tryz.prog (bodyOf Tryz.f79) W ⟨[0, 1, 0, 0, 1, 0, 1, 1, 1], [(3, .one (.adr)), (7, .one (.adr)), (8, .one (.adr)), (62, .one (.sl)), (63, .one (.int .i64)), (64, .one (.int .i64))], actL2 [(3, .one (.adr)), (7, .one (.adr)), (8, .one (.adr)), (62, .one (.sl)), (63, .one (.int .i64)), (64, .one (.int .i64))] [] [(6, .one (.bool))] [6, 9, 10, 11, 12, 13, 64, 65, 66, 67, 68, 69, 70, 71, 72, 73, 74, 75, 76, 77, 78, 79, 80, 81, 82, 83, 84, 85, 86, 87, 88, 89, 90, 91, 92, 93, 94, 95, 96, 97, 98, 99, 100, 101] 0 .ret (fun x => graph_same_L0 n (x.1) (x.2.1) (x.2.2.1) (x.2.2.2.1) (x.2.2.2.2.1) (x.2.2.2.2.2))⟩ :=
  loop2_ok (P := Tryz.prog) (body := (bodyOf Tryz.f79)) (c := child (codeAt (bodyOf Tryz.f79) [0, 1, 0, 0, 1, 0, 1, 1, 1]) 0) (p := [0, 1, 0, 0, 1, 0, 1, 1, 1]) (ls := [(3, .one (.adr)), (7, .one (.adr)), (8, .one (.adr)), (62, .one (.sl)), (63, .one (.int .i64)), (64, .one (.int .i64))]) (ms := []) (rs := [(6, .one (.bool))]) (id := 0) (e2 := .ret) (nt := 142) (ws := [6, 9, 10, 11, 12, 13, 64, 65, 66, 67, 68, 69, 70, 71, 72, 73, 74, 75, 76, 77, 78, 79, 80, 81, 82, 83, 84, 85, 86, 87, 88, 89, 90, 91, 92, 93, 94, 95, 96, 97, 98, 99, 100, 101]) (N := 400) (G := (fun n x => graph_same_L0 n (x.1) (x.2.1) (x.2.2.1) (x.2.2.2.1) (x.2.2.2.2.1) (x.2.2.2.2.2))) (T := fun n => ⟨lookC (graph_same_ct n) (graph_same_dt n), lookL (graph_same_L0_lt n), lookJ (graph_same_L0_jt0 n), graph_same_dr⟩)
    (by kernel_rfl) (fun _ => by kernel_rfl) (fun n x => by kernel_rfl) n (fun m hm => (tabs_ok (P := Tryz.prog) (body := (bodyOf Tryz.f79)) (W := (142, some [6, 9, 10, 11, 12, 13, 64, 65, 66, 67, 68, 69, 70, 71, 72, 73, 74, 75, 76, 77, 78, 79, 80, 81, 82, 83, 84, 85, 86, 87, 88, 89, 90, 91, 92, 93, 94, 95, 96, 97, 98, 99, 100, 101])) (cl := graph_same_ct m) (dl := graph_same_dt m) (ll := graph_same_L0_lt m) (dr := graph_same_dr) (fin := (finL2 [(3, .one (.adr)), (7, .one (.adr)), (8, .one (.adr)), (62, .one (.sl)), (63, .one (.int .i64)), (64, .one (.int .i64))] [] [(6, .one (.bool))] 0 .ret (fun x => graph_same_L0 m (x.1) (x.2.1) (x.2.2.1) (x.2.2.2.1) (x.2.2.2.2.1) (x.2.2.2.2.2)))) (N := 400) (js := graph_same_L0_jt0 m) AllMo.nil (AllOK.cons (H m hm) AllOK.nil) AllD.nil (AllL.cons (graph_same_L1_ok m (fun k hk => H k (Nat.lt_trans hk hm)) (by kernel_rfl)) AllL.nil) AllJ.nil)) hW
theorem graph_same_L2_ok (n : Nat) (H : ∀ m, m < n → P_graph_same m) {W : Wr} (hW : subW W 142 [6, 14, 105, 106, 107, 108, 109, 110, 111, 112, 113, 114, 115, 116, 117, 118, 119, 120, 121, 122, 123, 124, 125, 126, 127, 128, 129, 130, 131, 132, 133, 134, 135, 136, 137, 138, 139, 140, 141] = true) : LEntOK Tryz.prog (bodyOf Tryz.f79) W ⟨[0, 1, 0, 1, 1, 1, 1], [(3, .one (.adr)), (7, .one (.adr)), (8, .one (.adr)), (104, .one (.int .i64)), (105, .one (.int .i64))], actL2 [(3, .one (.adr)), (7, .one (.adr)), (8, .one (.adr)), (104, .one (.int .i64)), (105, .one (.int .i64))] [] [(6, .one (.bool))] [6, 14, 105, 106, 107, 108, 109, 110, 111, 112, 113, 114, 115, 116, 117, 118, 119, 120, 121, 122, 123, 124, 125, 126, 127, 128, 129, 130, 131, 132, 133, 134, 135, 136, 137, 138, 139, 140, 141] 4 .ret (fun x => graph_same_L2 n (x.1) (x.2.1) (x.2.2.1) (x.2.2.2.1) (x.2.2.2.2))⟩ :=
  loop2_ok (P := Tryz.prog) (body := (bodyOf Tryz.f79)) (c := child (codeAt (bodyOf Tryz.f79) [0, 1, 0, 1, 1, 1, 1]) 0) (p := [0, 1, 0, 1, 1, 1, 1]) (ls := [(3, .one (.adr)), (7, .one (.adr)), (8, .one (.adr)), (104, .one (.int .i64)), (105, .one (.int .i64))]) (ms := []) (rs := [(6, .one (.bool))]) (id := 4) (e2 := .ret) (nt := 142) (ws := [6, 14, 105, 106, 107, 108, 109, 110, 111, 112, 113, 114, 115, 116, 117, 118, 119, 120, 121, 122, 123, 124, 125, 126, 127, 128, 129, 130, 131, 132, 133, 134, 135, 136, 137, 138, 139, 140, 141]) (N := 400) (G := (fun n x => graph_same_L2 n (x.1) (x.2.1) (x.2.2.1) (x.2.2.2.1) (x.2.2.2.2))) (T := fun n => ⟨lookC (graph_same_ct n) (graph_same_dt n), lookL (graph_same_L2_lt n), lookJ (graph_same_L2_jt0 n), graph_same_dr⟩)
    (by kernel_rfl) (fun _ => by kernel_rfl) (fun n x => by kernel_rfl) n (fun m hm => (tabs_ok (P := Tryz.prog) (body := (bodyOf Tryz.f79)) (W := (142, some [6, 14, 105, 106, 107, 108, 109, 110, 111, 112, 113, 114, 115, 116, 117, 118, 119, 120, 121, 122, 123, 124, 125, 126, 127, 128, 129, 130, 131, 132, 133, 134, 135, 136, 137, 138, 139, 140, 141])) (cl := graph_same_ct m) (dl := graph_same_dt m) (ll := graph_same_L2_lt m) (dr := graph_same_dr) (fin := (finL2 [(3, .one (.adr)), (7, .one (.adr)), (8, .one (.adr)), (104, .one (.int .i64)), (105, .one (.int .i64))] [] [(6, .one (.bool))] 4 .ret (fun x => graph_same_L2 m (x.1) (x.2.1) (x.2.2.1) (x.2.2.2.1) (x.2.2.2.2)))) (N := 400) (js := graph_same_L2_jt0 m) AllMo.nil (AllOK.cons (H m hm) AllOK.nil) AllD.nil AllL.nil AllJ.nil)) hW
theorem graph_same_ok_step (n : Nat) (H : ∀ m, m < n + 1 → P_graph_same m) : FnOK Tryz.prog ⟨79, [.agg [.sl, .int .i64], .one (.int .i64), .one (.int .i64)], [.one (.bool)], fun x => graph_same (n + 1) (x.1) (x.2.1) (x.2.2)⟩ :=
  fn_ok (P := Tryz.prog) (e := ⟨79, [.agg [.sl, .int .i64], .one (.int .i64), .one (.int .i64)], [.one (.bool)], fun x => graph_same (n + 1) (x.1) (x.2.1) (x.2.2)⟩) (fn := Tryz.f79) (c := (bodyOf Tryz.f79)) (T := ⟨lookC (graph_same_ct n) (graph_same_dt n), lookL (graph_same_lt n), lookJ (graph_same_jt0 n), graph_same_dr⟩) (N := 400) (ps := [(0, .agg [.sl, .int .i64]), (1, .one (.int .i64)), (2, .one (.int .i64))])
    (by kernel_rfl) (by kernel_rfl) (by kernel_rfl) (by kernel_rfl) (by kernel_rfl) (tabs_ok (P := Tryz.prog) (body := (bodyOf Tryz.f79)) (W := (142, none)) (cl := graph_same_ct n) (dl := graph_same_dt n) (ll := graph_same_lt n) (dr := graph_same_dr) (fin := (finF Tryz.prog Tryz.f79 [.one (.bool)])) (N := 400) (js := graph_same_jt0 n) AllMo.nil (AllOK.cons (H n (Nat.lt_succ_self n)) AllOK.nil) AllD.nil (AllL.cons (graph_same_L0_ok n (fun k hk => H k (Nat.lt_succ_of_lt hk)) (by kernel_rfl)) (AllL.cons (graph_same_L2_ok n (fun k hk => H k (Nat.lt_succ_of_lt hk)) (by kernel_rfl)) AllL.nil)) (AllJ.cons (fun x => by kernel_rfl) AllJ.nil)) (fun x => by kernel_rfl)
theorem P_graph_same_all : ∀ n m, m < n → P_graph_same m := by
  intro n
  induction n with
  | zero => intro m hm; exact absurd hm (Nat.not_lt_zero m)
  | succ n ih =>
    intro m hm
    cases m with
    | zero => exact fn_zero (fn := Tryz.f79) (by kernel_rfl) (by kernel_rfl) (by kernel_rfl) (fun _ => rfl)
    | succ k => exact graph_same_ok_step k fun m hm => ih m (by omega)
theorem graph_same_ok (n : Nat) : FnOK Tryz.prog ⟨79, [.agg [.sl, .int .i64], .one (.int .i64), .one (.int .i64)], [.one (.bool)], fun x => graph_same n (x.1) (x.2.1) (x.2.2)⟩ := (P_graph_same_all (n + 1) n (Nat.lt_succ_self n))
def graph_twice_L2_B (G : Addr → Option Nat → Int → Addr → Sl → Int → Int → Sl → Int → Int → Sl → Int → Int → M ((Unit) ⊕ (Bool))) (n : Nat) (a0 : Addr) (a1 : Option Nat) (a2 : Int) (a3 : Addr) (a4 : Sl) (a5 : Int) (a6 : Int) (a7 : Sl) (a8 : Int) (a9 : Int) (a10 : Sl) (a11 : Int) (a12 : Int) : M ((Unit) ⊕ (Bool)) :=
  if decide (a12 < a11) then
    M.bind (idxA a10 a12 1) fun x0 =>
    M.bind (ldL (li) x0) fun (x1 : Int) =>
    M.bind (ldLs [.sl, li] a0) fun (x2 : Sl × Int) =>
    M.bind (graph_same n (x2.1, x2.2) a2 x1) fun x3 =>
    if x3 then
      M.pure (Sum.inr true)
    else
      G a0 a1 a2 a3 a4 a5 a6 a7 a8 a9 a10 a11 (IntKind.i64.wrap (a12 + 1))
  else
    M.pure (Sum.inl ())
def graph_twice_L2 : Nat → Addr → Option Nat → Int → Addr → Sl → Int → Int → Sl → Int → Int → Sl → Int → Int → M ((Unit) ⊕ (Bool))
  | 0 => fun _ _ _ _ _ _ _ _ _ _ _ _ _ => M.fail
  | n + 1 => graph_twice_L2_B (graph_twice_L2 n) n
theorem graph_twice_L2_succ (n : Nat) : graph_twice_L2 (n + 1) = graph_twice_L2_B (graph_twice_L2 n) n := rfl
def graph_twice_L1_B (G : Addr → Option Nat → Sl → Int → Int → Sl → Int → Int → M ((Unit) ⊕ (Bool))) (n : Nat) (a0 : Addr) (a1 : Option Nat) (a2 : Sl) (a3 : Int) (a4 : Int) (a5 : Sl) (a6 : Int) (a7 : Int) : M ((Unit) ⊕ (Bool)) :=
  if decide (a7 < a6) then
    M.bind (idxA a5 a7 1) fun x0 =>
    M.bind (ldL (li) x0) fun (x1 : Int) =>
    M.bind (reserve 15) fun x2 =>
    M.bind (ldL .sl (a0.plus 0)) fun (x3 : Sl) =>
    M.bind (idxA x3 x1 5) fun x4 =>
    M.bind (ldL (li) (x4.plus 0)) fun (x5 : Int) =>
    M.bind (ldL .sl (a0.plus 0)) fun (x6 : Sl) =>
    M.bind (idxA x6 x1 5) fun x7 =>
    M.bind (ldL .str (x7.plus 1)) fun (x8 : ByteArray) =>
    M.bind (newB (some (x2 + 13)) T_api_Step [vi 0, Value.string (ofBytes [])]) fun x9 =>
    M.bind (stN (adr x9) [vi x5, Value.string x8]) fun x10 =>
    M.bind (ldLs [li, .str] (adr x9)) fun (x11 : Int × ByteArray) =>
    M.bind (mpGet T_api_Step (Ty.one .sl) sl0 a1 (Value.agg #[vi x11.1, Value.string x11.2])) fun (x12 : Bool × Sl) =>
    M.bind (graph_twice_L2 n a0 a1 x1 (adr x9) a2 a3 a4 a5 a6 a7 x12.2 (↑x12.2.len : Int) 0) (sumElim (fun x13 =>
      M.bind (ldLs [li, .str] (adr x9)) fun (x14 : Int × ByteArray) =>
      M.bind (mpEntry T_api_Step (Ty.one .sl) sl0 a1 (Value.agg #[vi x14.1, Value.string x14.2])) fun x15 =>
      M.bind (app false x15.1 1 T_i64 1 [vi x1]) fun x16 =>
      M.bind (mpStore a1 (↑x15.2 : Int) (vsl x16)) fun x17 =>
      G a0 a1 a2 a3 a4 a5 a6 (IntKind.i64.wrap (a7 + 1)))
    (fun x13 =>
      M.pure (Sum.inr x13)))
  else
    M.pure (Sum.inl ())
def graph_twice_L1 : Nat → Addr → Option Nat → Sl → Int → Int → Sl → Int → Int → M ((Unit) ⊕ (Bool))
  | 0 => fun _ _ _ _ _ _ _ _ => M.fail
  | n + 1 => graph_twice_L1_B (graph_twice_L1 n) n
theorem graph_twice_L1_succ (n : Nat) : graph_twice_L1 (n + 1) = graph_twice_L1_B (graph_twice_L1 n) n := rfl
def graph_twice_L0_B (G : Addr → Sl → Int → Int → M ((Unit) ⊕ (Bool))) (n : Nat) (a0 : Addr) (a1 : Sl) (a2 : Int) (a3 : Int) : M ((Unit) ⊕ (Bool)) :=
  if decide (a3 < a2) then
    M.bind (idxA a1 a3 5) fun x0 =>
    M.bind (ldLs [li, .str, .bool, .sl, .sl] x0) fun (x1 : Int × ByteArray × Bool × Sl × Sl) =>
    M.bind (newB none T_api_Node [vi 0, Value.string (ofBytes []), Value.bool false, vsl0, vsl0]) fun x2 =>
    M.bind (stN (adr x2) [vi x1.1, Value.string x1.2.1, Value.bool x1.2.2.1, vsl x1.2.2.2.1, vsl x1.2.2.2.2]) fun x3 =>
    M.bind (mpNew T_api_Step) fun x4 =>
    M.bind (ldL .sl ((adr x2).plus 3)) fun (x5 : Sl) =>
    M.bind (graph_twice_L1 n a0 (some x4) a1 a2 a3 x5 (↑x5.len : Int) 0) (sumElim (fun x6 =>
      G a0 a1 a2 (IntKind.i64.wrap (a3 + 1)))
    (fun x6 =>
      M.pure (Sum.inr x6)))
  else
    M.pure (Sum.inl ())
def graph_twice_L0 : Nat → Addr → Sl → Int → Int → M ((Unit) ⊕ (Bool))
  | 0 => fun _ _ _ _ => M.fail
  | n + 1 => graph_twice_L0_B (graph_twice_L0 n) n
theorem graph_twice_L0_succ (n : Nat) : graph_twice_L0 (n + 1) = graph_twice_L0_B (graph_twice_L0 n) n := rfl
def graph_twice (n : Nat) (a0 : Sl × Int) : M (Bool) :=
  M.bind (newB none T_api_Graph [vsl a0.1, vi a0.2]) fun x0 =>
  M.bind (ldL .sl ((adr x0).plus 0)) fun (x1 : Sl) =>
  M.bind (graph_twice_L0 n (adr x0) x1 (↑x1.len : Int) 0) (sumElim (fun x2 =>
    M.pure false)
  (fun x2 =>
    M.pure x2))
def graph_twice_dt (n : Nat) : List DEnt := []
def graph_twice_ct (n : Nat) : List Ent := [⟨79, [.agg [.sl, .int .i64], .one (.int .i64), .one (.int .i64)], [.one (.bool)], fun x => graph_same n (x.1) (x.2.1) (x.2.2)⟩]
def graph_twice_dr (i : Nat) : Option (List (Nat × List Nat)) := cond (Nat.beq i 8) (some [(0, []), (2, []), (6, []), (8, []), (1, []), (3, []), (4, []), (5, []), (7, []), (9, []), (10, []), (11, []), (12, []), (13, []), (14, [])]) (none)
def graph_twice_L2_lt (n : Nat) : List LEnt := []
def graph_twice_L2_jt0 (n : Nat) : List (JEnt ((Unit) ⊕ (Bool))) := []
def graph_twice_L1_lt (n : Nat) : List LEnt := [⟨[0, 1, 0, 1, 1, 0, 0, 1, 1, 0, 0, 1, 1, 1, 0, 0, 1, 1, 0, 0, 1, 0, 1], [(1, .one (.adr)), (5, .one (.mp)), (7, .one (.int .i64)), (8, .one (.adr)), (12, .one (.sl)), (13, .one (.int .i64)), (14, .one (.int .i64)), (20, .one (.sl)), (21, .one (.int .i64)), (22, .one (.int .i64)), (41, .one (.sl)), (42, .one (.int .i64)), (43, .one (.int .i64))], actL2 [(1, .one (.adr)), (5, .one (.mp)), (7, .one (.int .i64)), (8, .one (.adr)), (12, .one (.sl)), (13, .one (.int .i64)), (14, .one (.int .i64)), (20, .one (.sl)), (21, .one (.int .i64)), (22, .one (.int .i64)), (41, .one (.sl)), (42, .one (.int .i64)), (43, .one (.int .i64))] [] [(2, .one (.bool))] [2, 10, 43, 44, 45, 46, 47, 48, 49, 50, 51] 4 .ret (fun x => graph_twice_L2 n (x.1) (x.2.1) (x.2.2.1) (x.2.2.2.1) (x.2.2.2.2.1) (x.2.2.2.2.2.1) (x.2.2.2.2.2.2.1) (x.2.2.2.2.2.2.2.1) (x.2.2.2.2.2.2.2.2.1) (x.2.2.2.2.2.2.2.2.2.1) (x.2.2.2.2.2.2.2.2.2.2.1) (x.2.2.2.2.2.2.2.2.2.2.2.1) (x.2.2.2.2.2.2.2.2.2.2.2.2))⟩]
def graph_twice_L1_jt0 (n : Nat) : List (JEnt ((Unit) ⊕ (Bool))) := []
def graph_twice_L0_lt (n : Nat) : List LEnt := [⟨[0, 1, 1, 1, 0, 0, 1, 1, 0, 0, 1, 0, 1], [(1, .one (.adr)), (5, .one (.mp)), (12, .one (.sl)), (13, .one (.int .i64)), (14, .one (.int .i64)), (20, .one (.sl)), (21, .one (.int .i64)), (22, .one (.int .i64))], actL2 [(1, .one (.adr)), (5, .one (.mp)), (12, .one (.sl)), (13, .one (.int .i64)), (14, .one (.int .i64)), (20, .one (.sl)), (21, .one (.int .i64)), (22, .one (.int .i64))] [] [(2, .one (.bool))] [2, 7, 8, 10, 22, 23, 24, 25, 26, 27, 28, 29, 30, 31, 32, 33, 34, 35, 36, 37, 38, 39, 40, 41, 42, 43, 44, 45, 46, 47, 48, 49, 50, 51, 52, 53, 54, 55, 56, 57, 58, 59, 60] 2 .ret (fun x => graph_twice_L1 n (x.1) (x.2.1) (x.2.2.1) (x.2.2.2.1) (x.2.2.2.2.1) (x.2.2.2.2.2.1) (x.2.2.2.2.2.2.1) (x.2.2.2.2.2.2.2))⟩]
def graph_twice_L0_jt0 (n : Nat) : List (JEnt ((Unit) ⊕ (Bool))) := []
def graph_twice_lt (n : Nat) : List LEnt := [⟨[0, 1, 0, 1], [(1, .one (.adr)), (12, .one (.sl)), (13, .one (.int .i64)), (14, .one (.int .i64))], actL2 [(1, .one (.adr)), (12, .one (.sl)), (13, .one (.int .i64)), (14, .one (.int .i64))] [] [(2, .one (.bool))] [2, 4, 5, 7, 8, 10, 14, 15, 16, 17, 18, 19, 20, 21, 22, 23, 24, 25, 26, 27, 28, 29, 30, 31, 32, 33, 34, 35, 36, 37, 38, 39, 40, 41, 42, 43, 44, 45, 46, 47, 48, 49, 50, 51, 52, 53, 54, 55, 56, 57, 58, 59, 60, 61] 0 .ret (fun x => graph_twice_L0 n (x.1) (x.2.1) (x.2.2.1) (x.2.2.2))⟩]
def graph_twice_jt0 (n : Nat) : List (JEnt (Bool)) := []
theorem graph_twice_L2_ok (n : Nat) {W : Wr} (hW : subW W 62 [2, 10, 43, 44, 45, 46, 47, 48, 49, 50, 51] = true) : LEntOK Tryz.prog (bodyOf Tryz.f47) W ⟨[0, 1, 0, 1, 1, 0, 0, 1, 1, 0, 0, 1, 1, 1, 0, 0, 1, 1, 0, 0, 1, 0, 1], [(1, .one (.adr)), (5, .one (.mp)), (7, .one (.int .i64)), (8, .one (.adr)), (12, .one (.sl)), (13, .one (.int .i64)), (14, .one (.int .i64)), (20, .one (.sl)), (21, .one (.int .i64)), (22, .one (.int .i64)), (41, .one (.sl)), (42, .one (.int .i64)), (43, .one (.int .i64))], actL2 [(1, .one (.adr)), (5, .one (.mp)), (7, .one (.int .i64)), (8, .one (.adr)), (12, .one (.sl)), (13, .one (.int .i64)), (14, .one (.int .i64)), (20, .one (.sl)), (21, .one (.int .i64)), (22, .one (.int .i64)), (41, .one (.sl)), (42, .one (.int .i64)), (43, .one (.int .i64))] [] [(2, .one (.bool))] [2, 10, 43, 44, 45, 46, 47, 48, 49, 50, 51] 4 .ret (fun x => graph_twice_L2 n (x.1) (x.2.1) (x.2.2.1) (x.2.2.2.1) (x.2.2.2.2.1) (x.2.2.2.2.2.1) (x.2.2.2.2.2.2.1) (x.2.2.2.2.2.2.2.1) (x.2.2.2.2.2.2.2.2.1) (x.2.2.2.2.2.2.2.2.2.1) (x.2.2.2.2.2.2.2.2.2.2.1) (x.2.2.2.2.2.2.2.2.2.2.2.1) (x.2.2.2.2.2.2.2.2.2.2.2.2))⟩ :=
  loop2_ok (P := Tryz.prog) (body := (bodyOf Tryz.f47)) (c := child (codeAt (bodyOf Tryz.f47) [0, 1, 0, 1, 1, 0, 0, 1, 1, 0, 0, 1, 1, 1, 0, 0, 1, 1, 0, 0, 1, 0, 1]) 0) (p := [0, 1, 0, 1, 1, 0, 0, 1, 1, 0, 0, 1, 1, 1, 0, 0, 1, 1, 0, 0, 1, 0, 1]) (ls := [(1, .one (.adr)), (5, .one (.mp)), (7, .one (.int .i64)), (8, .one (.adr)), (12, .one (.sl)), (13, .one (.int .i64)), (14, .one (.int .i64)), (20, .one (.sl)), (21, .one (.int .i64)), (22, .one (.int .i64)), (41, .one (.sl)), (42, .one (.int .i64)), (43, .one (.int .i64))]) (ms := []) (rs := [(2, .one (.bool))]) (id := 4) (e2 := .ret) (nt := 62) (ws := [2, 10, 43, 44, 45, 46, 47, 48, 49, 50, 51]) (N := 400) (G := (fun n x => graph_twice_L2 n (x.1) (x.2.1) (x.2.2.1) (x.2.2.2.1) (x.2.2.2.2.1) (x.2.2.2.2.2.1) (x.2.2.2.2.2.2.1) (x.2.2.2.2.2.2.2.1) (x.2.2.2.2.2.2.2.2.1) (x.2.2.2.2.2.2.2.2.2.1) (x.2.2.2.2.2.2.2.2.2.2.1) (x.2.2.2.2.2.2.2.2.2.2.2.1) (x.2.2.2.2.2.2.2.2.2.2.2.2))) (T := fun n => ⟨lookC (graph_twice_ct n) (graph_twice_dt n), lookL (graph_twice_L2_lt n), lookJ (graph_twice_L2_jt0 n), graph_twice_dr⟩)
    (by kernel_rfl) (fun _ => by kernel_rfl) (fun n x => by kernel_rfl) n (fun m hm => (tabs_ok (P := Tryz.prog) (body := (bodyOf Tryz.f47)) (W := (62, some [2, 10, 43, 44, 45, 46, 47, 48, 49, 50, 51])) (cl := graph_twice_ct m) (dl := graph_twice_dt m) (ll := graph_twice_L2_lt m) (dr := graph_twice_dr) (fin := (finL2 [(1, .one (.adr)), (5, .one (.mp)), (7, .one (.int .i64)), (8, .one (.adr)), (12, .one (.sl)), (13, .one (.int .i64)), (14, .one (.int .i64)), (20, .one (.sl)), (21, .one (.int .i64)), (22, .one (.int .i64)), (41, .one (.sl)), (42, .one (.int .i64)), (43, .one (.int .i64))] [] [(2, .one (.bool))] 4 .ret (fun x => graph_twice_L2 m (x.1) (x.2.1) (x.2.2.1) (x.2.2.2.1) (x.2.2.2.2.1) (x.2.2.2.2.2.1) (x.2.2.2.2.2.2.1) (x.2.2.2.2.2.2.2.1) (x.2.2.2.2.2.2.2.2.1) (x.2.2.2.2.2.2.2.2.2.1) (x.2.2.2.2.2.2.2.2.2.2.1) (x.2.2.2.2.2.2.2.2.2.2.2.1) (x.2.2.2.2.2.2.2.2.2.2.2.2)))) (N := 400) (js := graph_twice_L2_jt0 m) AllMo.nil (AllOK.cons (graph_same_ok m) AllOK.nil) AllD.nil AllL.nil AllJ.nil)) hW
theorem graph_twice_L1_ok (n : Nat) {W : Wr} (hW : subW W 62 [2, 7, 8, 10, 22, 23, 24, 25, 26, 27, 28, 29, 30, 31, 32, 33, 34, 35, 36, 37, 38, 39, 40, 41, 42, 43, 44, 45, 46, 47, 48, 49, 50, 51, 52, 53, 54, 55, 56, 57, 58, 59, 60] = true) : LEntOK Tryz.prog (bodyOf Tryz.f47) W ⟨[0, 1, 1, 1, 0, 0, 1, 1, 0, 0, 1, 0, 1], [(1, .one (.adr)), (5, .one (.mp)), (12, .one (.sl)), (13, .one (.int .i64)), (14, .one (.int .i64)), (20, .one (.sl)), (21, .one (.int .i64)), (22, .one (.int .i64))], actL2 [(1, .one (.adr)), (5, .one (.mp)), (12, .one (.sl)), (13, .one (.int .i64)), (14, .one (.int .i64)), (20, .one (.sl)), (21, .one (.int .i64)), (22, .one (.int .i64))] [] [(2, .one (.bool))] [2, 7, 8, 10, 22, 23, 24, 25, 26, 27, 28, 29, 30, 31, 32, 33, 34, 35, 36, 37, 38, 39, 40, 41, 42, 43, 44, 45, 46, 47, 48, 49, 50, 51, 52, 53, 54, 55, 56, 57, 58, 59, 60] 2 .ret (fun x => graph_twice_L1 n (x.1) (x.2.1) (x.2.2.1) (x.2.2.2.1) (x.2.2.2.2.1) (x.2.2.2.2.2.1) (x.2.2.2.2.2.2.1) (x.2.2.2.2.2.2.2))⟩ :=
  loop2_ok (P := Tryz.prog) (body := (bodyOf Tryz.f47)) (c := child (codeAt (bodyOf Tryz.f47) [0, 1, 1, 1, 0, 0, 1, 1, 0, 0, 1, 0, 1]) 0) (p := [0, 1, 1, 1, 0, 0, 1, 1, 0, 0, 1, 0, 1]) (ls := [(1, .one (.adr)), (5, .one (.mp)), (12, .one (.sl)), (13, .one (.int .i64)), (14, .one (.int .i64)), (20, .one (.sl)), (21, .one (.int .i64)), (22, .one (.int .i64))]) (ms := []) (rs := [(2, .one (.bool))]) (id := 2) (e2 := .ret) (nt := 62) (ws := [2, 7, 8, 10, 22, 23, 24, 25, 26, 27, 28, 29, 30, 31, 32, 33, 34, 35, 36, 37, 38, 39, 40, 41, 42, 43, 44, 45, 46, 47, 48, 49, 50, 51, 52, 53, 54, 55, 56, 57, 58, 59, 60]) (N := 400) (G := (fun n x => graph_twice_L1 n (x.1) (x.2.1) (x.2.2.1) (x.2.2.2.1) (x.2.2.2.2.1) (x.2.2.2.2.2.1) (x.2.2.2.2.2.2.1) (x.2.2.2.2.2.2.2))) (T := fun n => ⟨lookC (graph_twice_ct n) (graph_twice_dt n), lookL (graph_twice_L1_lt n), lookJ (graph_twice_L1_jt0 n), graph_twice_dr⟩)
    (by kernel_rfl) (fun _ => by kernel_rfl) (fun n x => by kernel_rfl) n (fun m hm => (tabs_ok (P := Tryz.prog) (body := (bodyOf Tryz.f47)) (W := (62, some [2, 7, 8, 10, 22, 23, 24, 25, 26, 27, 28, 29, 30, 31, 32, 33, 34, 35, 36, 37, 38, 39, 40, 41, 42, 43, 44, 45, 46, 47, 48, 49, 50, 51, 52, 53, 54, 55, 56, 57, 58, 59, 60])) (cl := graph_twice_ct m) (dl := graph_twice_dt m) (ll := graph_twice_L1_lt m) (dr := graph_twice_dr) (fin := (finL2 [(1, .one (.adr)), (5, .one (.mp)), (12, .one (.sl)), (13, .one (.int .i64)), (14, .one (.int .i64)), (20, .one (.sl)), (21, .one (.int .i64)), (22, .one (.int .i64))] [] [(2, .one (.bool))] 2 .ret (fun x => graph_twice_L1 m (x.1) (x.2.1) (x.2.2.1) (x.2.2.2.1) (x.2.2.2.2.1) (x.2.2.2.2.2.1) (x.2.2.2.2.2.2.1) (x.2.2.2.2.2.2.2)))) (N := 400) (js := graph_twice_L1_jt0 m) AllMo.nil (AllOK.cons (graph_same_ok m) AllOK.nil) AllD.nil (AllL.cons (graph_twice_L2_ok m (by kernel_rfl)) AllL.nil) AllJ.nil)) hW
theorem graph_twice_L0_ok (n : Nat) {W : Wr} (hW : subW W 62 [2, 4, 5, 7, 8, 10, 14, 15, 16, 17, 18, 19, 20, 21, 22, 23, 24, 25, 26, 27, 28, 29, 30, 31, 32, 33, 34, 35, 36, 37, 38, 39, 40, 41, 42, 43, 44, 45, 46, 47, 48, 49, 50, 51, 52, 53, 54, 55, 56, 57, 58, 59, 60, 61] = true) : LEntOK Tryz.prog (bodyOf Tryz.f47) W ⟨[0, 1, 0, 1], [(1, .one (.adr)), (12, .one (.sl)), (13, .one (.int .i64)), (14, .one (.int .i64))], actL2 [(1, .one (.adr)), (12, .one (.sl)), (13, .one (.int .i64)), (14, .one (.int .i64))] [] [(2, .one (.bool))] [2, 4, 5, 7, 8, 10, 14, 15, 16, 17, 18, 19, 20, 21, 22, 23, 24, 25, 26, 27, 28, 29, 30, 31, 32, 33, 34, 35, 36, 37, 38, 39, 40, 41, 42, 43, 44, 45, 46, 47, 48, 49, 50, 51, 52, 53, 54, 55, 56, 57, 58, 59, 60, 61] 0 .ret (fun x => graph_twice_L0 n (x.1) (x.2.1) (x.2.2.1) (x.2.2.2))⟩ :=
  loop2_ok (P := Tryz.prog) (body := (bodyOf Tryz.f47)) (c := child (codeAt (bodyOf Tryz.f47) [0, 1, 0, 1]) 0) (p := [0, 1, 0, 1]) (ls := [(1, .one (.adr)), (12, .one (.sl)), (13, .one (.int .i64)), (14, .one (.int .i64))]) (ms := []) (rs := [(2, .one (.bool))]) (id := 0) (e2 := .ret) (nt := 62) (ws := [2, 4, 5, 7, 8, 10, 14, 15, 16, 17, 18, 19, 20, 21, 22, 23, 24, 25, 26, 27, 28, 29, 30, 31, 32, 33, 34, 35, 36, 37, 38, 39, 40, 41, 42, 43, 44, 45, 46, 47, 48, 49, 50, 51, 52, 53, 54, 55, 56, 57, 58, 59, 60, 61]) (N := 400) (G := (fun n x => graph_twice_L0 n (x.1) (x.2.1) (x.2.2.1) (x.2.2.2))) (T := fun n => ⟨lookC (graph_twice_ct n) (graph_twice_dt n), lookL (graph_twice_L0_lt n), lookJ (graph_twice_L0_jt0 n), graph_twice_dr⟩)
    (by kernel_rfl) (fun _ => by kernel_rfl) (fun n x => by kernel_rfl) n (fun m hm => (tabs_ok (P := Tryz.prog) (body := (bodyOf Tryz.f47)) (W := (62, some [2, 4, 5, 7, 8, 10, 14, 15, 16, 17, 18, 19, 20, 21, 22, 23, 24, 25, 26, 27, 28, 29, 30, 31, 32, 33, 34, 35, 36, 37, 38, 39, 40, 41, 42, 43, 44, 45, 46, 47, 48, 49, 50, 51, 52, 53, 54, 55, 56, 57, 58, 59, 60, 61])) (cl := graph_twice_ct m) (dl := graph_twice_dt m) (ll := graph_twice_L0_lt m) (dr := graph_twice_dr) (fin := (finL2 [(1, .one (.adr)), (12, .one (.sl)), (13, .one (.int .i64)), (14, .one (.int .i64))] [] [(2, .one (.bool))] 0 .ret (fun x => graph_twice_L0 m (x.1) (x.2.1) (x.2.2.1) (x.2.2.2)))) (N := 400) (js := graph_twice_L0_jt0 m) AllMo.nil (AllOK.cons (graph_same_ok m) AllOK.nil) AllD.nil (AllL.cons (graph_twice_L1_ok m (by kernel_rfl)) AllL.nil) AllJ.nil)) hW
theorem graph_twice_ok (n : Nat) : FnOK Tryz.prog ⟨47, [.agg [.sl, .int .i64]], [.one (.bool)], fun x => graph_twice n (x)⟩ :=
  fn_ok (P := Tryz.prog) (e := ⟨47, [.agg [.sl, .int .i64]], [.one (.bool)], fun x => graph_twice n (x)⟩) (fn := Tryz.f47) (c := (bodyOf Tryz.f47)) (T := ⟨lookC (graph_twice_ct n) (graph_twice_dt n), lookL (graph_twice_lt n), lookJ (graph_twice_jt0 n), graph_twice_dr⟩) (N := 400) (ps := [(0, .agg [.sl, .int .i64])])
    (by kernel_rfl) (by kernel_rfl) (by kernel_rfl) (by kernel_rfl) (by kernel_rfl) (tabs_ok (P := Tryz.prog) (body := (bodyOf Tryz.f47)) (W := (62, none)) (cl := graph_twice_ct n) (dl := graph_twice_dt n) (ll := graph_twice_lt n) (dr := graph_twice_dr) (fin := (finF Tryz.prog Tryz.f47 [.one (.bool)])) (N := 400) (js := graph_twice_jt0 n) AllMo.nil (AllOK.cons (graph_same_ok n) AllOK.nil) AllD.nil (AllL.cons (graph_twice_L0_ok n (by kernel_rfl)) AllL.nil) AllJ.nil) (fun x => by kernel_rfl)
structure Cl_graph_components_1 where
  graph_components_1_L2 : Addr → Addr → Addr → Addr → Addr → Int → M (Int)
  graph_components_1_L1 : Addr → Addr → Addr → Addr → Addr → Addr → Addr → Value → Sl → Int → Int → M (Unit)
  graph_components_1_L0 : Addr → Addr → Addr → Addr → Addr → Addr → Addr → Addr → Value → Sl → Int → Int → M (Unit)
  graph_components_1 : Int → Addr → Addr → Addr → Addr → Addr → Addr → Addr → Addr → Addr → M (Unit)
  graph_components_1_1 : Int → Addr → Addr → Addr → Addr → Addr → M (Unit)
def graph_components_1_D47_B (G : Cl_graph_components_1) (n : Nat) (x : Value) (a0 : Int) : M (Unit) :=
  if isFn F_graph_components_1_1 x then
    M.bind (asFn [.one (.adr), .one (.adr), .one (.adr), .one (.adr), .one (.adr)] x) fun (c : Addr × Addr × Addr × Addr × Addr) => G.graph_components_1_1 a0 (c.1) (c.2.1) (c.2.2.1) (c.2.2.2.1) (c.2.2.2.2)
  else M.fail
def graph_components_1_D62_B (G : Cl_graph_components_1) (n : Nat) (x : Value) (a0 : Int) : M (Unit) :=
  if isFn F_graph_components_1_1 x then
    M.bind (asFn [.one (.adr), .one (.adr), .one (.adr), .one (.adr), .one (.adr)] x) fun (c : Addr × Addr × Addr × Addr × Addr) => G.graph_components_1_1 a0 (c.1) (c.2.1) (c.2.2.1) (c.2.2.2.1) (c.2.2.2.2)
  else M.fail
def graph_components_1_1_D12_B (G : Cl_graph_components_1) (n : Nat) (x : Value) (a0 : Int) : M (Unit) :=
  if isFn F_graph_components_1 x then
    M.bind (asFn [.one (.adr), .one (.adr), .one (.adr), .one (.adr), .one (.adr), .one (.adr), .one (.adr), .one (.adr), .one (.adr)] x) fun (c : Addr × Addr × Addr × Addr × Addr × Addr × Addr × Addr × Addr) => G.graph_components_1 a0 (c.1) (c.2.1) (c.2.2.1) (c.2.2.2.1) (c.2.2.2.2.1) (c.2.2.2.2.2.1) (c.2.2.2.2.2.2.1) (c.2.2.2.2.2.2.2.1) (c.2.2.2.2.2.2.2.2)
  else M.fail
def graph_components_1_L2_B (G : Cl_graph_components_1) (n : Nat) (a0 : Addr) (a1 : Addr) (a2 : Addr) (a3 : Addr) (a4 : Addr) (a5 : Int) : M (Int) :=
  M.bind (ldL .sl a0) fun (x0 : Sl) =>
  M.bind (ldL .sl a0) fun (x1 : Sl) =>
  M.bind (idxA x0 (IntKind.i64.wrap ((↑x1.len : Int) - 1)) 1) fun x2 =>
  M.bind (ldL (li) x2) fun (x3 : Int) =>
  M.bind (ldL .sl a0) fun (x4 : Sl) =>
  M.bind (ldL .sl a0) fun (x5 : Sl) =>
  M.bind (sliceL x4 0 (IntKind.i64.wrap ((↑x5.len : Int) - 1)) T_i64 1) fun x6 =>
  M.bind (stN a0 [vsl x6]) fun x7 =>
  M.bind (ldL .sl a1) fun (x8 : Sl) =>
  M.bind (idxA x8 x3 1) fun x9 =>
  M.bind (stN x9 [Value.bool false]) fun x10 =>
  M.bind (ldL .sl a3) fun (x11 : Sl) =>
  M.bind (ldL .sl a2) fun (x12 : Sl) =>
  M.bind (idxA x11 x3 1) fun x13 =>
  M.bind (stN x13 [vi (↑x12.len : Int)]) fun x14 =>
  M.bind (ldL (li) a4) fun (x15 : Int) =>
  if decide (x3 = x15) then
    M.pure (IntKind.i64.wrap (a5 + 1))
  else
    G.graph_components_1_L2 a0 a1 a2 a3 a4 (IntKind.i64.wrap (a5 + 1))
def graph_components_1_L1_B (G : Cl_graph_components_1) (n : Nat) (a0 : Addr) (a1 : Addr) (a2 : Addr) (a3 : Addr) (a4 : Addr) (a5 : Addr) (a6 : Addr) (a7 : Value) (a8 : Sl) (a9 : Int) (a10 : Int) : M (Unit) :=
  if decide (a10 < a9) then
    M.bind (idxA a8 a10 1) fun x0 =>
    M.bind (ldL (li) x0) fun (x1 : Int) =>
    M.bind (graph_components_1_D62_B G n a7 x1) fun x2 =>
    G.graph_components_1_L1 a0 a1 a2 a3 a4 a5 a6 a7 a8 a9 (IntKind.i64.wrap (a10 + 1))
  else
    M.pure ()
def graph_components_1_L0_B (G : Cl_graph_components_1) (n : Nat) (a0 : Addr) (a1 : Addr) (a2 : Addr) (a3 : Addr) (a4 : Addr) (a5 : Addr) (a6 : Addr) (a7 : Addr) (a8 : Value) (a9 : Sl) (a10 : Int) (a11 : Int) : M (Unit) :=
  if decide (a11 < a10) then
    M.bind (idxA a9 a11 1) fun x0 =>
    M.bind (ldL (li) x0) fun (x1 : Int) =>
    M.bind (graph_components_1_D47_B G n a8 x1) fun x2 =>
    G.graph_components_1_L0 a0 a1 a2 a3 a4 a5 a6 a7 a8 a9 a10 (IntKind.i64.wrap (a11 + 1))
  else
    M.pure ()
def graph_components_1_B (G : Cl_graph_components_1) (n : Nat) (a0 : Int) (a1 : Addr) (a2 : Addr) (a3 : Addr) (a4 : Addr) (a5 : Addr) (a6 : Addr) (a7 : Addr) (a8 : Addr) (a9 : Addr) : M (Unit) :=
  M.bind (newB none T_i64 [vi a0]) fun x0 =>
  M.bind (ldL (li) a1) fun (x1 : Int) =>
  M.bind (stN a1 [vi (IntKind.i64.wrap (x1 + 1))]) fun x2 =>
  M.bind (ldL .sl a2) fun (x3 : Sl) =>
  M.bind (ldL (li) (adr x0)) fun (x4 : Int) =>
  M.bind (ldL .sl a3) fun (x5 : Sl) =>
  M.bind (ldL (li) (adr x0)) fun (x6 : Int) =>
  M.bind (ldL (li) a1) fun (x7 : Int) =>
  M.bind (idxA x3 x4 1) fun x8 =>
  M.bind (ldL (li) a1) fun (x9 : Int) =>
  M.bind (chk [some a3, some (adr x0), some a1] (stN x8 [vi x7])) fun x10 =>
  M.bind (idxA x5 x6 1) fun x11 =>
  M.bind (stN x11 [vi x9]) fun x12 =>
  M.bind (ldL .sl a4) fun (x13 : Sl) =>
  M.bind (ldL (li) (adr x0)) fun (x14 : Int) =>
  M.bind (app false x13 1 T_i64 1 [vi x14]) fun x15 =>
  M.bind (stN a4 [vsl x15]) fun x16 =>
  M.bind (ldL .sl a5) fun (x17 : Sl) =>
  M.bind (ldL (li) (adr x0)) fun (x18 : Int) =>
  M.bind (idxA x17 x18 1) fun x19 =>
  M.bind (stN x19 [Value.bool true]) fun x20 =>
  M.bind (ldL .sl (a7.plus 0)) fun (x21 : Sl) =>
  M.bind (ldL (li) (adr x0)) fun (x22 : Int) =>
  M.bind (idxA x21 x22 5) fun x23 =>
  M.bind (ldL .sl (x23.plus 3)) fun (x24 : Sl) =>
  M.bind (G.graph_components_1_L0 a2 a3 a4 a5 a7 a8 a9 (adr x0) (Value.func (Fn.func F_graph_components_1_1) #[] #[Value.pointer (some a2), Value.pointer (some a6), Value.pointer (some a3), Value.pointer (some (adr x0)), Value.pointer (some a5)]) x24 (↑x24.len : Int) 0) fun x25 =>
  M.bind (ldL .sl (a7.plus 0)) fun (x26 : Sl) =>
  M.bind (ldL (li) (adr x0)) fun (x27 : Int) =>
  M.bind (idxA x26 x27 5) fun x28 =>
  M.bind (ldL .sl (x28.plus 4)) fun (x29 : Sl) =>
  M.bind (G.graph_components_1_L1 a2 a3 a4 a5 a8 a9 (adr x0) (Value.func (Fn.func F_graph_components_1_1) #[] #[Value.pointer (some a2), Value.pointer (some a6), Value.pointer (some a3), Value.pointer (some (adr x0)), Value.pointer (some a5)]) x29 (↑x29.len : Int) 0) fun x30 =>
  M.bind (ldL .sl a3) fun (x31 : Sl) =>
  M.bind (ldL (li) (adr x0)) fun (x32 : Int) =>
  M.bind (idxA x31 x32 1) fun x33 =>
  M.bind (ldL (li) x33) fun (x34 : Int) =>
  M.bind (ldL .sl a2) fun (x35 : Sl) =>
  M.bind (ldL (li) (adr x0)) fun (x36 : Int) =>
  M.bind (idxA x35 x36 1) fun x37 =>
  M.bind (ldL (li) x37) fun (x38 : Int) =>
  if !decide (x34 = x38) then
    M.pure ()
  else
    M.bind (G.graph_components_1_L2 a4 a5 a8 a9 (adr x0) 0) fun x39 =>
    M.bind (ldL .sl a8) fun (x40 : Sl) =>
    M.bind (app false x40 1 T_i64 1 [vi x39]) fun x41 =>
    M.bind (stN a8 [vsl x41]) fun x42 =>
    M.pure ()
def graph_components_1_1_B (G : Cl_graph_components_1) (n : Nat) (a0 : Int) (a1 : Addr) (a2 : Addr) (a3 : Addr) (a4 : Addr) (a5 : Addr) : M (Unit) :=
  M.bind (ldL .sl a1) fun (x0 : Sl) =>
  M.bind (idxA x0 a0 1) fun x1 =>
  M.bind (ldL (li) x1) fun (x2 : Int) =>
  if decide (x2 = 0) then
    M.bind (ldL .raw a2) fun (x3 : Value) =>
    M.bind (graph_components_1_1_D12_B G n x3 a0) fun x4 =>
    M.bind (ldL .sl a3) fun (x5 : Sl) =>
    M.bind (ldL (li) a4) fun (x6 : Int) =>
    M.bind (ldL .sl a3) fun (x7 : Sl) =>
    M.bind (ldL (li) a4) fun (x8 : Int) =>
    M.bind (idxA x7 x8 1) fun x9 =>
    M.bind (ldL (li) x9) fun (x10 : Int) =>
    M.bind (ldL .sl a3) fun (x11 : Sl) =>
    M.bind (idxA x11 a0 1) fun x12 =>
    M.bind (ldL (li) x12) fun (x13 : Int) =>
    M.bind (idxA x5 x6 1) fun x14 =>
    M.bind (stN x14 [vi (if x13 < x10 then x13 else x10)]) fun x15 =>
    M.pure ()
  else
    M.bind (ldL .sl a5) fun (x3 : Sl) =>
    M.bind (idxA x3 a0 1) fun x4 =>
    M.bind (ldL .bool x4) fun (x5 : Bool) =>
    if x5 then
      M.bind (ldL .sl a3) fun (x6 : Sl) =>
      M.bind (ldL (li) a4) fun (x7 : Int) =>
      M.bind (ldL .sl a3) fun (x8 : Sl) =>
      M.bind (ldL (li) a4) fun (x9 : Int) =>
      M.bind (idxA x8 x9 1) fun x10 =>
      M.bind (ldL (li) x10) fun (x11 : Int) =>
      M.bind (ldL .sl a1) fun (x12 : Sl) =>
      M.bind (idxA x12 a0 1) fun x13 =>
      M.bind (ldL (li) x13) fun (x14 : Int) =>
      M.bind (idxA x6 x7 1) fun x15 =>
      M.bind (stN x15 [vi (if x14 < x11 then x14 else x11)]) fun x16 =>
      M.pure ()
    else
      M.pure ()
def Cl_graph_components_1.at : Nat → Cl_graph_components_1
  | 0 => ⟨fun _ _ _ _ _ _ => M.fail, fun _ _ _ _ _ _ _ _ _ _ _ => M.fail, fun _ _ _ _ _ _ _ _ _ _ _ _ => M.fail, fun _ _ _ _ _ _ _ _ _ _ => M.fail, fun _ _ _ _ _ _ => M.fail⟩
  | n + 1 => ⟨graph_components_1_L2_B (Cl_graph_components_1.at n) n, graph_components_1_L1_B (Cl_graph_components_1.at n) n, graph_components_1_L0_B (Cl_graph_components_1.at n) n, graph_components_1_B (Cl_graph_components_1.at n) n, graph_components_1_1_B (Cl_graph_components_1.at n) n⟩
def graph_components_1_L2 (n : Nat) (a0 : Addr) (a1 : Addr) (a2 : Addr) (a3 : Addr) (a4 : Addr) (a5 : Int) : M (Int) := (Cl_graph_components_1.at n).graph_components_1_L2 a0 a1 a2 a3 a4 a5
theorem graph_components_1_L2_succ (n : Nat) (a0 : Addr) (a1 : Addr) (a2 : Addr) (a3 : Addr) (a4 : Addr) (a5 : Int) : graph_components_1_L2 (n + 1) a0 a1 a2 a3 a4 a5 = graph_components_1_L2_B (Cl_graph_components_1.at n) n a0 a1 a2 a3 a4 a5 := rfl
def graph_components_1_L1 (n : Nat) (a0 : Addr) (a1 : Addr) (a2 : Addr) (a3 : Addr) (a4 : Addr) (a5 : Addr) (a6 : Addr) (a7 : Value) (a8 : Sl) (a9 : Int) (a10 : Int) : M (Unit) := (Cl_graph_components_1.at n).graph_components_1_L1 a0 a1 a2 a3 a4 a5 a6 a7 a8 a9 a10
theorem graph_components_1_L1_succ (n : Nat) (a0 : Addr) (a1 : Addr) (a2 : Addr) (a3 : Addr) (a4 : Addr) (a5 : Addr) (a6 : Addr) (a7 : Value) (a8 : Sl) (a9 : Int) (a10 : Int) : graph_components_1_L1 (n + 1) a0 a1 a2 a3 a4 a5 a6 a7 a8 a9 a10 = graph_components_1_L1_B (Cl_graph_components_1.at n) n a0 a1 a2 a3 a4 a5 a6 a7 a8 a9 a10 := rfl
def graph_components_1_L0 (n : Nat) (a0 : Addr) (a1 : Addr) (a2 : Addr) (a3 : Addr) (a4 : Addr) (a5 : Addr) (a6 : Addr) (a7 : Addr) (a8 : Value) (a9 : Sl) (a10 : Int) (a11 : Int) : M (Unit) := (Cl_graph_components_1.at n).graph_components_1_L0 a0 a1 a2 a3 a4 a5 a6 a7 a8 a9 a10 a11
theorem graph_components_1_L0_succ (n : Nat) (a0 : Addr) (a1 : Addr) (a2 : Addr) (a3 : Addr) (a4 : Addr) (a5 : Addr) (a6 : Addr) (a7 : Addr) (a8 : Value) (a9 : Sl) (a10 : Int) (a11 : Int) : graph_components_1_L0 (n + 1) a0 a1 a2 a3 a4 a5 a6 a7 a8 a9 a10 a11 = graph_components_1_L0_B (Cl_graph_components_1.at n) n a0 a1 a2 a3 a4 a5 a6 a7 a8 a9 a10 a11 := rfl
def graph_components_1 (n : Nat) (a0 : Int) (a1 : Addr) (a2 : Addr) (a3 : Addr) (a4 : Addr) (a5 : Addr) (a6 : Addr) (a7 : Addr) (a8 : Addr) (a9 : Addr) : M (Unit) := (Cl_graph_components_1.at n).graph_components_1 a0 a1 a2 a3 a4 a5 a6 a7 a8 a9
theorem graph_components_1_succ (n : Nat) (a0 : Int) (a1 : Addr) (a2 : Addr) (a3 : Addr) (a4 : Addr) (a5 : Addr) (a6 : Addr) (a7 : Addr) (a8 : Addr) (a9 : Addr) : graph_components_1 (n + 1) a0 a1 a2 a3 a4 a5 a6 a7 a8 a9 = graph_components_1_B (Cl_graph_components_1.at n) n a0 a1 a2 a3 a4 a5 a6 a7 a8 a9 := rfl
def graph_components_1_1 (n : Nat) (a0 : Int) (a1 : Addr) (a2 : Addr) (a3 : Addr) (a4 : Addr) (a5 : Addr) : M (Unit) := (Cl_graph_components_1.at n).graph_components_1_1 a0 a1 a2 a3 a4 a5
theorem graph_components_1_1_succ (n : Nat) (a0 : Int) (a1 : Addr) (a2 : Addr) (a3 : Addr) (a4 : Addr) (a5 : Addr) : graph_components_1_1 (n + 1) a0 a1 a2 a3 a4 a5 = graph_components_1_1_B (Cl_graph_components_1.at n) n a0 a1 a2 a3 a4 a5 := rfl
def graph_components_1_D47 (n : Nat) (x : Value) (a0 : Int) : M (Unit) := graph_components_1_D47_B (Cl_graph_components_1.at n) n x a0
def graph_components_1_D62 (n : Nat) (x : Value) (a0 : Int) : M (Unit) := graph_components_1_D62_B (Cl_graph_components_1.at n) n x a0
def graph_components_1_1_D12 (n : Nat) (x : Value) (a0 : Int) : M (Unit) := graph_components_1_1_D12_B (Cl_graph_components_1.at n) n x a0
def graph_components_1_dt (n : Nat) : List DEnt := [⟨47, [.one (.int .i64)], [], fun x a => graph_components_1_D47 n x (a)⟩,
  ⟨62, [.one (.int .i64)], [], fun x a => graph_components_1_D62 n x (a)⟩]
def graph_components_1_ct (n : Nat) : List Ent := []
def graph_components_1_dr (i : Nat) : Option (List (Nat × List Nat)) := cond (Nat.beq i 2) (some [(0, []), (1, []), (2, []), (3, []), (4, []), (6, []), (5, []), (7, [2, 3, 5]), (8, []), (9, [])]) (cond (Nat.beq i 16) (some [(0, []), (1, []), (2, []), (3, []), (4, []), (5, []), (6, []), (7, []), (8, [])]) (none))
def graph_components_1_L2_lt (n : Nat) : List LEnt := []
def graph_components_1_L2_jt0 (n : Nat) : List (JEnt (Int)) := []
def graph_components_1_L1_lt (n : Nat) : List LEnt := []
def graph_components_1_L1_jt0 (n : Nat) : List (JEnt (Unit)) := []
def graph_components_1_L0_lt (n : Nat) : List LEnt := []
def graph_components_1_L0_jt0 (n : Nat) : List (JEnt (Unit)) := []
def graph_components_1_lt (n : Nat) : List LEnt := [⟨[0, 1, 0, 1, 1, 1, 1, 1, 1], [(2, .one (.adr)), (3, .one (.adr)), (4, .one (.adr)), (5, .one (.adr)), (7, .one (.adr)), (8, .one (.adr)), (9, .one (.adr)), (10, .one (.adr)), (11, .one (.raw)), (41, .one (.sl)), (42, .one (.int .i64)), (43, .one (.int .i64))], actL1 [(2, .one (.adr)), (3, .one (.adr)), (4, .one (.adr)), (5, .one (.adr)), (7, .one (.adr)), (8, .one (.adr)), (9, .one (.adr)), (10, .one (.adr)), (11, .one (.raw)), (41, .one (.sl)), (42, .one (.int .i64)), (43, .one (.int .i64))] [] [13, 43, 44, 45, 46, 47, 48, 49, 50] 0 (fun x => graph_components_1_L0 n (x.1) (x.2.1) (x.2.2.1) (x.2.2.2.1) (x.2.2.2.2.1) (x.2.2.2.2.2.1) (x.2.2.2.2.2.2.1) (x.2.2.2.2.2.2.2.1) (x.2.2.2.2.2.2.2.2.1) (x.2.2.2.2.2.2.2.2.2.1) (x.2.2.2.2.2.2.2.2.2.2.1) (x.2.2.2.2.2.2.2.2.2.2.2))⟩,
  ⟨[0, 1, 0, 1, 1, 1, 1, 1, 1, 1], [(2, .one (.adr)), (3, .one (.adr)), (4, .one (.adr)), (5, .one (.adr)), (8, .one (.adr)), (9, .one (.adr)), (10, .one (.adr)), (11, .one (.raw)), (56, .one (.sl)), (57, .one (.int .i64)), (58, .one (.int .i64))], actL1 [(2, .one (.adr)), (3, .one (.adr)), (4, .one (.adr)), (5, .one (.adr)), (8, .one (.adr)), (9, .one (.adr)), (10, .one (.adr)), (11, .one (.raw)), (56, .one (.sl)), (57, .one (.int .i64)), (58, .one (.int .i64))] [] [15, 58, 59, 60, 61, 62, 63, 64, 65] 2 (fun x => graph_components_1_L1 n (x.1) (x.2.1) (x.2.2.1) (x.2.2.2.1) (x.2.2.2.2.1) (x.2.2.2.2.2.1) (x.2.2.2.2.2.2.1) (x.2.2.2.2.2.2.2.1) (x.2.2.2.2.2.2.2.2.1) (x.2.2.2.2.2.2.2.2.2.1) (x.2.2.2.2.2.2.2.2.2.2))⟩,
  ⟨[0, 0, 1, 1, 1, 1, 1, 1, 1, 1, 1, 1], [(4, .one (.adr)), (5, .one (.adr)), (8, .one (.adr)), (9, .one (.adr)), (10, .one (.adr)), (16, .one (.int .i64))], actL1 [(4, .one (.adr)), (5, .one (.adr)), (8, .one (.adr)), (9, .one (.adr)), (10, .one (.adr)), (16, .one (.int .i64))] [(16, .one (.int .i64))] [16, 17, 75, 76, 77, 78, 79, 80, 81, 82, 83, 84, 85, 86, 87, 88, 89, 90, 91, 92, 93, 94, 95, 96, 97, 98] 4 (fun x => graph_components_1_L2 n (x.1) (x.2.1) (x.2.2.1) (x.2.2.2.1) (x.2.2.2.2.1) (x.2.2.2.2.2))⟩]
def graph_components_1_jt0 (n : Nat) : List (JEnt (Unit)) := []
def graph_components_1_1_dt (n : Nat) : List DEnt := [⟨12, [.one (.int .i64)], [], fun x a => graph_components_1_1_D12 n x (a)⟩]
def graph_components_1_1_ct (n : Nat) : List Ent := []
def graph_components_1_1_dr (i : Nat) : Option (List (Nat × List Nat)) := cond (Nat.beq i 2) (some [(7, []), (0, []), (1, []), (2, []), (3, []), (4, []), (5, []), (6, []), (8, []), (9, []), (10, []), (11, []), (12, [])]) (cond (Nat.beq i 4) (some [(7, []), (0, []), (1, []), (2, []), (3, []), (4, []), (5, []), (6, []), (8, []), (9, []), (10, []), (11, []), (12, [])]) (none))
def graph_components_1_1_lt (n : Nat) : List LEnt := []
def graph_components_1_1_jt0 (n : Nat) : List (JEnt (Unit)) := []
def P_graph_components_1 (n : Nat) : Prop := FnOK Tryz.prog ⟨114, [.one (.int .i64), .one (.adr), .one (.adr), .one (.adr), .one (.adr), .one (.adr), .one (.adr), .one (.adr), .one (.adr), .one (.adr)], [], fun x => graph_components_1 n (x.1) (x.2.1) (x.2.2.1) (x.2.2.2.1) (x.2.2.2.2.1) (x.2.2.2.2.2.1) (x.2.2.2.2.2.2.1) (x.2.2.2.2.2.2.2.1) (x.2.2.2.2.2.2.2.2.1) (x.2.2.2.2.2.2.2.2.2)⟩ ∧ FnOK Tryz.prog ⟨115, [.one (.int .i64), .one (.adr), .one (.adr), .one (.adr), .one (.adr), .one (.adr)], [], fun x => graph_components_1_1 n (x.1) (x.2.1) (x.2.2.1) (x.2.2.2.1) (x.2.2.2.2.1) (x.2.2.2.2.2)⟩
theorem graph_components_1_L2_ok (n : Nat) (H : ∀ m, m < n → P_graph_components_1 m) {W : Wr} (hW : subW W 103 [16, 17, 75, 76, 77, 78, 79, 80, 81, 82, 83, 84, 85, 86, 87, 88, 89, 90, 91, 92, 93, 94, 95, 96, 97, 98] = true) : LEntOK Tryz.prog (bodyOf Tryz.f114) W ⟨[0, 0, 1, 1, 1, 1, 1, 1, 1, 1, 1, 1], [(4, .one (.adr)), (5, .one (.adr)), (8, .one (.adr)), (9, .one (.adr)), (10, .one (.adr)), (16, .one (.int .i64))], actL1 [(4, .one (.adr)), (5, .one (.adr)), (8, .one (.adr)), (9, .one (.adr)), (10, .one (.adr)), (16, .one (.int .i64))] [(16, .one (.int .i64))] [16, 17, 75, 76, 77, 78, 79, 80, 81, 82, 83, 84, 85, 86, 87, 88, 89, 90, 91, 92, 93, 94, 95, 96, 97, 98] 4 (fun x => graph_components_1_L2 n (x.1) (x.2.1) (x.2.2.1) (x.2.2.2.1) (x.2.2.2.2.1) (x.2.2.2.2.2))⟩ :=
  loop1_ok (P := Tryz.prog) (body := (bodyOf Tryz.f114)) (c := child (codeAt (bodyOf Tryz.f114) [0, 0, 1, 1, 1, 1, 1, 1, 1, 1, 1, 1]) 0) (p := [0, 0, 1, 1, 1, 1, 1, 1, 1, 1, 1, 1]) (ls := [(4, .one (.adr)), (5, .one (.adr)), (8, .one (.adr)), (9, .one (.adr)), (10, .one (.adr)), (16, .one (.int .i64))]) (ms := [(16, .one (.int .i64))]) (id := 4) (nt := 103) (ws := [16, 17, 75, 76, 77, 78, 79, 80, 81, 82, 83, 84, 85, 86, 87, 88, 89, 90, 91, 92, 93, 94, 95, 96, 97, 98]) (N := 400) (G := (fun n x => graph_components_1_L2 n (x.1) (x.2.1) (x.2.2.1) (x.2.2.2.1) (x.2.2.2.2.1) (x.2.2.2.2.2))) (T := fun n => ⟨lookC (graph_components_1_ct n) (graph_components_1_dt n), lookL (graph_components_1_L2_lt n), lookJ (graph_components_1_L2_jt0 n), graph_components_1_dr⟩)
    (by kernel_rfl) (fun _ => by kernel_rfl) (fun n x => by kernel_rfl) n (fun m hm => (tabs_ok (P := Tryz.prog) (body := (bodyOf Tryz.f114)) (W := (103, some [16, 17, 75, 76, 77, 78, 79, 80, 81, 82, 83, 84, 85, 86, 87, 88, 89, 90, 91, 92, 93, 94, 95, 96, 97, 98])) (cl := graph_components_1_ct m) (dl := graph_components_1_dt m) (ll := graph_components_1_L2_lt m) (dr := graph_components_1_dr) (fin := (finL1 [(4, .one (.adr)), (5, .one (.adr)), (8, .one (.adr)), (9, .one (.adr)), (10, .one (.adr)), (16, .one (.int .i64))] [(16, .one (.int .i64))] 4 (fun x => graph_components_1_L2 m (x.1) (x.2.1) (x.2.2.1) (x.2.2.2.1) (x.2.2.2.2.1) (x.2.2.2.2.2)))) (N := 400) (js := graph_components_1_L2_jt0 m) AllMo.nil AllOK.nil (AllD.cons (dent_ok (l := [⟨115, [.one (.adr), .one (.adr), .one (.adr), .one (.adr), .one (.adr)], fun a c => graph_components_1_1 m (a) (c.1) (c.2.1) (c.2.2.1) (c.2.2.2.1) (c.2.2.2.2)⟩]) (AllT.cons (fun a c => callOK_cast (by kernel_rfl) ((H m hm).2 (a, c.1, c.2.1, c.2.2.1, c.2.2.2.1, c.2.2.2.2))) AllT.nil) (fun x a => by kernel_rfl)) (AllD.cons (dent_ok (l := [⟨115, [.one (.adr), .one (.adr), .one (.adr), .one (.adr), .one (.adr)], fun a c => graph_components_1_1 m (a) (c.1) (c.2.1) (c.2.2.1) (c.2.2.2.1) (c.2.2.2.2)⟩]) (AllT.cons (fun a c => callOK_cast (by kernel_rfl) ((H m hm).2 (a, c.1, c.2.1, c.2.2.1, c.2.2.2.1, c.2.2.2.2))) AllT.nil) (fun x a => by kernel_rfl)) AllD.nil)) AllL.nil AllJ.nil)) hW
theorem graph_components_1_L1_ok (n : Nat) (H : ∀ m, m < n → P_graph_components_1 m) {W : Wr} (hW : subW W 103 [15, 58, 59, 60, 61, 62, 63, 64, 65] = true) : LEntOK Tryz.prog (bodyOf Tryz.f114) W ⟨[0, 1, 0, 1, 1, 1, 1, 1, 1, 1], [(2, .one (.adr)), (3, .one (.adr)), (4, .one (.adr)), (5, .one (.adr)), (8, .one (.adr)), (9, .one (.adr)), (10, .one (.adr)), (11, .one (.raw)), (56, .one (.sl)), (57, .one (.int .i64)), (58, .one (.int .i64))], actL1 [(2, .one (.adr)), (3, .one (.adr)), (4, .one (.adr)), (5, .one (.adr)), (8, .one (.adr)), (9, .one (.adr)), (10, .one (.adr)), (11, .one (.raw)), (56, .one (.sl)), (57, .one (.int .i64)), (58, .one (.int .i64))] [] [15, 58, 59, 60, 61, 62, 63, 64, 65] 2 (fun x => graph_components_1_L1 n (x.1) (x.2.1) (x.2.2.1) (x.2.2.2.1) (x.2.2.2.2.1) (x.2.2.2.2.2.1) (x.2.2.2.2.2.2.1) (x.2.2.2.2.2.2.2.1) (x.2.2.2.2.2.2.2.2.1) (x.2.2.2.2.2.2.2.2.2.1) (x.2.2.2.2.2.2.2.2.2.2))⟩ :=
  loop1_ok (P := Tryz.prog) (body := (bodyOf Tryz.f114)) (c := child (codeAt (bodyOf Tryz.f114) [0, 1, 0, 1, 1, 1, 1, 1, 1, 1]) 0) (p := [0, 1, 0, 1, 1, 1, 1, 1, 1, 1]) (ls := [(2, .one (.adr)), (3, .one (.adr)), (4, .one (.adr)), (5, .one (.adr)), (8, .one (.adr)), (9, .one (.adr)), (10, .one (.adr)), (11, .one (.raw)), (56, .one (.sl)), (57, .one (.int .i64)), (58, .one (.int .i64))]) (ms := []) (id := 2) (nt := 103) (ws := [15, 58, 59, 60, 61, 62, 63, 64, 65]) (N := 400) (G := (fun n x => graph_components_1_L1 n (x.1) (x.2.1) (x.2.2.1) (x.2.2.2.1) (x.2.2.2.2.1) (x.2.2.2.2.2.1) (x.2.2.2.2.2.2.1) (x.2.2.2.2.2.2.2.1) (x.2.2.2.2.2.2.2.2.1) (x.2.2.2.2.2.2.2.2.2.1) (x.2.2.2.2.2.2.2.2.2.2))) (T := fun n => ⟨lookC (graph_components_1_ct n) (graph_components_1_dt n), lookL (graph_components_1_L1_lt n), lookJ (graph_components_1_L1_jt0 n), graph_components_1_dr⟩)
    (by kernel_rfl) (fun _ => by kernel_rfl) (fun n x => by kernel_rfl) n (fun m hm => (tabs_ok (P := Tryz.prog) (body := (bodyOf Tryz.f114)) (W := (103, some [15, 58, 59, 60, 61, 62, 63, 64, 65])) (cl := graph_components_1_ct m) (dl := graph_components_1_dt m) (ll := graph_components_1_L1_lt m) (dr := graph_components_1_dr) (fin := (finL1 [(2, .one (.adr)), (3, .one (.adr)), (4, .one (.adr)), (5, .one (.adr)), (8, .one (.adr)), (9, .one (.adr)), (10, .one (.adr)), (11, .one (.raw)), (56, .one (.sl)), (57, .one (.int .i64)), (58, .one (.int .i64))] [] 2 (fun x => graph_components_1_L1 m (x.1) (x.2.1) (x.2.2.1) (x.2.2.2.1) (x.2.2.2.2.1) (x.2.2.2.2.2.1) (x.2.2.2.2.2.2.1) (x.2.2.2.2.2.2.2.1) (x.2.2.2.2.2.2.2.2.1) (x.2.2.2.2.2.2.2.2.2.1) (x.2.2.2.2.2.2.2.2.2.2)))) (N := 400) (js := graph_components_1_L1_jt0 m) AllMo.nil AllOK.nil (AllD.cons (dent_ok (l := [⟨115, [.one (.adr), .one (.adr), .one (.adr), .one (.adr), .one (.adr)], fun a c => graph_components_1_1 m (a) (c.1) (c.2.1) (c.2.2.1) (c.2.2.2.1) (c.2.2.2.2)⟩]) (AllT.cons (fun a c => callOK_cast (by kernel_rfl) ((H m hm).2 (a, c.1, c.2.1, c.2.2.1, c.2.2.2.1, c.2.2.2.2))) AllT.nil) (fun x a => by kernel_rfl)) (AllD.cons (dent_ok (l := [⟨115, [.one (.adr), .one (.adr), .one (.adr), .one (.adr), .one (.adr)], fun a c => graph_components_1_1 m (a) (c.1) (c.2.1) (c.2.2.1) (c.2.2.2.1) (c.2.2.2.2)⟩]) (AllT.cons (fun a c => callOK_cast (by kernel_rfl) ((H m hm).2 (a, c.1, c.2.1, c.2.2.1, c.2.2.2.1, c.2.2.2.2))) AllT.nil) (fun x a => by kernel_rfl)) AllD.nil)) AllL.nil AllJ.nil)) hW
theorem graph_components_1_L0_ok (n : Nat) (H : ∀ m, m < n → P_graph_components_1 m) {W : Wr} (hW : subW W 103 [13, 43, 44, 45, 46, 47, 48, 49, 50] = true) : LEntOK Tryz.prog (bodyOf Tryz.f114) W ⟨[0, 1, 0, 1, 1, 1, 1, 1, 1], [(2, .one (.adr)), (3, .one (.adr)), (4, .one (.adr)), (5, .one (.adr)), (7, .one (.adr)), (8, .one (.adr)), (9, .one (.adr)), (10, .one (.adr)), (11, .one (.raw)), (41, .one (.sl)), (42, .one (.int .i64)), (43, .one (.int .i64))], actL1 [(2, .one (.adr)), (3, .one (.adr)), (4, .one (.adr)), (5, .one (.adr)), (7, .one (.adr)), (8, .one (.adr)), (9, .one (.adr)), (10, .one (.adr)), (11, .one (.raw)), (41, .one (.sl)), (42, .one (.int .i64)), (43, .one (.int .i64))] [] [13, 43, 44, 45, 46, 47, 48, 49, 50] 0 (fun x => graph_components_1_L0 n (x.1) (x.2.1) (x.2.2.1) (x.2.2.2.1) (x.2.2.2.2.1) (x.2.2.2.2.2.1) (x.2.2.2.2.2.2.1) (x.2.2.2.2.2.2.2.1) (x.2.2.2.2.2.2.2.2.1) (x.2.2.2.2.2.2.2.2.2.1) (x.2.2.2.2.2.2.2.2.2.2.1) (x.2.2.2.2.2.2.2.2.2.2.2))⟩ :=
  loop1_ok (P := Tryz.prog) (body := (bodyOf Tryz.f114)) (c := child (codeAt (bodyOf Tryz.f114) [0, 1, 0, 1, 1, 1, 1, 1, 1]) 0) (p := [0, 1, 0, 1, 1, 1, 1, 1, 1]) (ls := [(2, .one (.adr)), (3, .one (.adr)), (4, .one (.adr)), (5, .one (.adr)), (7, .one (.adr)), (8, .one (.adr)), (9, .one (.adr)), (10, .one (.adr)), (11, .one (.raw)), (41, .one (.sl)), (42, .one (.int .i64)), (43, .one (.int .i64))]) (ms := []) (id := 0) (nt := 103) (ws := [13, 43, 44, 45, 46, 47, 48, 49, 50]) (N := 400) (G := (fun n x => graph_components_1_L0 n (x.1) (x.2.1) (x.2.2.1) (x.2.2.2.1) (x.2.2.2.2.1) (x.2.2.2.2.2.1) (x.2.2.2.2.2.2.1) (x.2.2.2.2.2.2.2.1) (x.2.2.2.2.2.2.2.2.1) (x.2.2.2.2.2.2.2.2.2.1) (x.2.2.2.2.2.2.2.2.2.2.1) (x.2.2.2.2.2.2.2.2.2.2.2))) (T := fun n => ⟨lookC (graph_components_1_ct n) (graph_components_1_dt n), lookL (graph_components_1_L0_lt n), lookJ (graph_components_1_L0_jt0 n), graph_components_1_dr⟩)
    (by kernel_rfl) (fun _ => by kernel_rfl) (fun n x => by kernel_rfl) n (fun m hm => (tabs_ok (P := Tryz.prog) (body := (bodyOf Tryz.f114)) (W := (103, some [13, 43, 44, 45, 46, 47, 48, 49, 50])) (cl := graph_components_1_ct m) (dl := graph_components_1_dt m) (ll := graph_components_1_L0_lt m) (dr := graph_components_1_dr) (fin := (finL1 [(2, .one (.adr)), (3, .one (.adr)), (4, .one (.adr)), (5, .one (.adr)), (7, .one (.adr)), (8, .one (.adr)), (9, .one (.adr)), (10, .one (.adr)), (11, .one (.raw)), (41, .one (.sl)), (42, .one (.int .i64)), (43, .one (.int .i64))] [] 0 (fun x => graph_components_1_L0 m (x.1) (x.2.1) (x.2.2.1) (x.2.2.2.1) (x.2.2.2.2.1) (x.2.2.2.2.2.1) (x.2.2.2.2.2.2.1) (x.2.2.2.2.2.2.2.1) (x.2.2.2.2.2.2.2.2.1) (x.2.2.2.2.2.2.2.2.2.1) (x.2.2.2.2.2.2.2.2.2.2.1) (x.2.2.2.2.2.2.2.2.2.2.2)))) (N := 400) (js := graph_components_1_L0_jt0 m) AllMo.nil AllOK.nil (AllD.cons (dent_ok (l := [⟨115, [.one (.adr), .one (.adr), .one (.adr), .one (.adr), .one (.adr)], fun a c => graph_components_1_1 m (a) (c.1) (c.2.1) (c.2.2.1) (c.2.2.2.1) (c.2.2.2.2)⟩]) (AllT.cons (fun a c => callOK_cast (by kernel_rfl) ((H m hm).2 (a, c.1, c.2.1, c.2.2.1, c.2.2.2.1, c.2.2.2.2))) AllT.nil) (fun x a => by kernel_rfl)) (AllD.cons (dent_ok (l := [⟨115, [.one (.adr), .one (.adr), .one (.adr), .one (.adr), .one (.adr)], fun a c => graph_components_1_1 m (a) (c.1) (c.2.1) (c.2.2.1) (c.2.2.2.1) (c.2.2.2.2)⟩]) (AllT.cons (fun a c => callOK_cast (by kernel_rfl) ((H m hm).2 (a, c.1, c.2.1, c.2.2.1, c.2.2.2.1, c.2.2.2.2))) AllT.nil) (fun x a => by kernel_rfl)) AllD.nil)) AllL.nil AllJ.nil)) hW
theorem graph_components_1_ok_step (n : Nat) (H : ∀ m, m < n + 1 → P_graph_components_1 m) : FnOK Tryz.prog ⟨114, [.one (.int .i64), .one (.adr), .one (.adr), .one (.adr), .one (.adr), .one (.adr), .one (.adr), .one (.adr), .one (.adr), .one (.adr)], [], fun x => graph_components_1 (n + 1) (x.1) (x.2.1) (x.2.2.1) (x.2.2.2.1) (x.2.2.2.2.1) (x.2.2.2.2.2.1) (x.2.2.2.2.2.2.1) (x.2.2.2.2.2.2.2.1) (x.2.2.2.2.2.2.2.2.1) (x.2.2.2.2.2.2.2.2.2)⟩ :=
  fn_ok (P := Tryz.prog) (e := ⟨114, [.one (.int .i64), .one (.adr), .one (.adr), .one (.adr), .one (.adr), .one (.adr), .one (.adr), .one (.adr), .one (.adr), .one (.adr)], [], fun x => graph_components_1 (n + 1) (x.1) (x.2.1) (x.2.2.1) (x.2.2.2.1) (x.2.2.2.2.1) (x.2.2.2.2.2.1) (x.2.2.2.2.2.2.1) (x.2.2.2.2.2.2.2.1) (x.2.2.2.2.2.2.2.2.1) (x.2.2.2.2.2.2.2.2.2)⟩) (fn := Tryz.f114) (c := (bodyOf Tryz.f114)) (T := ⟨lookC (graph_components_1_ct n) (graph_components_1_dt n), lookL (graph_components_1_lt n), lookJ (graph_components_1_jt0 n), graph_components_1_dr⟩) (N := 400) (ps := [(0, .one (.int .i64)), (1, .one (.adr)), (2, .one (.adr)), (3, .one (.adr)), (4, .one (.adr)), (5, .one (.adr)), (6, .one (.adr)), (7, .one (.adr)), (8, .one (.adr)), (9, .one (.adr))])
    (by kernel_rfl) (by kernel_rfl) (by kernel_rfl) (by kernel_rfl) (by kernel_rfl) (tabs_ok (P := Tryz.prog) (body := (bodyOf Tryz.f114)) (W := (103, none)) (cl := graph_components_1_ct n) (dl := graph_components_1_dt n) (ll := graph_components_1_lt n) (dr := graph_components_1_dr) (fin := (finF Tryz.prog Tryz.f114 [])) (N := 400) (js := graph_components_1_jt0 n) AllMo.nil AllOK.nil (AllD.cons (dent_ok (l := [⟨115, [.one (.adr), .one (.adr), .one (.adr), .one (.adr), .one (.adr)], fun a c => graph_components_1_1 n (a) (c.1) (c.2.1) (c.2.2.1) (c.2.2.2.1) (c.2.2.2.2)⟩]) (AllT.cons (fun a c => callOK_cast (by kernel_rfl) ((H n (Nat.lt_succ_self n)).2 (a, c.1, c.2.1, c.2.2.1, c.2.2.2.1, c.2.2.2.2))) AllT.nil) (fun x a => by kernel_rfl)) (AllD.cons (dent_ok (l := [⟨115, [.one (.adr), .one (.adr), .one (.adr), .one (.adr), .one (.adr)], fun a c => graph_components_1_1 n (a) (c.1) (c.2.1) (c.2.2.1) (c.2.2.2.1) (c.2.2.2.2)⟩]) (AllT.cons (fun a c => callOK_cast (by kernel_rfl) ((H n (Nat.lt_succ_self n)).2 (a, c.1, c.2.1, c.2.2.1, c.2.2.2.1, c.2.2.2.2))) AllT.nil) (fun x a => by kernel_rfl)) AllD.nil)) (AllL.cons (graph_components_1_L0_ok n (fun k hk => H k (Nat.lt_succ_of_lt hk)) (by kernel_rfl)) (AllL.cons (graph_components_1_L1_ok n (fun k hk => H k (Nat.lt_succ_of_lt hk)) (by kernel_rfl)) (AllL.cons (graph_components_1_L2_ok n (fun k hk => H k (Nat.lt_succ_of_lt hk)) (by kernel_rfl)) AllL.nil))) AllJ.nil) (fun x => by kernel_rfl)
theorem graph_components_1_1_ok_step (n : Nat) (H : ∀ m, m < n + 1 → P_graph_components_1 m) : FnOK Tryz.prog ⟨115, [.one (.int .i64), .one (.adr), .one (.adr), .one (.adr), .one (.adr), .one (.adr)], [], fun x => graph_components_1_1 (n + 1) (x.1) (x.2.1) (x.2.2.1) (x.2.2.2.1) (x.2.2.2.2.1) (x.2.2.2.2.2)⟩ :=
  fn_ok (P := Tryz.prog) (e := ⟨115, [.one (.int .i64), .one (.adr), .one (.adr), .one (.adr), .one (.adr), .one (.adr)], [], fun x => graph_components_1_1 (n + 1) (x.1) (x.2.1) (x.2.2.1) (x.2.2.2.1) (x.2.2.2.2.1) (x.2.2.2.2.2)⟩) (fn := Tryz.f115) (c := (bodyOf Tryz.f115)) (T := ⟨lookC (graph_components_1_1_ct n) (graph_components_1_1_dt n), lookL (graph_components_1_1_lt n), lookJ (graph_components_1_1_jt0 n), graph_components_1_1_dr⟩) (N := 400) (ps := [(0, .one (.int .i64)), (1, .one (.adr)), (2, .one (.adr)), (3, .one (.adr)), (4, .one (.adr)), (5, .one (.adr))])
    (by kernel_rfl) (by kernel_rfl) (by kernel_rfl) (by kernel_rfl) (by kernel_rfl) (tabs_ok (P := Tryz.prog) (body := (bodyOf Tryz.f115)) (W := (43, none)) (cl := graph_components_1_1_ct n) (dl := graph_components_1_1_dt n) (ll := graph_components_1_1_lt n) (dr := graph_components_1_1_dr) (fin := (finF Tryz.prog Tryz.f115 [])) (N := 400) (js := graph_components_1_1_jt0 n) AllMo.nil AllOK.nil (AllD.cons (dent_ok (l := [⟨114, [.one (.adr), .one (.adr), .one (.adr), .one (.adr), .one (.adr), .one (.adr), .one (.adr), .one (.adr), .one (.adr)], fun a c => graph_components_1 n (a) (c.1) (c.2.1) (c.2.2.1) (c.2.2.2.1) (c.2.2.2.2.1) (c.2.2.2.2.2.1) (c.2.2.2.2.2.2.1) (c.2.2.2.2.2.2.2.1) (c.2.2.2.2.2.2.2.2)⟩]) (AllT.cons (fun a c => callOK_cast (by kernel_rfl) ((H n (Nat.lt_succ_self n)).1 (a, c.1, c.2.1, c.2.2.1, c.2.2.2.1, c.2.2.2.2.1, c.2.2.2.2.2.1, c.2.2.2.2.2.2.1, c.2.2.2.2.2.2.2.1, c.2.2.2.2.2.2.2.2))) AllT.nil) (fun x a => by kernel_rfl)) AllD.nil) AllL.nil AllJ.nil) (fun x => by kernel_rfl)
theorem P_graph_components_1_all : ∀ n m, m < n → P_graph_components_1 m := by
  intro n
  induction n with
  | zero => intro m hm; exact absurd hm (Nat.not_lt_zero m)
  | succ n ih =>
    intro m hm
    cases m with
    | zero => exact ⟨fn_zero (fn := Tryz.f114) (by kernel_rfl) (by kernel_rfl) (by kernel_rfl) (fun _ => rfl), fn_zero (fn := Tryz.f115) (by kernel_rfl) (by kernel_rfl) (by kernel_rfl) (fun _ => rfl)⟩
    | succ k => exact ⟨graph_components_1_ok_step k fun m hm => ih m (by omega), graph_components_1_1_ok_step k fun m hm => ih m (by omega)⟩
theorem graph_components_1_ok (n : Nat) : FnOK Tryz.prog ⟨114, [.one (.int .i64), .one (.adr), .one (.adr), .one (.adr), .one (.adr), .one (.adr), .one (.adr), .one (.adr), .one (.adr), .one (.adr)], [], fun x => graph_components_1 n (x.1) (x.2.1) (x.2.2.1) (x.2.2.2.1) (x.2.2.2.2.1) (x.2.2.2.2.2.1) (x.2.2.2.2.2.2.1) (x.2.2.2.2.2.2.2.1) (x.2.2.2.2.2.2.2.2.1) (x.2.2.2.2.2.2.2.2.2)⟩ := (P_graph_components_1_all (n + 1) n (Nat.lt_succ_self n)).1
theorem graph_components_1_1_ok (n : Nat) : FnOK Tryz.prog ⟨115, [.one (.int .i64), .one (.adr), .one (.adr), .one (.adr), .one (.adr), .one (.adr)], [], fun x => graph_components_1_1 n (x.1) (x.2.1) (x.2.2.1) (x.2.2.2.1) (x.2.2.2.2.1) (x.2.2.2.2.2)⟩ := (P_graph_components_1_all (n + 1) n (Nat.lt_succ_self n)).2
def graph_components_D35 (n : Nat) (x : Value) (a0 : Int) : M (Unit) :=
  if isFn F_graph_components_1 x then
    M.bind (asFn [.one (.adr), .one (.adr), .one (.adr), .one (.adr), .one (.adr), .one (.adr), .one (.adr), .one (.adr), .one (.adr)] x) fun (c : Addr × Addr × Addr × Addr × Addr × Addr × Addr × Addr × Addr) => graph_components_1 n a0 (c.1) (c.2.1) (c.2.2.1) (c.2.2.2.1) (c.2.2.2.2.1) (c.2.2.2.2.2.1) (c.2.2.2.2.2.2.1) (c.2.2.2.2.2.2.2.1) (c.2.2.2.2.2.2.2.2)
  else M.fail
def graph_components_L0_B (G : Addr → Int → Addr → Addr → Addr → Int → Int → M (Unit)) (n : Nat) (a0 : Addr) (a1 : Int) (a2 : Addr) (a3 : Addr) (a4 : Addr) (a5 : Int) (a6 : Int) : M (Unit) :=
  if decide (a6 < a5) then
    M.bind (ldL .sl a4) fun (x0 : Sl) =>
    M.bind (idxA x0 a6 1) fun x1 =>
    M.bind (stN x1 [vi (-1)]) fun x2 =>
    G a0 a1 a2 a3 a4 a5 (IntKind.i64.wrap (a6 + 1))
  else
    M.pure ()
def graph_components_L0 : Nat → Addr → Int → Addr → Addr → Addr → Int → Int → M (Unit)
  | 0 => fun _ _ _ _ _ _ _ => M.fail
  | n + 1 => graph_components_L0_B (graph_components_L0 n) n
theorem graph_components_L0_succ (n : Nat) : graph_components_L0 (n + 1) = graph_components_L0_B (graph_components_L0 n) n := rfl
def graph_components (n : Nat) (a0 : Sl × Int) : M (Sl × Sl) :=
  M.bind (newB none T_api_Graph [vsl a0.1, vi a0.2]) fun x0 =>
  M.bind (ldL .sl ((adr x0).plus 0)) fun (x1 : Sl) =>
  M.bind (reserve 12) fun x2 =>
  M.bind (mkS (some (x2 + 1)) T_i64 [vi 0] (↑x1.len : Int) (↑x1.len : Int)) fun x3 =>
  M.bind (mkS (some (x2 + 3)) T_i64 [vi 0] (↑x1.len : Int) (↑x1.len : Int)) fun x4 =>
  M.bind (mkS (some (x2 + 5)) T_i64 [vi 0] (↑x1.len : Int) (↑x1.len : Int)) fun x5 =>
  M.bind (newB (some (x2 + 6)) T_sl_i64 [vsl0]) fun x6 =>
  M.bind (newB (some (x2 + 7)) T_sl_i64 [vsl0]) fun x7 =>
  M.bind (newB (some (x2 + 8)) T_sl_i64 [vsl0]) fun x8 =>
  M.bind (chkK [x2 + 3, x2 + 5] (adr x6) (chk [none, none] (stN (adr x6) [vsl x3]))) fun x9 =>
  M.bind (chkK [x2 + 5] (adr x7) (chk [none] (stN (adr x7) [vsl x4]))) fun x10 =>
  M.bind (stN (adr x8) [vsl x5]) fun x11 =>
  M.bind (ldL .sl (adr x8)) fun (x12 : Sl) =>
  M.bind (graph_components_L0 n (adr x0) (↑x1.len : Int) (adr x6) (adr x7) (adr x8) (↑x12.len : Int) 0) fun x13 =>
  M.bind (newB none T_sl_i64 [vsl0]) fun x14 =>
  M.bind (newB none T_sl_i64 [vsl0]) fun x15 =>
  M.bind (mkS none T_bool [Value.bool false] (↑x1.len : Int) (↑x1.len : Int)) fun x16 =>
  M.bind (newB none T_sl_bool [vsl0]) fun x17 =>
  M.bind (stN (adr x17) [vsl x16]) fun x18 =>
  M.bind (newB none T_i64 [vi 0]) fun x19 =>
  M.bind (stN (adr x19) [vi 0]) fun x20 =>
  M.bind (newB none T_fn_i64__ [Value.nilFunc]) fun x21 =>
  M.bind (stN (adr x21) [Value.func (Fn.func F_graph_components_1) #[] #[Value.pointer (some (adr x19)), Value.pointer (some (adr x6)), Value.pointer (some (adr x7)), Value.pointer (some (adr x15)), Value.pointer (some (adr x17)), Value.pointer (some (adr x21)), Value.pointer (some (adr x0)), Value.pointer (some (adr x14)), Value.pointer (some (adr x8))]]) fun x22 =>
  M.bind (ldL .raw (adr x21)) fun (x23 : Value) =>
  M.bind (ldL (li) ((adr x0).plus 1)) fun (x24 : Int) =>
  M.bind (graph_components_D35 n x23 x24) fun x25 =>
  M.bind (ldL .sl (adr x8)) fun (x26 : Sl) =>
  M.bind (ldL .sl (adr x14)) fun (x27 : Sl) =>
  M.pure (x26, x27)
def graph_components_dt (n : Nat) : List DEnt := [⟨35, [.one (.int .i64)], [], fun x a => graph_components_D35 n x (a)⟩]
def graph_components_ct (n : Nat) : List Ent := []
def graph_components_dr (i : Nat) : Option (List (Nat × List Nat)) := cond (Nat.beq i 2) (some [(0, []), (2, []), (4, []), (1, []), (3, []), (5, []), (6, []), (7, []), (8, []), (9, [3, 5]), (10, [5]), (11, [])]) (cond (Nat.beq i 14) (some [(0, []), (2, []), (1, []), (3, [])]) (none))
def graph_components_L0_lt (n : Nat) : List LEnt := []
def graph_components_L0_jt0 (n : Nat) : List (JEnt (Unit)) := []
def graph_components_lt (n : Nat) : List LEnt := [⟨[0, 1, 0, 1, 1, 1], [(1, .one (.adr)), (4, .one (.int .i64)), (5, .one (.adr)), (6, .one (.adr)), (7, .one (.adr)), (24, .one (.int .i64)), (25, .one (.int .i64))], actL1 [(1, .one (.adr)), (4, .one (.int .i64)), (5, .one (.adr)), (6, .one (.adr)), (7, .one (.adr)), (24, .one (.int .i64)), (25, .one (.int .i64))] [] [8, 25, 26, 27, 28, 29, 30, 31] 0 (fun x => graph_components_L0 n (x.1) (x.2.1) (x.2.2.1) (x.2.2.2.1) (x.2.2.2.2.1) (x.2.2.2.2.2.1) (x.2.2.2.2.2.2))⟩]
def graph_components_jt0 (n : Nat) : List (JEnt (Sl × Sl)) := []
theorem graph_components_L0_ok (n : Nat) {W : Wr} (hW : subW W 41 [8, 25, 26, 27, 28, 29, 30, 31] = true) : LEntOK Tryz.prog (bodyOf Tryz.f80) W ⟨[0, 1, 0, 1, 1, 1], [(1, .one (.adr)), (4, .one (.int .i64)), (5, .one (.adr)), (6, .one (.adr)), (7, .one (.adr)), (24, .one (.int .i64)), (25, .one (.int .i64))], actL1 [(1, .one (.adr)), (4, .one (.int .i64)), (5, .one (.adr)), (6, .one (.adr)), (7, .one (.adr)), (24, .one (.int .i64)), (25, .one (.int .i64))] [] [8, 25, 26, 27, 28, 29, 30, 31] 0 (fun x => graph_components_L0 n (x.1) (x.2.1) (x.2.2.1) (x.2.2.2.1) (x.2.2.2.2.1) (x.2.2.2.2.2.1) (x.2.2.2.2.2.2))⟩ :=
  loop1_ok (P := Tryz.prog) (body := (bodyOf Tryz.f80)) (c := child (codeAt (bodyOf Tryz.f80) [0, 1, 0, 1, 1, 1]) 0) (p := [0, 1, 0, 1, 1, 1]) (ls := [(1, .one (.adr)), (4, .one (.int .i64)), (5, .one (.adr)), (6, .one (.adr)), (7, .one (.adr)), (24, .one (.int .i64)), (25, .one (.int .i64))]) (ms := []) (id := 0) (nt := 41) (ws := [8, 25, 26, 27, 28, 29, 30, 31]) (N := 400) (G := (fun n x => graph_components_L0 n (x.1) (x.2.1) (x.2.2.1) (x.2.2.2.1) (x.2.2.2.2.1) (x.2.2.2.2.2.1) (x.2.2.2.2.2.2))) (T := fun n => ⟨lookC (graph_components_ct n) (graph_components_dt n), lookL (graph_components_L0_lt n), lookJ (graph_components_L0_jt0 n), graph_components_dr⟩)
    (by kernel_rfl) (fun _ => by kernel_rfl) (fun n x => by kernel_rfl) n (fun m hm => (tabs_ok (P := Tryz.prog) (body := (bodyOf Tryz.f80)) (W := (41, some [8, 25, 26, 27, 28, 29, 30, 31])) (cl := graph_components_ct m) (dl := graph_components_dt m) (ll := graph_components_L0_lt m) (dr := graph_components_dr) (fin := (finL1 [(1, .one (.adr)), (4, .one (.int .i64)), (5, .one (.adr)), (6, .one (.adr)), (7, .one (.adr)), (24, .one (.int .i64)), (25, .one (.int .i64))] [] 0 (fun x => graph_components_L0 m (x.1) (x.2.1) (x.2.2.1) (x.2.2.2.1) (x.2.2.2.2.1) (x.2.2.2.2.2.1) (x.2.2.2.2.2.2)))) (N := 400) (js := graph_components_L0_jt0 m) AllMo.nil AllOK.nil (AllD.cons (dent_ok (l := [⟨114, [.one (.adr), .one (.adr), .one (.adr), .one (.adr), .one (.adr), .one (.adr), .one (.adr), .one (.adr), .one (.adr)], fun a c => graph_components_1 m (a) (c.1) (c.2.1) (c.2.2.1) (c.2.2.2.1) (c.2.2.2.2.1) (c.2.2.2.2.2.1) (c.2.2.2.2.2.2.1) (c.2.2.2.2.2.2.2.1) (c.2.2.2.2.2.2.2.2)⟩]) (AllT.cons (fun a c => callOK_cast (by kernel_rfl) ((graph_components_1_ok m) (a, c.1, c.2.1, c.2.2.1, c.2.2.2.1, c.2.2.2.2.1, c.2.2.2.2.2.1, c.2.2.2.2.2.2.1, c.2.2.2.2.2.2.2.1, c.2.2.2.2.2.2.2.2))) AllT.nil) (fun x a => by kernel_rfl)) AllD.nil) AllL.nil AllJ.nil)) hW
theorem graph_components_ok (n : Nat) : FnOK Tryz.prog ⟨80, [.agg [.sl, .int .i64]], [.one (.sl), .one (.sl)], fun x => graph_components n (x)⟩ :=
  fn_ok (P := Tryz.prog) (e := ⟨80, [.agg [.sl, .int .i64]], [.one (.sl), .one (.sl)], fun x => graph_components n (x)⟩) (fn := Tryz.f80) (c := (bodyOf Tryz.f80)) (T := ⟨lookC (graph_components_ct n) (graph_components_dt n), lookL (graph_components_lt n), lookJ (graph_components_jt0 n), graph_components_dr⟩) (N := 400) (ps := [(0, .agg [.sl, .int .i64])])
    (by kernel_rfl) (by kernel_rfl) (by kernel_rfl) (by kernel_rfl) (by kernel_rfl) (tabs_ok (P := Tryz.prog) (body := (bodyOf Tryz.f80)) (W := (41, none)) (cl := graph_components_ct n) (dl := graph_components_dt n) (ll := graph_components_lt n) (dr := graph_components_dr) (fin := (finF Tryz.prog Tryz.f80 [.one (.sl), .one (.sl)])) (N := 400) (js := graph_components_jt0 n) AllMo.nil AllOK.nil (AllD.cons (dent_ok (l := [⟨114, [.one (.adr), .one (.adr), .one (.adr), .one (.adr), .one (.adr), .one (.adr), .one (.adr), .one (.adr), .one (.adr)], fun a c => graph_components_1 n (a) (c.1) (c.2.1) (c.2.2.1) (c.2.2.2.1) (c.2.2.2.2.1) (c.2.2.2.2.2.1) (c.2.2.2.2.2.2.1) (c.2.2.2.2.2.2.2.1) (c.2.2.2.2.2.2.2.2)⟩]) (AllT.cons (fun a c => callOK_cast (by kernel_rfl) ((graph_components_1_ok n) (a, c.1, c.2.1, c.2.2.1, c.2.2.2.1, c.2.2.2.2.1, c.2.2.2.2.2.1, c.2.2.2.2.2.2.1, c.2.2.2.2.2.2.2.1, c.2.2.2.2.2.2.2.2))) AllT.nil) (fun x a => by kernel_rfl)) AllD.nil) (AllL.cons (graph_components_L0_ok n (by kernel_rfl)) AllL.nil) AllJ.nil) (fun x => by kernel_rfl)
end Go.Sh
