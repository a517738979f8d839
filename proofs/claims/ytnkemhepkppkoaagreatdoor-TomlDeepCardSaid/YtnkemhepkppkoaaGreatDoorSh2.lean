/-
The shallow functions of this seat, part 2, and that each is sound; written by program. No theorem about what they compute stands here.
-/
import Derived.Test.YtnkemhepkppkoaaGreatDoorSh1
set_option maxRecDepth 100000
set_option maxHeartbeats 0
set_option linter.all false
namespace Go.Sh
open Go Go.Ago Go.Proofs
def toml_numeral (n : Nat) (a0 : ByteArray) : M (Bool) :=
  M.bind (newB none T_string [Value.string a0]) fun x0 =>
  M.bind (newB none T_i64 [vi 0]) fun x1 =>
  M.bind (stN (adr x1) [vi 0]) fun x2 =>
  M.bind (ldL (li) (adr x1)) fun (x3 : Int) =>
  M.bind (ldL .str (adr x0)) fun (x4 : ByteArray) =>
  if decide (x3 < (↑(ByteArray.size x4) : Int)) then
    M.bind (ldL .str (adr x0)) fun (x5 : ByteArray) =>
    M.bind (ldL (li) (adr x1)) fun (x6 : Int) =>
    M.bind (idxS x5 x6) fun x7 =>
    if decide ((↑x7.toNat : Int) = 45) then
      M.bind (ldL (li) (adr x1)) fun (x8 : Int) =>
      M.bind (stN (adr x1) [vi (IntKind.i64.wrap (x8 + 1))]) fun x9 =>
      M.bind (ldL (li) (adr x1)) fun (x10 : Int) =>
      M.bind (toml_numeral_1 n (adr x1) (adr x0)) fun x11 =>
      if decide (x11 = 0) then
        M.pure false
      else
        if decide (1 < x11) then
          M.bind (ldL .str (adr x0)) fun (x12 : ByteArray) =>
          M.bind (idxS x12 x10) fun x13 =>
          if decide ((↑x13.toNat : Int) = 48) then
            M.pure false
          else
            M.bind (ldL (li) (adr x1)) fun (x14 : Int) =>
            M.bind (ldL .str (adr x0)) fun (x15 : ByteArray) =>
            if decide (x14 < (↑(ByteArray.size x15) : Int)) then
              M.bind (ldL .str (adr x0)) fun (x16 : ByteArray) =>
              M.bind (ldL (li) (adr x1)) fun (x17 : Int) =>
              M.bind (idxS x16 x17) fun x18 =>
              if decide ((↑x18.toNat : Int) = 46) then
                M.bind (ldL (li) (adr x1)) fun (x19 : Int) =>
                M.bind (stN (adr x1) [vi (IntKind.i64.wrap (x19 + 1))]) fun x20 =>
                M.bind (toml_numeral_1 n (adr x1) (adr x0)) fun x21 =>
                if decide (x21 = 0) then
                  M.pure false
                else
                  M.bind (ldL (li) (adr x1)) fun (x22 : Int) =>
                  M.bind (ldL .str (adr x0)) fun (x23 : ByteArray) =>
                  if decide (x22 < (↑(ByteArray.size x23) : Int)) then
                    M.bind (ldL .str (adr x0)) fun (x24 : ByteArray) =>
                    M.bind (ldL (li) (adr x1)) fun (x25 : Int) =>
                    M.bind (idxS x24 x25) fun x26 =>
                    if decide ((↑x26.toNat : Int) = 101) then
                      M.bind (ldL (li) (adr x1)) fun (x27 : Int) =>
                      M.bind (stN (adr x1) [vi (IntKind.i64.wrap (x27 + 1))]) fun x28 =>
                      M.bind (ldL (li) (adr x1)) fun (x29 : Int) =>
                      M.bind (ldL .str (adr x0)) fun (x30 : ByteArray) =>
                      if decide (x29 < (↑(ByteArray.size x30) : Int)) then
                        M.bind (ldL .str (adr x0)) fun (x31 : ByteArray) =>
                        M.bind (ldL (li) (adr x1)) fun (x32 : Int) =>
                        M.bind (idxS x31 x32) fun x33 =>
                        if decide ((↑x33.toNat : Int) = 43) then
                          M.bind (ldL (li) (adr x1)) fun (x34 : Int) =>
                          M.bind (stN (adr x1) [vi (IntKind.i64.wrap (x34 + 1))]) fun x35 =>
                          M.bind (toml_numeral_1 n (adr x1) (adr x0)) fun x36 =>
                          if decide (x36 = 0) then
                            M.pure false
                          else
                            M.bind (ldL (li) (adr x1)) fun (x37 : Int) =>
                            M.bind (ldL .str (adr x0)) fun (x38 : ByteArray) =>
                            M.pure (decide (x37 = (↑(ByteArray.size x38) : Int)))
                        else
                          M.bind (ldL .str (adr x0)) fun (x34 : ByteArray) =>
                          M.bind (ldL (li) (adr x1)) fun (x35 : Int) =>
                          M.bind (idxS x34 x35) fun x36 =>
                          if decide ((↑x36.toNat : Int) = 45) then
                            M.bind (ldL (li) (adr x1)) fun (x37 : Int) =>
                            M.bind (stN (adr x1) [vi (IntKind.i64.wrap (x37 + 1))]) fun x38 =>
                            M.bind (toml_numeral_1 n (adr x1) (adr x0)) fun x39 =>
                            if decide (x39 = 0) then
                              M.pure false
                            else
                              M.bind (ldL (li) (adr x1)) fun (x40 : Int) =>
                              M.bind (ldL .str (adr x0)) fun (x41 : ByteArray) =>
                              M.pure (decide (x40 = (↑(ByteArray.size x41) : Int)))
                          else
                            M.bind (toml_numeral_1 n (adr x1) (adr x0)) fun x37 =>
                            if decide (x37 = 0) then
                              M.pure false
                            else
                              M.bind (ldL (li) (adr x1)) fun (x38 : Int) =>
                              M.bind (ldL .str (adr x0)) fun (x39 : ByteArray) =>
                              M.pure (decide (x38 = (↑(ByteArray.size x39) : Int)))
                      else
                        M.bind (toml_numeral_1 n (adr x1) (adr x0)) fun x31 =>
                        if decide (x31 = 0) then
                          M.pure false
                        else
                          M.bind (ldL (li) (adr x1)) fun (x32 : Int) =>
                          M.bind (ldL .str (adr x0)) fun (x33 : ByteArray) =>
                          M.pure (decide (x32 = (↑(ByteArray.size x33) : Int)))
                    else
                      M.bind (ldL .str (adr x0)) fun (x27 : ByteArray) =>
                      M.bind (ldL (li) (adr x1)) fun (x28 : Int) =>
                      M.bind (idxS x27 x28) fun x29 =>
                      if decide ((↑x29.toNat : Int) = 69) then
                        M.bind (ldL (li) (adr x1)) fun (x30 : Int) =>
                        M.bind (stN (adr x1) [vi (IntKind.i64.wrap (x30 + 1))]) fun x31 =>
                        M.bind (ldL (li) (adr x1)) fun (x32 : Int) =>
                        M.bind (ldL .str (adr x0)) fun (x33 : ByteArray) =>
                        if decide (x32 < (↑(ByteArray.size x33) : Int)) then
                          M.bind (ldL .str (adr x0)) fun (x34 : ByteArray) =>
                          M.bind (ldL (li) (adr x1)) fun (x35 : Int) =>
                          M.bind (idxS x34 x35) fun x36 =>
                          if decide ((↑x36.toNat : Int) = 43) then
                            M.bind (ldL (li) (adr x1)) fun (x37 : Int) =>
                            M.bind (stN (adr x1) [vi (IntKind.i64.wrap (x37 + 1))]) fun x38 =>
                            M.bind (toml_numeral_1 n (adr x1) (adr x0)) fun x39 =>
                            if decide (x39 = 0) then
                              M.pure false
                            else
                              M.bind (ldL (li) (adr x1)) fun (x40 : Int) =>
                              M.bind (ldL .str (adr x0)) fun (x41 : ByteArray) =>
                              M.pure (decide (x40 = (↑(ByteArray.size x41) : Int)))
                          else
                            M.bind (ldL .str (adr x0)) fun (x37 : ByteArray) =>
                            M.bind (ldL (li) (adr x1)) fun (x38 : Int) =>
                            M.bind (idxS x37 x38) fun x39 =>
                            if decide ((↑x39.toNat : Int) = 45) then
                              M.bind (ldL (li) (adr x1)) fun (x40 : Int) =>
                              M.bind (stN (adr x1) [vi (IntKind.i64.wrap (x40 + 1))]) fun x41 =>
                              M.bind (toml_numeral_1 n (adr x1) (adr x0)) fun x42 =>
                              if decide (x42 = 0) then
                                M.pure false
                              else
                                M.bind (ldL (li) (adr x1)) fun (x43 : Int) =>
                                M.bind (ldL .str (adr x0)) fun (x44 : ByteArray) =>
                                M.pure (decide (x43 = (↑(ByteArray.size x44) : Int)))
                            else
                              M.bind (toml_numeral_1 n (adr x1) (adr x0)) fun x40 =>
                              if decide (x40 = 0) then
                                M.pure false
                              else
                                M.bind (ldL (li) (adr x1)) fun (x41 : Int) =>
                                M.bind (ldL .str (adr x0)) fun (x42 : ByteArray) =>
                                M.pure (decide (x41 = (↑(ByteArray.size x42) : Int)))
                        else
                          M.bind (toml_numeral_1 n (adr x1) (adr x0)) fun x34 =>
                          if decide (x34 = 0) then
                            M.pure false
                          else
                            M.bind (ldL (li) (adr x1)) fun (x35 : Int) =>
                            M.bind (ldL .str (adr x0)) fun (x36 : ByteArray) =>
                            M.pure (decide (x35 = (↑(ByteArray.size x36) : Int)))
                      else
                        M.bind (ldL (li) (adr x1)) fun (x30 : Int) =>
                        M.bind (ldL .str (adr x0)) fun (x31 : ByteArray) =>
                        M.pure (decide (x30 = (↑(ByteArray.size x31) : Int)))
                  else
                    M.bind (ldL (li) (adr x1)) fun (x24 : Int) =>
                    M.bind (ldL .str (adr x0)) fun (x25 : ByteArray) =>
                    M.pure (decide (x24 = (↑(ByteArray.size x25) : Int)))
              else
                M.bind (ldL (li) (adr x1)) fun (x19 : Int) =>
                M.bind (ldL .str (adr x0)) fun (x20 : ByteArray) =>
                if decide (x19 < (↑(ByteArray.size x20) : Int)) then
                  M.bind (ldL .str (adr x0)) fun (x21 : ByteArray) =>
                  M.bind (ldL (li) (adr x1)) fun (x22 : Int) =>
                  M.bind (idxS x21 x22) fun x23 =>
                  if decide ((↑x23.toNat : Int) = 101) then
                    M.bind (ldL (li) (adr x1)) fun (x24 : Int) =>
                    M.bind (stN (adr x1) [vi (IntKind.i64.wrap (x24 + 1))]) fun x25 =>
                    M.bind (ldL (li) (adr x1)) fun (x26 : Int) =>
                    M.bind (ldL .str (adr x0)) fun (x27 : ByteArray) =>
                    if decide (x26 < (↑(ByteArray.size x27) : Int)) then
                      M.bind (ldL .str (adr x0)) fun (x28 : ByteArray) =>
                      M.bind (ldL (li) (adr x1)) fun (x29 : Int) =>
                      M.bind (idxS x28 x29) fun x30 =>
                      if decide ((↑x30.toNat : Int) = 43) then
                        M.bind (ldL (li) (adr x1)) fun (x31 : Int) =>
                        M.bind (stN (adr x1) [vi (IntKind.i64.wrap (x31 + 1))]) fun x32 =>
                        M.bind (toml_numeral_1 n (adr x1) (adr x0)) fun x33 =>
                        if decide (x33 = 0) then
                          M.pure false
                        else
                          M.bind (ldL (li) (adr x1)) fun (x34 : Int) =>
                          M.bind (ldL .str (adr x0)) fun (x35 : ByteArray) =>
                          M.pure (decide (x34 = (↑(ByteArray.size x35) : Int)))
                      else
                        M.bind (ldL .str (adr x0)) fun (x31 : ByteArray) =>
                        M.bind (ldL (li) (adr x1)) fun (x32 : Int) =>
                        M.bind (idxS x31 x32) fun x33 =>
                        if decide ((↑x33.toNat : Int) = 45) then
                          M.bind (ldL (li) (adr x1)) fun (x34 : Int) =>
                          M.bind (stN (adr x1) [vi (IntKind.i64.wrap (x34 + 1))]) fun x35 =>
                          M.bind (toml_numeral_1 n (adr x1) (adr x0)) fun x36 =>
                          if decide (x36 = 0) then
                            M.pure false
                          else
                            M.bind (ldL (li) (adr x1)) fun (x37 : Int) =>
                            M.bind (ldL .str (adr x0)) fun (x38 : ByteArray) =>
                            M.pure (decide (x37 = (↑(ByteArray.size x38) : Int)))
                        else
                          M.bind (toml_numeral_1 n (adr x1) (adr x0)) fun x34 =>
                          if decide (x34 = 0) then
                            M.pure false
                          else
                            M.bind (ldL (li) (adr x1)) fun (x35 : Int) =>
                            M.bind (ldL .str (adr x0)) fun (x36 : ByteArray) =>
                            M.pure (decide (x35 = (↑(ByteArray.size x36) : Int)))
                    else
                      M.bind (toml_numeral_1 n (adr x1) (adr x0)) fun x28 =>
                      if decide (x28 = 0) then
                        M.pure false
                      else
                        M.bind (ldL (li) (adr x1)) fun (x29 : Int) =>
                        M.bind (ldL .str (adr x0)) fun (x30 : ByteArray) =>
                        M.pure (decide (x29 = (↑(ByteArray.size x30) : Int)))
                  else
                    M.bind (ldL .str (adr x0)) fun (x24 : ByteArray) =>
                    M.bind (ldL (li) (adr x1)) fun (x25 : Int) =>
                    M.bind (idxS x24 x25) fun x26 =>
                    if decide ((↑x26.toNat : Int) = 69) then
                      M.bind (ldL (li) (adr x1)) fun (x27 : Int) =>
                      M.bind (stN (adr x1) [vi (IntKind.i64.wrap (x27 + 1))]) fun x28 =>
                      M.bind (ldL (li) (adr x1)) fun (x29 : Int) =>
                      M.bind (ldL .str (adr x0)) fun (x30 : ByteArray) =>
                      if decide (x29 < (↑(ByteArray.size x30) : Int)) then
                        M.bind (ldL .str (adr x0)) fun (x31 : ByteArray) =>
                        M.bind (ldL (li) (adr x1)) fun (x32 : Int) =>
                        M.bind (idxS x31 x32) fun x33 =>
                        if decide ((↑x33.toNat : Int) = 43) then
                          M.bind (ldL (li) (adr x1)) fun (x34 : Int) =>
                          M.bind (stN (adr x1) [vi (IntKind.i64.wrap (x34 + 1))]) fun x35 =>
                          M.bind (toml_numeral_1 n (adr x1) (adr x0)) fun x36 =>
                          if decide (x36 = 0) then
                            M.pure false
                          else
                            M.bind (ldL (li) (adr x1)) fun (x37 : Int) =>
                            M.bind (ldL .str (adr x0)) fun (x38 : ByteArray) =>
                            M.pure (decide (x37 = (↑(ByteArray.size x38) : Int)))
                        else
                          M.bind (ldL .str (adr x0)) fun (x34 : ByteArray) =>
                          M.bind (ldL (li) (adr x1)) fun (x35 : Int) =>
                          M.bind (idxS x34 x35) fun x36 =>
                          if decide ((↑x36.toNat : Int) = 45) then
                            M.bind (ldL (li) (adr x1)) fun (x37 : Int) =>
                            M.bind (stN (adr x1) [vi (IntKind.i64.wrap (x37 + 1))]) fun x38 =>
                            M.bind (toml_numeral_1 n (adr x1) (adr x0)) fun x39 =>
                            if decide (x39 = 0) then
                              M.pure false
                            else
                              M.bind (ldL (li) (adr x1)) fun (x40 : Int) =>
                              M.bind (ldL .str (adr x0)) fun (x41 : ByteArray) =>
                              M.pure (decide (x40 = (↑(ByteArray.size x41) : Int)))
                          else
                            M.bind (toml_numeral_1 n (adr x1) (adr x0)) fun x37 =>
                            if decide (x37 = 0) then
                              M.pure false
                            else
                              M.bind (ldL (li) (adr x1)) fun (x38 : Int) =>
                              M.bind (ldL .str (adr x0)) fun (x39 : ByteArray) =>
                              M.pure (decide (x38 = (↑(ByteArray.size x39) : Int)))
                      else
                        M.bind (toml_numeral_1 n (adr x1) (adr x0)) fun x31 =>
                        if decide (x31 = 0) then
                          M.pure false
                        else
                          M.bind (ldL (li) (adr x1)) fun (x32 : Int) =>
                          M.bind (ldL .str (adr x0)) fun (x33 : ByteArray) =>
                          M.pure (decide (x32 = (↑(ByteArray.size x33) : Int)))
                    else
                      M.bind (ldL (li) (adr x1)) fun (x27 : Int) =>
                      M.bind (ldL .str (adr x0)) fun (x28 : ByteArray) =>
                      M.pure (decide (x27 = (↑(ByteArray.size x28) : Int)))
                else
                  M.bind (ldL (li) (adr x1)) fun (x21 : Int) =>
                  M.bind (ldL .str (adr x0)) fun (x22 : ByteArray) =>
                  M.pure (decide (x21 = (↑(ByteArray.size x22) : Int)))
            else
              M.bind (ldL (li) (adr x1)) fun (x16 : Int) =>
              M.bind (ldL .str (adr x0)) fun (x17 : ByteArray) =>
              if decide (x16 < (↑(ByteArray.size x17) : Int)) then
                M.bind (ldL .str (adr x0)) fun (x18 : ByteArray) =>
                M.bind (ldL (li) (adr x1)) fun (x19 : Int) =>
                M.bind (idxS x18 x19) fun x20 =>
                if decide ((↑x20.toNat : Int) = 101) then
                  M.bind (ldL (li) (adr x1)) fun (x21 : Int) =>
                  M.bind (stN (adr x1) [vi (IntKind.i64.wrap (x21 + 1))]) fun x22 =>
                  M.bind (ldL (li) (adr x1)) fun (x23 : Int) =>
                  M.bind (ldL .str (adr x0)) fun (x24 : ByteArray) =>
                  if decide (x23 < (↑(ByteArray.size x24) : Int)) then
                    M.bind (ldL .str (adr x0)) fun (x25 : ByteArray) =>
                    M.bind (ldL (li) (adr x1)) fun (x26 : Int) =>
                    M.bind (idxS x25 x26) fun x27 =>
                    if decide ((↑x27.toNat : Int) = 43) then
                      M.bind (ldL (li) (adr x1)) fun (x28 : Int) =>
                      M.bind (stN (adr x1) [vi (IntKind.i64.wrap (x28 + 1))]) fun x29 =>
                      M.bind (toml_numeral_1 n (adr x1) (adr x0)) fun x30 =>
                      if decide (x30 = 0) then
                        M.pure false
                      else
                        M.bind (ldL (li) (adr x1)) fun (x31 : Int) =>
                        M.bind (ldL .str (adr x0)) fun (x32 : ByteArray) =>
                        M.pure (decide (x31 = (↑(ByteArray.size x32) : Int)))
                    else
                      M.bind (ldL .str (adr x0)) fun (x28 : ByteArray) =>
                      M.bind (ldL (li) (adr x1)) fun (x29 : Int) =>
                      M.bind (idxS x28 x29) fun x30 =>
                      if decide ((↑x30.toNat : Int) = 45) then
                        M.bind (ldL (li) (adr x1)) fun (x31 : Int) =>
                        M.bind (stN (adr x1) [vi (IntKind.i64.wrap (x31 + 1))]) fun x32 =>
                        M.bind (toml_numeral_1 n (adr x1) (adr x0)) fun x33 =>
                        if decide (x33 = 0) then
                          M.pure false
                        else
                          M.bind (ldL (li) (adr x1)) fun (x34 : Int) =>
                          M.bind (ldL .str (adr x0)) fun (x35 : ByteArray) =>
                          M.pure (decide (x34 = (↑(ByteArray.size x35) : Int)))
                      else
                        M.bind (toml_numeral_1 n (adr x1) (adr x0)) fun x31 =>
                        if decide (x31 = 0) then
                          M.pure false
                        else
                          M.bind (ldL (li) (adr x1)) fun (x32 : Int) =>
                          M.bind (ldL .str (adr x0)) fun (x33 : ByteArray) =>
                          M.pure (decide (x32 = (↑(ByteArray.size x33) : Int)))
                  else
                    M.bind (toml_numeral_1 n (adr x1) (adr x0)) fun x25 =>
                    if decide (x25 = 0) then
                      M.pure false
                    else
                      M.bind (ldL (li) (adr x1)) fun (x26 : Int) =>
                      M.bind (ldL .str (adr x0)) fun (x27 : ByteArray) =>
                      M.pure (decide (x26 = (↑(ByteArray.size x27) : Int)))
                else
                  M.bind (ldL .str (adr x0)) fun (x21 : ByteArray) =>
                  M.bind (ldL (li) (adr x1)) fun (x22 : Int) =>
                  M.bind (idxS x21 x22) fun x23 =>
                  if decide ((↑x23.toNat : Int) = 69) then
                    M.bind (ldL (li) (adr x1)) fun (x24 : Int) =>
                    M.bind (stN (adr x1) [vi (IntKind.i64.wrap (x24 + 1))]) fun x25 =>
                    M.bind (ldL (li) (adr x1)) fun (x26 : Int) =>
                    M.bind (ldL .str (adr x0)) fun (x27 : ByteArray) =>
                    if decide (x26 < (↑(ByteArray.size x27) : Int)) then
                      M.bind (ldL .str (adr x0)) fun (x28 : ByteArray) =>
                      M.bind (ldL (li) (adr x1)) fun (x29 : Int) =>
                      M.bind (idxS x28 x29) fun x30 =>
                      if decide ((↑x30.toNat : Int) = 43) then
                        M.bind (ldL (li) (adr x1)) fun (x31 : Int) =>
                        M.bind (stN (adr x1) [vi (IntKind.i64.wrap (x31 + 1))]) fun x32 =>
                        M.bind (toml_numeral_1 n (adr x1) (adr x0)) fun x33 =>
                        if decide (x33 = 0) then
                          M.pure false
                        else
                          M.bind (ldL (li) (adr x1)) fun (x34 : Int) =>
                          M.bind (ldL .str (adr x0)) fun (x35 : ByteArray) =>
                          M.pure (decide (x34 = (↑(ByteArray.size x35) : Int)))
                      else
                        M.bind (ldL .str (adr x0)) fun (x31 : ByteArray) =>
                        M.bind (ldL (li) (adr x1)) fun (x32 : Int) =>
                        M.bind (idxS x31 x32) fun x33 =>
                        if decide ((↑x33.toNat : Int) = 45) then
                          M.bind (ldL (li) (adr x1)) fun (x34 : Int) =>
                          M.bind (stN (adr x1) [vi (IntKind.i64.wrap (x34 + 1))]) fun x35 =>
                          M.bind (toml_numeral_1 n (adr x1) (adr x0)) fun x36 =>
                          if decide (x36 = 0) then
                            M.pure false
                          else
                            M.bind (ldL (li) (adr x1)) fun (x37 : Int) =>
                            M.bind (ldL .str (adr x0)) fun (x38 : ByteArray) =>
                            M.pure (decide (x37 = (↑(ByteArray.size x38) : Int)))
                        else
                          M.bind (toml_numeral_1 n (adr x1) (adr x0)) fun x34 =>
                          if decide (x34 = 0) then
                            M.pure false
                          else
                            M.bind (ldL (li) (adr x1)) fun (x35 : Int) =>
                            M.bind (ldL .str (adr x0)) fun (x36 : ByteArray) =>
                            M.pure (decide (x35 = (↑(ByteArray.size x36) : Int)))
                    else
                      M.bind (toml_numeral_1 n (adr x1) (adr x0)) fun x28 =>
                      if decide (x28 = 0) then
                        M.pure false
                      else
                        M.bind (ldL (li) (adr x1)) fun (x29 : Int) =>
                        M.bind (ldL .str (adr x0)) fun (x30 : ByteArray) =>
                        M.pure (decide (x29 = (↑(ByteArray.size x30) : Int)))
                  else
                    M.bind (ldL (li) (adr x1)) fun (x24 : Int) =>
                    M.bind (ldL .str (adr x0)) fun (x25 : ByteArray) =>
                    M.pure (decide (x24 = (↑(ByteArray.size x25) : Int)))
              else
                M.bind (ldL (li) (adr x1)) fun (x18 : Int) =>
                M.bind (ldL .str (adr x0)) fun (x19 : ByteArray) =>
                M.pure (decide (x18 = (↑(ByteArray.size x19) : Int)))
        else
          M.bind (ldL (li) (adr x1)) fun (x12 : Int) =>
          M.bind (ldL .str (adr x0)) fun (x13 : ByteArray) =>
          if decide (x12 < (↑(ByteArray.size x13) : Int)) then
            M.bind (ldL .str (adr x0)) fun (x14 : ByteArray) =>
            M.bind (ldL (li) (adr x1)) fun (x15 : Int) =>
            M.bind (idxS x14 x15) fun x16 =>
            if decide ((↑x16.toNat : Int) = 46) then
              M.bind (ldL (li) (adr x1)) fun (x17 : Int) =>
              M.bind (stN (adr x1) [vi (IntKind.i64.wrap (x17 + 1))]) fun x18 =>
              M.bind (toml_numeral_1 n (adr x1) (adr x0)) fun x19 =>
              if decide (x19 = 0) then
                M.pure false
              else
                M.bind (ldL (li) (adr x1)) fun (x20 : Int) =>
                M.bind (ldL .str (adr x0)) fun (x21 : ByteArray) =>
                if decide (x20 < (↑(ByteArray.size x21) : Int)) then
                  M.bind (ldL .str (adr x0)) fun (x22 : ByteArray) =>
                  M.bind (ldL (li) (adr x1)) fun (x23 : Int) =>
                  M.bind (idxS x22 x23) fun x24 =>
                  if decide ((↑x24.toNat : Int) = 101) then
                    M.bind (ldL (li) (adr x1)) fun (x25 : Int) =>
                    M.bind (stN (adr x1) [vi (IntKind.i64.wrap (x25 + 1))]) fun x26 =>
                    M.bind (ldL (li) (adr x1)) fun (x27 : Int) =>
                    M.bind (ldL .str (adr x0)) fun (x28 : ByteArray) =>
                    if decide (x27 < (↑(ByteArray.size x28) : Int)) then
                      M.bind (ldL .str (adr x0)) fun (x29 : ByteArray) =>
                      M.bind (ldL (li) (adr x1)) fun (x30 : Int) =>
                      M.bind (idxS x29 x30) fun x31 =>
                      if decide ((↑x31.toNat : Int) = 43) then
                        M.bind (ldL (li) (adr x1)) fun (x32 : Int) =>
                        M.bind (stN (adr x1) [vi (IntKind.i64.wrap (x32 + 1))]) fun x33 =>
                        M.bind (toml_numeral_1 n (adr x1) (adr x0)) fun x34 =>
                        if decide (x34 = 0) then
                          M.pure false
                        else
                          M.bind (ldL (li) (adr x1)) fun (x35 : Int) =>
                          M.bind (ldL .str (adr x0)) fun (x36 : ByteArray) =>
                          M.pure (decide (x35 = (↑(ByteArray.size x36) : Int)))
                      else
                        M.bind (ldL .str (adr x0)) fun (x32 : ByteArray) =>
                        M.bind (ldL (li) (adr x1)) fun (x33 : Int) =>
                        M.bind (idxS x32 x33) fun x34 =>
                        if decide ((↑x34.toNat : Int) = 45) then
                          M.bind (ldL (li) (adr x1)) fun (x35 : Int) =>
                          M.bind (stN (adr x1) [vi (IntKind.i64.wrap (x35 + 1))]) fun x36 =>
                          M.bind (toml_numeral_1 n (adr x1) (adr x0)) fun x37 =>
                          if decide (x37 = 0) then
                            M.pure false
                          else
                            M.bind (ldL (li) (adr x1)) fun (x38 : Int) =>
                            M.bind (ldL .str (adr x0)) fun (x39 : ByteArray) =>
                            M.pure (decide (x38 = (↑(ByteArray.size x39) : Int)))
                        else
                          M.bind (toml_numeral_1 n (adr x1) (adr x0)) fun x35 =>
                          if decide (x35 = 0) then
                            M.pure false
                          else
                            M.bind (ldL (li) (adr x1)) fun (x36 : Int) =>
                            M.bind (ldL .str (adr x0)) fun (x37 : ByteArray) =>
                            M.pure (decide (x36 = (↑(ByteArray.size x37) : Int)))
                    else
                      M.bind (toml_numeral_1 n (adr x1) (adr x0)) fun x29 =>
                      if decide (x29 = 0) then
                        M.pure false
                      else
                        M.bind (ldL (li) (adr x1)) fun (x30 : Int) =>
                        M.bind (ldL .str (adr x0)) fun (x31 : ByteArray) =>
                        M.pure (decide (x30 = (↑(ByteArray.size x31) : Int)))
                  else
                    M.bind (ldL .str (adr x0)) fun (x25 : ByteArray) =>
                    M.bind (ldL (li) (adr x1)) fun (x26 : Int) =>
                    M.bind (idxS x25 x26) fun x27 =>
                    if decide ((↑x27.toNat : Int) = 69) then
                      M.bind (ldL (li) (adr x1)) fun (x28 : Int) =>
                      M.bind (stN (adr x1) [vi (IntKind.i64.wrap (x28 + 1))]) fun x29 =>
                      M.bind (ldL (li) (adr x1)) fun (x30 : Int) =>
                      M.bind (ldL .str (adr x0)) fun (x31 : ByteArray) =>
                      if decide (x30 < (↑(ByteArray.size x31) : Int)) then
                        M.bind (ldL .str (adr x0)) fun (x32 : ByteArray) =>
                        M.bind (ldL (li) (adr x1)) fun (x33 : Int) =>
                        M.bind (idxS x32 x33) fun x34 =>
                        if decide ((↑x34.toNat : Int) = 43) then
                          M.bind (ldL (li) (adr x1)) fun (x35 : Int) =>
                          M.bind (stN (adr x1) [vi (IntKind.i64.wrap (x35 + 1))]) fun x36 =>
                          M.bind (toml_numeral_1 n (adr x1) (adr x0)) fun x37 =>
                          if decide (x37 = 0) then
                            M.pure false
                          else
                            M.bind (ldL (li) (adr x1)) fun (x38 : Int) =>
                            M.bind (ldL .str (adr x0)) fun (x39 : ByteArray) =>
                            M.pure (decide (x38 = (↑(ByteArray.size x39) : Int)))
                        else
                          M.bind (ldL .str (adr x0)) fun (x35 : ByteArray) =>
                          M.bind (ldL (li) (adr x1)) fun (x36 : Int) =>
                          M.bind (idxS x35 x36) fun x37 =>
                          if decide ((↑x37.toNat : Int) = 45) then
                            M.bind (ldL (li) (adr x1)) fun (x38 : Int) =>
                            M.bind (stN (adr x1) [vi (IntKind.i64.wrap (x38 + 1))]) fun x39 =>
                            M.bind (toml_numeral_1 n (adr x1) (adr x0)) fun x40 =>
                            if decide (x40 = 0) then
                              M.pure false
                            else
                              M.bind (ldL (li) (adr x1)) fun (x41 : Int) =>
                              M.bind (ldL .str (adr x0)) fun (x42 : ByteArray) =>
                              M.pure (decide (x41 = (↑(ByteArray.size x42) : Int)))
                          else
                            M.bind (toml_numeral_1 n (adr x1) (adr x0)) fun x38 =>
                            if decide (x38 = 0) then
                              M.pure false
                            else
                              M.bind (ldL (li) (adr x1)) fun (x39 : Int) =>
                              M.bind (ldL .str (adr x0)) fun (x40 : ByteArray) =>
                              M.pure (decide (x39 = (↑(ByteArray.size x40) : Int)))
                      else
                        M.bind (toml_numeral_1 n (adr x1) (adr x0)) fun x32 =>
                        if decide (x32 = 0) then
                          M.pure false
                        else
                          M.bind (ldL (li) (adr x1)) fun (x33 : Int) =>
                          M.bind (ldL .str (adr x0)) fun (x34 : ByteArray) =>
                          M.pure (decide (x33 = (↑(ByteArray.size x34) : Int)))
                    else
                      M.bind (ldL (li) (adr x1)) fun (x28 : Int) =>
                      M.bind (ldL .str (adr x0)) fun (x29 : ByteArray) =>
                      M.pure (decide (x28 = (↑(ByteArray.size x29) : Int)))
                else
                  M.bind (ldL (li) (adr x1)) fun (x22 : Int) =>
                  M.bind (ldL .str (adr x0)) fun (x23 : ByteArray) =>
                  M.pure (decide (x22 = (↑(ByteArray.size x23) : Int)))
            else
              M.bind (ldL (li) (adr x1)) fun (x17 : Int) =>
              M.bind (ldL .str (adr x0)) fun (x18 : ByteArray) =>
              if decide (x17 < (↑(ByteArray.size x18) : Int)) then
                M.bind (ldL .str (adr x0)) fun (x19 : ByteArray) =>
                M.bind (ldL (li) (adr x1)) fun (x20 : Int) =>
                M.bind (idxS x19 x20) fun x21 =>
                if decide ((↑x21.toNat : Int) = 101) then
                  M.bind (ldL (li) (adr x1)) fun (x22 : Int) =>
                  M.bind (stN (adr x1) [vi (IntKind.i64.wrap (x22 + 1))]) fun x23 =>
                  M.bind (ldL (li) (adr x1)) fun (x24 : Int) =>
                  M.bind (ldL .str (adr x0)) fun (x25 : ByteArray) =>
                  if decide (x24 < (↑(ByteArray.size x25) : Int)) then
                    M.bind (ldL .str (adr x0)) fun (x26 : ByteArray) =>
                    M.bind (ldL (li) (adr x1)) fun (x27 : Int) =>
                    M.bind (idxS x26 x27) fun x28 =>
                    if decide ((↑x28.toNat : Int) = 43) then
                      M.bind (ldL (li) (adr x1)) fun (x29 : Int) =>
                      M.bind (stN (adr x1) [vi (IntKind.i64.wrap (x29 + 1))]) fun x30 =>
                      M.bind (toml_numeral_1 n (adr x1) (adr x0)) fun x31 =>
                      if decide (x31 = 0) then
                        M.pure false
                      else
                        M.bind (ldL (li) (adr x1)) fun (x32 : Int) =>
                        M.bind (ldL .str (adr x0)) fun (x33 : ByteArray) =>
                        M.pure (decide (x32 = (↑(ByteArray.size x33) : Int)))
                    else
                      M.bind (ldL .str (adr x0)) fun (x29 : ByteArray) =>
                      M.bind (ldL (li) (adr x1)) fun (x30 : Int) =>
                      M.bind (idxS x29 x30) fun x31 =>
                      if decide ((↑x31.toNat : Int) = 45) then
                        M.bind (ldL (li) (adr x1)) fun (x32 : Int) =>
                        M.bind (stN (adr x1) [vi (IntKind.i64.wrap (x32 + 1))]) fun x33 =>
                        M.bind (toml_numeral_1 n (adr x1) (adr x0)) fun x34 =>
                        if decide (x34 = 0) then
                          M.pure false
                        else
                          M.bind (ldL (li) (adr x1)) fun (x35 : Int) =>
                          M.bind (ldL .str (adr x0)) fun (x36 : ByteArray) =>
                          M.pure (decide (x35 = (↑(ByteArray.size x36) : Int)))
                      else
                        M.bind (toml_numeral_1 n (adr x1) (adr x0)) fun x32 =>
                        if decide (x32 = 0) then
                          M.pure false
                        else
                          M.bind (ldL (li) (adr x1)) fun (x33 : Int) =>
                          M.bind (ldL .str (adr x0)) fun (x34 : ByteArray) =>
                          M.pure (decide (x33 = (↑(ByteArray.size x34) : Int)))
                  else
                    M.bind (toml_numeral_1 n (adr x1) (adr x0)) fun x26 =>
                    if decide (x26 = 0) then
                      M.pure false
                    else
                      M.bind (ldL (li) (adr x1)) fun (x27 : Int) =>
                      M.bind (ldL .str (adr x0)) fun (x28 : ByteArray) =>
                      M.pure (decide (x27 = (↑(ByteArray.size x28) : Int)))
                else
                  M.bind (ldL .str (adr x0)) fun (x22 : ByteArray) =>
                  M.bind (ldL (li) (adr x1)) fun (x23 : Int) =>
                  M.bind (idxS x22 x23) fun x24 =>
                  if decide ((↑x24.toNat : Int) = 69) then
                    M.bind (ldL (li) (adr x1)) fun (x25 : Int) =>
                    M.bind (stN (adr x1) [vi (IntKind.i64.wrap (x25 + 1))]) fun x26 =>
                    M.bind (ldL (li) (adr x1)) fun (x27 : Int) =>
                    M.bind (ldL .str (adr x0)) fun (x28 : ByteArray) =>
                    if decide (x27 < (↑(ByteArray.size x28) : Int)) then
                      M.bind (ldL .str (adr x0)) fun (x29 : ByteArray) =>
                      M.bind (ldL (li) (adr x1)) fun (x30 : Int) =>
                      M.bind (idxS x29 x30) fun x31 =>
                      if decide ((↑x31.toNat : Int) = 43) then
                        M.bind (ldL (li) (adr x1)) fun (x32 : Int) =>
                        M.bind (stN (adr x1) [vi (IntKind.i64.wrap (x32 + 1))]) fun x33 =>
                        M.bind (toml_numeral_1 n (adr x1) (adr x0)) fun x34 =>
                        if decide (x34 = 0) then
                          M.pure false
                        else
                          M.bind (ldL (li) (adr x1)) fun (x35 : Int) =>
                          M.bind (ldL .str (adr x0)) fun (x36 : ByteArray) =>
                          M.pure (decide (x35 = (↑(ByteArray.size x36) : Int)))
                      else
                        M.bind (ldL .str (adr x0)) fun (x32 : ByteArray) =>
                        M.bind (ldL (li) (adr x1)) fun (x33 : Int) =>
                        M.bind (idxS x32 x33) fun x34 =>
                        if decide ((↑x34.toNat : Int) = 45) then
                          M.bind (ldL (li) (adr x1)) fun (x35 : Int) =>
                          M.bind (stN (adr x1) [vi (IntKind.i64.wrap (x35 + 1))]) fun x36 =>
                          M.bind (toml_numeral_1 n (adr x1) (adr x0)) fun x37 =>
                          if decide (x37 = 0) then
                            M.pure false
                          else
                            M.bind (ldL (li) (adr x1)) fun (x38 : Int) =>
                            M.bind (ldL .str (adr x0)) fun (x39 : ByteArray) =>
                            M.pure (decide (x38 = (↑(ByteArray.size x39) : Int)))
                        else
                          M.bind (toml_numeral_1 n (adr x1) (adr x0)) fun x35 =>
                          if decide (x35 = 0) then
                            M.pure false
                          else
                            M.bind (ldL (li) (adr x1)) fun (x36 : Int) =>
                            M.bind (ldL .str (adr x0)) fun (x37 : ByteArray) =>
                            M.pure (decide (x36 = (↑(ByteArray.size x37) : Int)))
                    else
                      M.bind (toml_numeral_1 n (adr x1) (adr x0)) fun x29 =>
                      if decide (x29 = 0) then
                        M.pure false
                      else
                        M.bind (ldL (li) (adr x1)) fun (x30 : Int) =>
                        M.bind (ldL .str (adr x0)) fun (x31 : ByteArray) =>
                        M.pure (decide (x30 = (↑(ByteArray.size x31) : Int)))
                  else
                    M.bind (ldL (li) (adr x1)) fun (x25 : Int) =>
                    M.bind (ldL .str (adr x0)) fun (x26 : ByteArray) =>
                    M.pure (decide (x25 = (↑(ByteArray.size x26) : Int)))
              else
                M.bind (ldL (li) (adr x1)) fun (x19 : Int) =>
                M.bind (ldL .str (adr x0)) fun (x20 : ByteArray) =>
                M.pure (decide (x19 = (↑(ByteArray.size x20) : Int)))
          else
            M.bind (ldL (li) (adr x1)) fun (x14 : Int) =>
            M.bind (ldL .str (adr x0)) fun (x15 : ByteArray) =>
            if decide (x14 < (↑(ByteArray.size x15) : Int)) then
              M.bind (ldL .str (adr x0)) fun (x16 : ByteArray) =>
              M.bind (ldL (li) (adr x1)) fun (x17 : Int) =>
              M.bind (idxS x16 x17) fun x18 =>
              if decide ((↑x18.toNat : Int) = 101) then
                M.bind (ldL (li) (adr x1)) fun (x19 : Int) =>
                M.bind (stN (adr x1) [vi (IntKind.i64.wrap (x19 + 1))]) fun x20 =>
                M.bind (ldL (li) (adr x1)) fun (x21 : Int) =>
                M.bind (ldL .str (adr x0)) fun (x22 : ByteArray) =>
                if decide (x21 < (↑(ByteArray.size x22) : Int)) then
                  M.bind (ldL .str (adr x0)) fun (x23 : ByteArray) =>
                  M.bind (ldL (li) (adr x1)) fun (x24 : Int) =>
                  M.bind (idxS x23 x24) fun x25 =>
                  if decide ((↑x25.toNat : Int) = 43) then
                    M.bind (ldL (li) (adr x1)) fun (x26 : Int) =>
                    M.bind (stN (adr x1) [vi (IntKind.i64.wrap (x26 + 1))]) fun x27 =>
                    M.bind (toml_numeral_1 n (adr x1) (adr x0)) fun x28 =>
                    if decide (x28 = 0) then
                      M.pure false
                    else
                      M.bind (ldL (li) (adr x1)) fun (x29 : Int) =>
                      M.bind (ldL .str (adr x0)) fun (x30 : ByteArray) =>
                      M.pure (decide (x29 = (↑(ByteArray.size x30) : Int)))
                  else
                    M.bind (ldL .str (adr x0)) fun (x26 : ByteArray) =>
                    M.bind (ldL (li) (adr x1)) fun (x27 : Int) =>
                    M.bind (idxS x26 x27) fun x28 =>
                    if decide ((↑x28.toNat : Int) = 45) then
                      M.bind (ldL (li) (adr x1)) fun (x29 : Int) =>
                      M.bind (stN (adr x1) [vi (IntKind.i64.wrap (x29 + 1))]) fun x30 =>
                      M.bind (toml_numeral_1 n (adr x1) (adr x0)) fun x31 =>
                      if decide (x31 = 0) then
                        M.pure false
                      else
                        M.bind (ldL (li) (adr x1)) fun (x32 : Int) =>
                        M.bind (ldL .str (adr x0)) fun (x33 : ByteArray) =>
                        M.pure (decide (x32 = (↑(ByteArray.size x33) : Int)))
                    else
                      M.bind (toml_numeral_1 n (adr x1) (adr x0)) fun x29 =>
                      if decide (x29 = 0) then
                        M.pure false
                      else
                        M.bind (ldL (li) (adr x1)) fun (x30 : Int) =>
                        M.bind (ldL .str (adr x0)) fun (x31 : ByteArray) =>
                        M.pure (decide (x30 = (↑(ByteArray.size x31) : Int)))
                else
                  M.bind (toml_numeral_1 n (adr x1) (adr x0)) fun x23 =>
                  if decide (x23 = 0) then
                    M.pure false
                  else
                    M.bind (ldL (li) (adr x1)) fun (x24 : Int) =>
                    M.bind (ldL .str (adr x0)) fun (x25 : ByteArray) =>
                    M.pure (decide (x24 = (↑(ByteArray.size x25) : Int)))
              else
                M.bind (ldL .str (adr x0)) fun (x19 : ByteArray) =>
                M.bind (ldL (li) (adr x1)) fun (x20 : Int) =>
                M.bind (idxS x19 x20) fun x21 =>
                if decide ((↑x21.toNat : Int) = 69) then
                  M.bind (ldL (li) (adr x1)) fun (x22 : Int) =>
                  M.bind (stN (adr x1) [vi (IntKind.i64.wrap (x22 + 1))]) fun x23 =>
                  M.bind (ldL (li) (adr x1)) fun (x24 : Int) =>
                  M.bind (ldL .str (adr x0)) fun (x25 : ByteArray) =>
                  if decide (x24 < (↑(ByteArray.size x25) : Int)) then
                    M.bind (ldL .str (adr x0)) fun (x26 : ByteArray) =>
                    M.bind (ldL (li) (adr x1)) fun (x27 : Int) =>
                    M.bind (idxS x26 x27) fun x28 =>
                    if decide ((↑x28.toNat : Int) = 43) then
                      M.bind (ldL (li) (adr x1)) fun (x29 : Int) =>
                      M.bind (stN (adr x1) [vi (IntKind.i64.wrap (x29 + 1))]) fun x30 =>
                      M.bind (toml_numeral_1 n (adr x1) (adr x0)) fun x31 =>
                      if decide (x31 = 0) then
                        M.pure false
                      else
                        M.bind (ldL (li) (adr x1)) fun (x32 : Int) =>
                        M.bind (ldL .str (adr x0)) fun (x33 : ByteArray) =>
                        M.pure (decide (x32 = (↑(ByteArray.size x33) : Int)))
                    else
                      M.bind (ldL .str (adr x0)) fun (x29 : ByteArray) =>
                      M.bind (ldL (li) (adr x1)) fun (x30 : Int) =>
                      M.bind (idxS x29 x30) fun x31 =>
                      if decide ((↑x31.toNat : Int) = 45) then
                        M.bind (ldL (li) (adr x1)) fun (x32 : Int) =>
                        M.bind (stN (adr x1) [vi (IntKind.i64.wrap (x32 + 1))]) fun x33 =>
                        M.bind (toml_numeral_1 n (adr x1) (adr x0)) fun x34 =>
                        if decide (x34 = 0) then
                          M.pure false
                        else
                          M.bind (ldL (li) (adr x1)) fun (x35 : Int) =>
                          M.bind (ldL .str (adr x0)) fun (x36 : ByteArray) =>
                          M.pure (decide (x35 = (↑(ByteArray.size x36) : Int)))
                      else
                        M.bind (toml_numeral_1 n (adr x1) (adr x0)) fun x32 =>
                        if decide (x32 = 0) then
                          M.pure false
                        else
                          M.bind (ldL (li) (adr x1)) fun (x33 : Int) =>
                          M.bind (ldL .str (adr x0)) fun (x34 : ByteArray) =>
                          M.pure (decide (x33 = (↑(ByteArray.size x34) : Int)))
                  else
                    M.bind (toml_numeral_1 n (adr x1) (adr x0)) fun x26 =>
                    if decide (x26 = 0) then
                      M.pure false
                    else
                      M.bind (ldL (li) (adr x1)) fun (x27 : Int) =>
                      M.bind (ldL .str (adr x0)) fun (x28 : ByteArray) =>
                      M.pure (decide (x27 = (↑(ByteArray.size x28) : Int)))
                else
                  M.bind (ldL (li) (adr x1)) fun (x22 : Int) =>
                  M.bind (ldL .str (adr x0)) fun (x23 : ByteArray) =>
                  M.pure (decide (x22 = (↑(ByteArray.size x23) : Int)))
            else
              M.bind (ldL (li) (adr x1)) fun (x16 : Int) =>
              M.bind (ldL .str (adr x0)) fun (x17 : ByteArray) =>
              M.pure (decide (x16 = (↑(ByteArray.size x17) : Int)))
    else
      M.bind (ldL (li) (adr x1)) fun (x8 : Int) =>
      M.bind (toml_numeral_1 n (adr x1) (adr x0)) fun x9 =>
      if decide (x9 = 0) then
        M.pure false
      else
        if decide (1 < x9) then
          M.bind (ldL .str (adr x0)) fun (x10 : ByteArray) =>
          M.bind (idxS x10 x8) fun x11 =>
          if decide ((↑x11.toNat : Int) = 48) then
            M.pure false
          else
            M.bind (ldL (li) (adr x1)) fun (x12 : Int) =>
            M.bind (ldL .str (adr x0)) fun (x13 : ByteArray) =>
            if decide (x12 < (↑(ByteArray.size x13) : Int)) then
              M.bind (ldL .str (adr x0)) fun (x14 : ByteArray) =>
              M.bind (ldL (li) (adr x1)) fun (x15 : Int) =>
              M.bind (idxS x14 x15) fun x16 =>
              if decide ((↑x16.toNat : Int) = 46) then
                M.bind (ldL (li) (adr x1)) fun (x17 : Int) =>
                M.bind (stN (adr x1) [vi (IntKind.i64.wrap (x17 + 1))]) fun x18 =>
                M.bind (toml_numeral_1 n (adr x1) (adr x0)) fun x19 =>
                if decide (x19 = 0) then
                  M.pure false
                else
                  M.bind (ldL (li) (adr x1)) fun (x20 : Int) =>
                  M.bind (ldL .str (adr x0)) fun (x21 : ByteArray) =>
                  if decide (x20 < (↑(ByteArray.size x21) : Int)) then
                    M.bind (ldL .str (adr x0)) fun (x22 : ByteArray) =>
                    M.bind (ldL (li) (adr x1)) fun (x23 : Int) =>
                    M.bind (idxS x22 x23) fun x24 =>
                    if decide ((↑x24.toNat : Int) = 101) then
                      M.bind (ldL (li) (adr x1)) fun (x25 : Int) =>
                      M.bind (stN (adr x1) [vi (IntKind.i64.wrap (x25 + 1))]) fun x26 =>
                      M.bind (ldL (li) (adr x1)) fun (x27 : Int) =>
                      M.bind (ldL .str (adr x0)) fun (x28 : ByteArray) =>
                      if decide (x27 < (↑(ByteArray.size x28) : Int)) then
                        M.bind (ldL .str (adr x0)) fun (x29 : ByteArray) =>
                        M.bind (ldL (li) (adr x1)) fun (x30 : Int) =>
                        M.bind (idxS x29 x30) fun x31 =>
                        if decide ((↑x31.toNat : Int) = 43) then
                          M.bind (ldL (li) (adr x1)) fun (x32 : Int) =>
                          M.bind (stN (adr x1) [vi (IntKind.i64.wrap (x32 + 1))]) fun x33 =>
                          M.bind (toml_numeral_1 n (adr x1) (adr x0)) fun x34 =>
                          if decide (x34 = 0) then
                            M.pure false
                          else
                            M.bind (ldL (li) (adr x1)) fun (x35 : Int) =>
                            M.bind (ldL .str (adr x0)) fun (x36 : ByteArray) =>
                            M.pure (decide (x35 = (↑(ByteArray.size x36) : Int)))
                        else
                          M.bind (ldL .str (adr x0)) fun (x32 : ByteArray) =>
                          M.bind (ldL (li) (adr x1)) fun (x33 : Int) =>
                          M.bind (idxS x32 x33) fun x34 =>
                          if decide ((↑x34.toNat : Int) = 45) then
                            M.bind (ldL (li) (adr x1)) fun (x35 : Int) =>
                            M.bind (stN (adr x1) [vi (IntKind.i64.wrap (x35 + 1))]) fun x36 =>
                            M.bind (toml_numeral_1 n (adr x1) (adr x0)) fun x37 =>
                            if decide (x37 = 0) then
                              M.pure false
                            else
                              M.bind (ldL (li) (adr x1)) fun (x38 : Int) =>
                              M.bind (ldL .str (adr x0)) fun (x39 : ByteArray) =>
                              M.pure (decide (x38 = (↑(ByteArray.size x39) : Int)))
                          else
                            M.bind (toml_numeral_1 n (adr x1) (adr x0)) fun x35 =>
                            if decide (x35 = 0) then
                              M.pure false
                            else
                              M.bind (ldL (li) (adr x1)) fun (x36 : Int) =>
                              M.bind (ldL .str (adr x0)) fun (x37 : ByteArray) =>
                              M.pure (decide (x36 = (↑(ByteArray.size x37) : Int)))
                      else
                        M.bind (toml_numeral_1 n (adr x1) (adr x0)) fun x29 =>
                        if decide (x29 = 0) then
                          M.pure false
                        else
                          M.bind (ldL (li) (adr x1)) fun (x30 : Int) =>
                          M.bind (ldL .str (adr x0)) fun (x31 : ByteArray) =>
                          M.pure (decide (x30 = (↑(ByteArray.size x31) : Int)))
                    else
                      M.bind (ldL .str (adr x0)) fun (x25 : ByteArray) =>
                      M.bind (ldL (li) (adr x1)) fun (x26 : Int) =>
                      M.bind (idxS x25 x26) fun x27 =>
                      if decide ((↑x27.toNat : Int) = 69) then
                        M.bind (ldL (li) (adr x1)) fun (x28 : Int) =>
                        M.bind (stN (adr x1) [vi (IntKind.i64.wrap (x28 + 1))]) fun x29 =>
                        M.bind (ldL (li) (adr x1)) fun (x30 : Int) =>
                        M.bind (ldL .str (adr x0)) fun (x31 : ByteArray) =>
                        if decide (x30 < (↑(ByteArray.size x31) : Int)) then
                          M.bind (ldL .str (adr x0)) fun (x32 : ByteArray) =>
                          M.bind (ldL (li) (adr x1)) fun (x33 : Int) =>
                          M.bind (idxS x32 x33) fun x34 =>
                          if decide ((↑x34.toNat : Int) = 43) then
                            M.bind (ldL (li) (adr x1)) fun (x35 : Int) =>
                            M.bind (stN (adr x1) [vi (IntKind.i64.wrap (x35 + 1))]) fun x36 =>
                            M.bind (toml_numeral_1 n (adr x1) (adr x0)) fun x37 =>
                            if decide (x37 = 0) then
                              M.pure false
                            else
                              M.bind (ldL (li) (adr x1)) fun (x38 : Int) =>
                              M.bind (ldL .str (adr x0)) fun (x39 : ByteArray) =>
                              M.pure (decide (x38 = (↑(ByteArray.size x39) : Int)))
                          else
                            M.bind (ldL .str (adr x0)) fun (x35 : ByteArray) =>
                            M.bind (ldL (li) (adr x1)) fun (x36 : Int) =>
                            M.bind (idxS x35 x36) fun x37 =>
                            if decide ((↑x37.toNat : Int) = 45) then
                              M.bind (ldL (li) (adr x1)) fun (x38 : Int) =>
                              M.bind (stN (adr x1) [vi (IntKind.i64.wrap (x38 + 1))]) fun x39 =>
                              M.bind (toml_numeral_1 n (adr x1) (adr x0)) fun x40 =>
                              if decide (x40 = 0) then
                                M.pure false
                              else
                                M.bind (ldL (li) (adr x1)) fun (x41 : Int) =>
                                M.bind (ldL .str (adr x0)) fun (x42 : ByteArray) =>
                                M.pure (decide (x41 = (↑(ByteArray.size x42) : Int)))
                            else
                              M.bind (toml_numeral_1 n (adr x1) (adr x0)) fun x38 =>
                              if decide (x38 = 0) then
                                M.pure false
                              else
                                M.bind (ldL (li) (adr x1)) fun (x39 : Int) =>
                                M.bind (ldL .str (adr x0)) fun (x40 : ByteArray) =>
                                M.pure (decide (x39 = (↑(ByteArray.size x40) : Int)))
                        else
                          M.bind (toml_numeral_1 n (adr x1) (adr x0)) fun x32 =>
                          if decide (x32 = 0) then
                            M.pure false
                          else
                            M.bind (ldL (li) (adr x1)) fun (x33 : Int) =>
                            M.bind (ldL .str (adr x0)) fun (x34 : ByteArray) =>
                            M.pure (decide (x33 = (↑(ByteArray.size x34) : Int)))
                      else
                        M.bind (ldL (li) (adr x1)) fun (x28 : Int) =>
                        M.bind (ldL .str (adr x0)) fun (x29 : ByteArray) =>
                        M.pure (decide (x28 = (↑(ByteArray.size x29) : Int)))
                  else
                    M.bind (ldL (li) (adr x1)) fun (x22 : Int) =>
                    M.bind (ldL .str (adr x0)) fun (x23 : ByteArray) =>
                    M.pure (decide (x22 = (↑(ByteArray.size x23) : Int)))
              else
                M.bind (ldL (li) (adr x1)) fun (x17 : Int) =>
                M.bind (ldL .str (adr x0)) fun (x18 : ByteArray) =>
                if decide (x17 < (↑(ByteArray.size x18) : Int)) then
                  M.bind (ldL .str (adr x0)) fun (x19 : ByteArray) =>
                  M.bind (ldL (li) (adr x1)) fun (x20 : Int) =>
                  M.bind (idxS x19 x20) fun x21 =>
                  if decide ((↑x21.toNat : Int) = 101) then
                    M.bind (ldL (li) (adr x1)) fun (x22 : Int) =>
                    M.bind (stN (adr x1) [vi (IntKind.i64.wrap (x22 + 1))]) fun x23 =>
                    M.bind (ldL (li) (adr x1)) fun (x24 : Int) =>
                    M.bind (ldL .str (adr x0)) fun (x25 : ByteArray) =>
                    if decide (x24 < (↑(ByteArray.size x25) : Int)) then
                      M.bind (ldL .str (adr x0)) fun (x26 : ByteArray) =>
                      M.bind (ldL (li) (adr x1)) fun (x27 : Int) =>
                      M.bind (idxS x26 x27) fun x28 =>
                      if decide ((↑x28.toNat : Int) = 43) then
                        M.bind (ldL (li) (adr x1)) fun (x29 : Int) =>
                        M.bind (stN (adr x1) [vi (IntKind.i64.wrap (x29 + 1))]) fun x30 =>
                        M.bind (toml_numeral_1 n (adr x1) (adr x0)) fun x31 =>
                        if decide (x31 = 0) then
                          M.pure false
                        else
                          M.bind (ldL (li) (adr x1)) fun (x32 : Int) =>
                          M.bind (ldL .str (adr x0)) fun (x33 : ByteArray) =>
                          M.pure (decide (x32 = (↑(ByteArray.size x33) : Int)))
                      else
                        M.bind (ldL .str (adr x0)) fun (x29 : ByteArray) =>
                        M.bind (ldL (li) (adr x1)) fun (x30 : Int) =>
                        M.bind (idxS x29 x30) fun x31 =>
                        if decide ((↑x31.toNat : Int) = 45) then
                          M.bind (ldL (li) (adr x1)) fun (x32 : Int) =>
                          M.bind (stN (adr x1) [vi (IntKind.i64.wrap (x32 + 1))]) fun x33 =>
                          M.bind (toml_numeral_1 n (adr x1) (adr x0)) fun x34 =>
                          if decide (x34 = 0) then
                            M.pure false
                          else
                            M.bind (ldL (li) (adr x1)) fun (x35 : Int) =>
                            M.bind (ldL .str (adr x0)) fun (x36 : ByteArray) =>
                            M.pure (decide (x35 = (↑(ByteArray.size x36) : Int)))
                        else
                          M.bind (toml_numeral_1 n (adr x1) (adr x0)) fun x32 =>
                          if decide (x32 = 0) then
                            M.pure false
                          else
                            M.bind (ldL (li) (adr x1)) fun (x33 : Int) =>
                            M.bind (ldL .str (adr x0)) fun (x34 : ByteArray) =>
                            M.pure (decide (x33 = (↑(ByteArray.size x34) : Int)))
                    else
                      M.bind (toml_numeral_1 n (adr x1) (adr x0)) fun x26 =>
                      if decide (x26 = 0) then
                        M.pure false
                      else
                        M.bind (ldL (li) (adr x1)) fun (x27 : Int) =>
                        M.bind (ldL .str (adr x0)) fun (x28 : ByteArray) =>
                        M.pure (decide (x27 = (↑(ByteArray.size x28) : Int)))
                  else
                    M.bind (ldL .str (adr x0)) fun (x22 : ByteArray) =>
                    M.bind (ldL (li) (adr x1)) fun (x23 : Int) =>
                    M.bind (idxS x22 x23) fun x24 =>
                    if decide ((↑x24.toNat : Int) = 69) then
                      M.bind (ldL (li) (adr x1)) fun (x25 : Int) =>
                      M.bind (stN (adr x1) [vi (IntKind.i64.wrap (x25 + 1))]) fun x26 =>
                      M.bind (ldL (li) (adr x1)) fun (x27 : Int) =>
                      M.bind (ldL .str (adr x0)) fun (x28 : ByteArray) =>
                      if decide (x27 < (↑(ByteArray.size x28) : Int)) then
                        M.bind (ldL .str (adr x0)) fun (x29 : ByteArray) =>
                        M.bind (ldL (li) (adr x1)) fun (x30 : Int) =>
                        M.bind (idxS x29 x30) fun x31 =>
                        if decide ((↑x31.toNat : Int) = 43) then
                          M.bind (ldL (li) (adr x1)) fun (x32 : Int) =>
                          M.bind (stN (adr x1) [vi (IntKind.i64.wrap (x32 + 1))]) fun x33 =>
                          M.bind (toml_numeral_1 n (adr x1) (adr x0)) fun x34 =>
                          if decide (x34 = 0) then
                            M.pure false
                          else
                            M.bind (ldL (li) (adr x1)) fun (x35 : Int) =>
                            M.bind (ldL .str (adr x0)) fun (x36 : ByteArray) =>
                            M.pure (decide (x35 = (↑(ByteArray.size x36) : Int)))
                        else
                          M.bind (ldL .str (adr x0)) fun (x32 : ByteArray) =>
                          M.bind (ldL (li) (adr x1)) fun (x33 : Int) =>
                          M.bind (idxS x32 x33) fun x34 =>
                          if decide ((↑x34.toNat : Int) = 45) then
                            M.bind (ldL (li) (adr x1)) fun (x35 : Int) =>
                            M.bind (stN (adr x1) [vi (IntKind.i64.wrap (x35 + 1))]) fun x36 =>
                            M.bind (toml_numeral_1 n (adr x1) (adr x0)) fun x37 =>
                            if decide (x37 = 0) then
                              M.pure false
                            else
                              M.bind (ldL (li) (adr x1)) fun (x38 : Int) =>
                              M.bind (ldL .str (adr x0)) fun (x39 : ByteArray) =>
                              M.pure (decide (x38 = (↑(ByteArray.size x39) : Int)))
                          else
                            M.bind (toml_numeral_1 n (adr x1) (adr x0)) fun x35 =>
                            if decide (x35 = 0) then
                              M.pure false
                            else
                              M.bind (ldL (li) (adr x1)) fun (x36 : Int) =>
                              M.bind (ldL .str (adr x0)) fun (x37 : ByteArray) =>
                              M.pure (decide (x36 = (↑(ByteArray.size x37) : Int)))
                      else
                        M.bind (toml_numeral_1 n (adr x1) (adr x0)) fun x29 =>
                        if decide (x29 = 0) then
                          M.pure false
                        else
                          M.bind (ldL (li) (adr x1)) fun (x30 : Int) =>
                          M.bind (ldL .str (adr x0)) fun (x31 : ByteArray) =>
                          M.pure (decide (x30 = (↑(ByteArray.size x31) : Int)))
                    else
                      M.bind (ldL (li) (adr x1)) fun (x25 : Int) =>
                      M.bind (ldL .str (adr x0)) fun (x26 : ByteArray) =>
                      M.pure (decide (x25 = (↑(ByteArray.size x26) : Int)))
                else
                  M.bind (ldL (li) (adr x1)) fun (x19 : Int) =>
                  M.bind (ldL .str (adr x0)) fun (x20 : ByteArray) =>
                  M.pure (decide (x19 = (↑(ByteArray.size x20) : Int)))
            else
              M.bind (ldL (li) (adr x1)) fun (x14 : Int) =>
              M.bind (ldL .str (adr x0)) fun (x15 : ByteArray) =>
              if decide (x14 < (↑(ByteArray.size x15) : Int)) then
                M.bind (ldL .str (adr x0)) fun (x16 : ByteArray) =>
                M.bind (ldL (li) (adr x1)) fun (x17 : Int) =>
                M.bind (idxS x16 x17) fun x18 =>
                if decide ((↑x18.toNat : Int) = 101) then
                  M.bind (ldL (li) (adr x1)) fun (x19 : Int) =>
                  M.bind (stN (adr x1) [vi (IntKind.i64.wrap (x19 + 1))]) fun x20 =>
                  M.bind (ldL (li) (adr x1)) fun (x21 : Int) =>
                  M.bind (ldL .str (adr x0)) fun (x22 : ByteArray) =>
                  if decide (x21 < (↑(ByteArray.size x22) : Int)) then
                    M.bind (ldL .str (adr x0)) fun (x23 : ByteArray) =>
                    M.bind (ldL (li) (adr x1)) fun (x24 : Int) =>
                    M.bind (idxS x23 x24) fun x25 =>
                    if decide ((↑x25.toNat : Int) = 43) then
                      M.bind (ldL (li) (adr x1)) fun (x26 : Int) =>
                      M.bind (stN (adr x1) [vi (IntKind.i64.wrap (x26 + 1))]) fun x27 =>
                      M.bind (toml_numeral_1 n (adr x1) (adr x0)) fun x28 =>
                      if decide (x28 = 0) then
                        M.pure false
                      else
                        M.bind (ldL (li) (adr x1)) fun (x29 : Int) =>
                        M.bind (ldL .str (adr x0)) fun (x30 : ByteArray) =>
                        M.pure (decide (x29 = (↑(ByteArray.size x30) : Int)))
                    else
                      M.bind (ldL .str (adr x0)) fun (x26 : ByteArray) =>
                      M.bind (ldL (li) (adr x1)) fun (x27 : Int) =>
                      M.bind (idxS x26 x27) fun x28 =>
                      if decide ((↑x28.toNat : Int) = 45) then
                        M.bind (ldL (li) (adr x1)) fun (x29 : Int) =>
                        M.bind (stN (adr x1) [vi (IntKind.i64.wrap (x29 + 1))]) fun x30 =>
                        M.bind (toml_numeral_1 n (adr x1) (adr x0)) fun x31 =>
                        if decide (x31 = 0) then
                          M.pure false
                        else
                          M.bind (ldL (li) (adr x1)) fun (x32 : Int) =>
                          M.bind (ldL .str (adr x0)) fun (x33 : ByteArray) =>
                          M.pure (decide (x32 = (↑(ByteArray.size x33) : Int)))
                      else
                        M.bind (toml_numeral_1 n (adr x1) (adr x0)) fun x29 =>
                        if decide (x29 = 0) then
                          M.pure false
                        else
                          M.bind (ldL (li) (adr x1)) fun (x30 : Int) =>
                          M.bind (ldL .str (adr x0)) fun (x31 : ByteArray) =>
                          M.pure (decide (x30 = (↑(ByteArray.size x31) : Int)))
                  else
                    M.bind (toml_numeral_1 n (adr x1) (adr x0)) fun x23 =>
                    if decide (x23 = 0) then
                      M.pure false
                    else
                      M.bind (ldL (li) (adr x1)) fun (x24 : Int) =>
                      M.bind (ldL .str (adr x0)) fun (x25 : ByteArray) =>
                      M.pure (decide (x24 = (↑(ByteArray.size x25) : Int)))
                else
                  M.bind (ldL .str (adr x0)) fun (x19 : ByteArray) =>
                  M.bind (ldL (li) (adr x1)) fun (x20 : Int) =>
                  M.bind (idxS x19 x20) fun x21 =>
                  if decide ((↑x21.toNat : Int) = 69) then
                    M.bind (ldL (li) (adr x1)) fun (x22 : Int) =>
                    M.bind (stN (adr x1) [vi (IntKind.i64.wrap (x22 + 1))]) fun x23 =>
                    M.bind (ldL (li) (adr x1)) fun (x24 : Int) =>
                    M.bind (ldL .str (adr x0)) fun (x25 : ByteArray) =>
                    if decide (x24 < (↑(ByteArray.size x25) : Int)) then
                      M.bind (ldL .str (adr x0)) fun (x26 : ByteArray) =>
                      M.bind (ldL (li) (adr x1)) fun (x27 : Int) =>
                      M.bind (idxS x26 x27) fun x28 =>
                      if decide ((↑x28.toNat : Int) = 43) then
                        M.bind (ldL (li) (adr x1)) fun (x29 : Int) =>
                        M.bind (stN (adr x1) [vi (IntKind.i64.wrap (x29 + 1))]) fun x30 =>
                        M.bind (toml_numeral_1 n (adr x1) (adr x0)) fun x31 =>
                        if decide (x31 = 0) then
                          M.pure false
                        else
                          M.bind (ldL (li) (adr x1)) fun (x32 : Int) =>
                          M.bind (ldL .str (adr x0)) fun (x33 : ByteArray) =>
                          M.pure (decide (x32 = (↑(ByteArray.size x33) : Int)))
                      else
                        M.bind (ldL .str (adr x0)) fun (x29 : ByteArray) =>
                        M.bind (ldL (li) (adr x1)) fun (x30 : Int) =>
                        M.bind (idxS x29 x30) fun x31 =>
                        if decide ((↑x31.toNat : Int) = 45) then
                          M.bind (ldL (li) (adr x1)) fun (x32 : Int) =>
                          M.bind (stN (adr x1) [vi (IntKind.i64.wrap (x32 + 1))]) fun x33 =>
                          M.bind (toml_numeral_1 n (adr x1) (adr x0)) fun x34 =>
                          if decide (x34 = 0) then
                            M.pure false
                          else
                            M.bind (ldL (li) (adr x1)) fun (x35 : Int) =>
                            M.bind (ldL .str (adr x0)) fun (x36 : ByteArray) =>
                            M.pure (decide (x35 = (↑(ByteArray.size x36) : Int)))
                        else
                          M.bind (toml_numeral_1 n (adr x1) (adr x0)) fun x32 =>
                          if decide (x32 = 0) then
                            M.pure false
                          else
                            M.bind (ldL (li) (adr x1)) fun (x33 : Int) =>
                            M.bind (ldL .str (adr x0)) fun (x34 : ByteArray) =>
                            M.pure (decide (x33 = (↑(ByteArray.size x34) : Int)))
                    else
                      M.bind (toml_numeral_1 n (adr x1) (adr x0)) fun x26 =>
                      if decide (x26 = 0) then
                        M.pure false
                      else
                        M.bind (ldL (li) (adr x1)) fun (x27 : Int) =>
                        M.bind (ldL .str (adr x0)) fun (x28 : ByteArray) =>
                        M.pure (decide (x27 = (↑(ByteArray.size x28) : Int)))
                  else
                    M.bind (ldL (li) (adr x1)) fun (x22 : Int) =>
                    M.bind (ldL .str (adr x0)) fun (x23 : ByteArray) =>
                    M.pure (decide (x22 = (↑(ByteArray.size x23) : Int)))
              else
                M.bind (ldL (li) (adr x1)) fun (x16 : Int) =>
                M.bind (ldL .str (adr x0)) fun (x17 : ByteArray) =>
                M.pure (decide (x16 = (↑(ByteArray.size x17) : Int)))
        else
          M.bind (ldL (li) (adr x1)) fun (x10 : Int) =>
          M.bind (ldL .str (adr x0)) fun (x11 : ByteArray) =>
          if decide (x10 < (↑(ByteArray.size x11) : Int)) then
            M.bind (ldL .str (adr x0)) fun (x12 : ByteArray) =>
            M.bind (ldL (li) (adr x1)) fun (x13 : Int) =>
            M.bind (idxS x12 x13) fun x14 =>
            if decide ((↑x14.toNat : Int) = 46) then
              M.bind (ldL (li) (adr x1)) fun (x15 : Int) =>
              M.bind (stN (adr x1) [vi (IntKind.i64.wrap (x15 + 1))]) fun x16 =>
              M.bind (toml_numeral_1 n (adr x1) (adr x0)) fun x17 =>
              if decide (x17 = 0) then
                M.pure false
              else
                M.bind (ldL (li) (adr x1)) fun (x18 : Int) =>
                M.bind (ldL .str (adr x0)) fun (x19 : ByteArray) =>
                if decide (x18 < (↑(ByteArray.size x19) : Int)) then
                  M.bind (ldL .str (adr x0)) fun (x20 : ByteArray) =>
                  M.bind (ldL (li) (adr x1)) fun (x21 : Int) =>
                  M.bind (idxS x20 x21) fun x22 =>
                  if decide ((↑x22.toNat : Int) = 101) then
                    M.bind (ldL (li) (adr x1)) fun (x23 : Int) =>
                    M.bind (stN (adr x1) [vi (IntKind.i64.wrap (x23 + 1))]) fun x24 =>
                    M.bind (ldL (li) (adr x1)) fun (x25 : Int) =>
                    M.bind (ldL .str (adr x0)) fun (x26 : ByteArray) =>
                    if decide (x25 < (↑(ByteArray.size x26) : Int)) then
                      M.bind (ldL .str (adr x0)) fun (x27 : ByteArray) =>
                      M.bind (ldL (li) (adr x1)) fun (x28 : Int) =>
                      M.bind (idxS x27 x28) fun x29 =>
                      if decide ((↑x29.toNat : Int) = 43) then
                        M.bind (ldL (li) (adr x1)) fun (x30 : Int) =>
                        M.bind (stN (adr x1) [vi (IntKind.i64.wrap (x30 + 1))]) fun x31 =>
                        M.bind (toml_numeral_1 n (adr x1) (adr x0)) fun x32 =>
                        if decide (x32 = 0) then
                          M.pure false
                        else
                          M.bind (ldL (li) (adr x1)) fun (x33 : Int) =>
                          M.bind (ldL .str (adr x0)) fun (x34 : ByteArray) =>
                          M.pure (decide (x33 = (↑(ByteArray.size x34) : Int)))
                      else
                        M.bind (ldL .str (adr x0)) fun (x30 : ByteArray) =>
                        M.bind (ldL (li) (adr x1)) fun (x31 : Int) =>
                        M.bind (idxS x30 x31) fun x32 =>
                        if decide ((↑x32.toNat : Int) = 45) then
                          M.bind (ldL (li) (adr x1)) fun (x33 : Int) =>
                          M.bind (stN (adr x1) [vi (IntKind.i64.wrap (x33 + 1))]) fun x34 =>
                          M.bind (toml_numeral_1 n (adr x1) (adr x0)) fun x35 =>
                          if decide (x35 = 0) then
                            M.pure false
                          else
                            M.bind (ldL (li) (adr x1)) fun (x36 : Int) =>
                            M.bind (ldL .str (adr x0)) fun (x37 : ByteArray) =>
                            M.pure (decide (x36 = (↑(ByteArray.size x37) : Int)))
                        else
                          M.bind (toml_numeral_1 n (adr x1) (adr x0)) fun x33 =>
                          if decide (x33 = 0) then
                            M.pure false
                          else
                            M.bind (ldL (li) (adr x1)) fun (x34 : Int) =>
                            M.bind (ldL .str (adr x0)) fun (x35 : ByteArray) =>
                            M.pure (decide (x34 = (↑(ByteArray.size x35) : Int)))
                    else
                      M.bind (toml_numeral_1 n (adr x1) (adr x0)) fun x27 =>
                      if decide (x27 = 0) then
                        M.pure false
                      else
                        M.bind (ldL (li) (adr x1)) fun (x28 : Int) =>
                        M.bind (ldL .str (adr x0)) fun (x29 : ByteArray) =>
                        M.pure (decide (x28 = (↑(ByteArray.size x29) : Int)))
                  else
                    M.bind (ldL .str (adr x0)) fun (x23 : ByteArray) =>
                    M.bind (ldL (li) (adr x1)) fun (x24 : Int) =>
                    M.bind (idxS x23 x24) fun x25 =>
                    if decide ((↑x25.toNat : Int) = 69) then
                      M.bind (ldL (li) (adr x1)) fun (x26 : Int) =>
                      M.bind (stN (adr x1) [vi (IntKind.i64.wrap (x26 + 1))]) fun x27 =>
                      M.bind (ldL (li) (adr x1)) fun (x28 : Int) =>
                      M.bind (ldL .str (adr x0)) fun (x29 : ByteArray) =>
                      if decide (x28 < (↑(ByteArray.size x29) : Int)) then
                        M.bind (ldL .str (adr x0)) fun (x30 : ByteArray) =>
                        M.bind (ldL (li) (adr x1)) fun (x31 : Int) =>
                        M.bind (idxS x30 x31) fun x32 =>
                        if decide ((↑x32.toNat : Int) = 43) then
                          M.bind (ldL (li) (adr x1)) fun (x33 : Int) =>
                          M.bind (stN (adr x1) [vi (IntKind.i64.wrap (x33 + 1))]) fun x34 =>
                          M.bind (toml_numeral_1 n (adr x1) (adr x0)) fun x35 =>
                          if decide (x35 = 0) then
                            M.pure false
                          else
                            M.bind (ldL (li) (adr x1)) fun (x36 : Int) =>
                            M.bind (ldL .str (adr x0)) fun (x37 : ByteArray) =>
                            M.pure (decide (x36 = (↑(ByteArray.size x37) : Int)))
                        else
                          M.bind (ldL .str (adr x0)) fun (x33 : ByteArray) =>
                          M.bind (ldL (li) (adr x1)) fun (x34 : Int) =>
                          M.bind (idxS x33 x34) fun x35 =>
                          if decide ((↑x35.toNat : Int) = 45) then
                            M.bind (ldL (li) (adr x1)) fun (x36 : Int) =>
                            M.bind (stN (adr x1) [vi (IntKind.i64.wrap (x36 + 1))]) fun x37 =>
                            M.bind (toml_numeral_1 n (adr x1) (adr x0)) fun x38 =>
                            if decide (x38 = 0) then
                              M.pure false
                            else
                              M.bind (ldL (li) (adr x1)) fun (x39 : Int) =>
                              M.bind (ldL .str (adr x0)) fun (x40 : ByteArray) =>
                              M.pure (decide (x39 = (↑(ByteArray.size x40) : Int)))
                          else
                            M.bind (toml_numeral_1 n (adr x1) (adr x0)) fun x36 =>
                            if decide (x36 = 0) then
                              M.pure false
                            else
                              M.bind (ldL (li) (adr x1)) fun (x37 : Int) =>
                              M.bind (ldL .str (adr x0)) fun (x38 : ByteArray) =>
                              M.pure (decide (x37 = (↑(ByteArray.size x38) : Int)))
                      else
                        M.bind (toml_numeral_1 n (adr x1) (adr x0)) fun x30 =>
                        if decide (x30 = 0) then
                          M.pure false
                        else
                          M.bind (ldL (li) (adr x1)) fun (x31 : Int) =>
                          M.bind (ldL .str (adr x0)) fun (x32 : ByteArray) =>
                          M.pure (decide (x31 = (↑(ByteArray.size x32) : Int)))
                    else
                      M.bind (ldL (li) (adr x1)) fun (x26 : Int) =>
                      M.bind (ldL .str (adr x0)) fun (x27 : ByteArray) =>
                      M.pure (decide (x26 = (↑(ByteArray.size x27) : Int)))
                else
                  M.bind (ldL (li) (adr x1)) fun (x20 : Int) =>
                  M.bind (ldL .str (adr x0)) fun (x21 : ByteArray) =>
                  M.pure (decide (x20 = (↑(ByteArray.size x21) : Int)))
            else
              M.bind (ldL (li) (adr x1)) fun (x15 : Int) =>
              M.bind (ldL .str (adr x0)) fun (x16 : ByteArray) =>
              if decide (x15 < (↑(ByteArray.size x16) : Int)) then
                M.bind (ldL .str (adr x0)) fun (x17 : ByteArray) =>
                M.bind (ldL (li) (adr x1)) fun (x18 : Int) =>
                M.bind (idxS x17 x18) fun x19 =>
                if decide ((↑x19.toNat : Int) = 101) then
                  M.bind (ldL (li) (adr x1)) fun (x20 : Int) =>
                  M.bind (stN (adr x1) [vi (IntKind.i64.wrap (x20 + 1))]) fun x21 =>
                  M.bind (ldL (li) (adr x1)) fun (x22 : Int) =>
                  M.bind (ldL .str (adr x0)) fun (x23 : ByteArray) =>
                  if decide (x22 < (↑(ByteArray.size x23) : Int)) then
                    M.bind (ldL .str (adr x0)) fun (x24 : ByteArray) =>
                    M.bind (ldL (li) (adr x1)) fun (x25 : Int) =>
                    M.bind (idxS x24 x25) fun x26 =>
                    if decide ((↑x26.toNat : Int) = 43) then
                      M.bind (ldL (li) (adr x1)) fun (x27 : Int) =>
                      M.bind (stN (adr x1) [vi (IntKind.i64.wrap (x27 + 1))]) fun x28 =>
                      M.bind (toml_numeral_1 n (adr x1) (adr x0)) fun x29 =>
                      if decide (x29 = 0) then
                        M.pure false
                      else
                        M.bind (ldL (li) (adr x1)) fun (x30 : Int) =>
                        M.bind (ldL .str (adr x0)) fun (x31 : ByteArray) =>
                        M.pure (decide (x30 = (↑(ByteArray.size x31) : Int)))
                    else
                      M.bind (ldL .str (adr x0)) fun (x27 : ByteArray) =>
                      M.bind (ldL (li) (adr x1)) fun (x28 : Int) =>
                      M.bind (idxS x27 x28) fun x29 =>
                      if decide ((↑x29.toNat : Int) = 45) then
                        M.bind (ldL (li) (adr x1)) fun (x30 : Int) =>
                        M.bind (stN (adr x1) [vi (IntKind.i64.wrap (x30 + 1))]) fun x31 =>
                        M.bind (toml_numeral_1 n (adr x1) (adr x0)) fun x32 =>
                        if decide (x32 = 0) then
                          M.pure false
                        else
                          M.bind (ldL (li) (adr x1)) fun (x33 : Int) =>
                          M.bind (ldL .str (adr x0)) fun (x34 : ByteArray) =>
                          M.pure (decide (x33 = (↑(ByteArray.size x34) : Int)))
                      else
                        M.bind (toml_numeral_1 n (adr x1) (adr x0)) fun x30 =>
                        if decide (x30 = 0) then
                          M.pure false
                        else
                          M.bind (ldL (li) (adr x1)) fun (x31 : Int) =>
                          M.bind (ldL .str (adr x0)) fun (x32 : ByteArray) =>
                          M.pure (decide (x31 = (↑(ByteArray.size x32) : Int)))
                  else
                    M.bind (toml_numeral_1 n (adr x1) (adr x0)) fun x24 =>
                    if decide (x24 = 0) then
                      M.pure false
                    else
                      M.bind (ldL (li) (adr x1)) fun (x25 : Int) =>
                      M.bind (ldL .str (adr x0)) fun (x26 : ByteArray) =>
                      M.pure (decide (x25 = (↑(ByteArray.size x26) : Int)))
                else
                  M.bind (ldL .str (adr x0)) fun (x20 : ByteArray) =>
                  M.bind (ldL (li) (adr x1)) fun (x21 : Int) =>
                  M.bind (idxS x20 x21) fun x22 =>
                  if decide ((↑x22.toNat : Int) = 69) then
                    M.bind (ldL (li) (adr x1)) fun (x23 : Int) =>
                    M.bind (stN (adr x1) [vi (IntKind.i64.wrap (x23 + 1))]) fun x24 =>
                    M.bind (ldL (li) (adr x1)) fun (x25 : Int) =>
                    M.bind (ldL .str (adr x0)) fun (x26 : ByteArray) =>
                    if decide (x25 < (↑(ByteArray.size x26) : Int)) then
                      M.bind (ldL .str (adr x0)) fun (x27 : ByteArray) =>
                      M.bind (ldL (li) (adr x1)) fun (x28 : Int) =>
                      M.bind (idxS x27 x28) fun x29 =>
                      if decide ((↑x29.toNat : Int) = 43) then
                        M.bind (ldL (li) (adr x1)) fun (x30 : Int) =>
                        M.bind (stN (adr x1) [vi (IntKind.i64.wrap (x30 + 1))]) fun x31 =>
                        M.bind (toml_numeral_1 n (adr x1) (adr x0)) fun x32 =>
                        if decide (x32 = 0) then
                          M.pure false
                        else
                          M.bind (ldL (li) (adr x1)) fun (x33 : Int) =>
                          M.bind (ldL .str (adr x0)) fun (x34 : ByteArray) =>
                          M.pure (decide (x33 = (↑(ByteArray.size x34) : Int)))
                      else
                        M.bind (ldL .str (adr x0)) fun (x30 : ByteArray) =>
                        M.bind (ldL (li) (adr x1)) fun (x31 : Int) =>
                        M.bind (idxS x30 x31) fun x32 =>
                        if decide ((↑x32.toNat : Int) = 45) then
                          M.bind (ldL (li) (adr x1)) fun (x33 : Int) =>
                          M.bind (stN (adr x1) [vi (IntKind.i64.wrap (x33 + 1))]) fun x34 =>
                          M.bind (toml_numeral_1 n (adr x1) (adr x0)) fun x35 =>
                          if decide (x35 = 0) then
                            M.pure false
                          else
                            M.bind (ldL (li) (adr x1)) fun (x36 : Int) =>
                            M.bind (ldL .str (adr x0)) fun (x37 : ByteArray) =>
                            M.pure (decide (x36 = (↑(ByteArray.size x37) : Int)))
                        else
                          M.bind (toml_numeral_1 n (adr x1) (adr x0)) fun x33 =>
                          if decide (x33 = 0) then
                            M.pure false
                          else
                            M.bind (ldL (li) (adr x1)) fun (x34 : Int) =>
                            M.bind (ldL .str (adr x0)) fun (x35 : ByteArray) =>
                            M.pure (decide (x34 = (↑(ByteArray.size x35) : Int)))
                    else
                      M.bind (toml_numeral_1 n (adr x1) (adr x0)) fun x27 =>
                      if decide (x27 = 0) then
                        M.pure false
                      else
                        M.bind (ldL (li) (adr x1)) fun (x28 : Int) =>
                        M.bind (ldL .str (adr x0)) fun (x29 : ByteArray) =>
                        M.pure (decide (x28 = (↑(ByteArray.size x29) : Int)))
                  else
                    M.bind (ldL (li) (adr x1)) fun (x23 : Int) =>
                    M.bind (ldL .str (adr x0)) fun (x24 : ByteArray) =>
                    M.pure (decide (x23 = (↑(ByteArray.size x24) : Int)))
              else
                M.bind (ldL (li) (adr x1)) fun (x17 : Int) =>
                M.bind (ldL .str (adr x0)) fun (x18 : ByteArray) =>
                M.pure (decide (x17 = (↑(ByteArray.size x18) : Int)))
          else
            M.bind (ldL (li) (adr x1)) fun (x12 : Int) =>
            M.bind (ldL .str (adr x0)) fun (x13 : ByteArray) =>
            if decide (x12 < (↑(ByteArray.size x13) : Int)) then
              M.bind (ldL .str (adr x0)) fun (x14 : ByteArray) =>
              M.bind (ldL (li) (adr x1)) fun (x15 : Int) =>
              M.bind (idxS x14 x15) fun x16 =>
              if decide ((↑x16.toNat : Int) = 101) then
                M.bind (ldL (li) (adr x1)) fun (x17 : Int) =>
                M.bind (stN (adr x1) [vi (IntKind.i64.wrap (x17 + 1))]) fun x18 =>
                M.bind (ldL (li) (adr x1)) fun (x19 : Int) =>
                M.bind (ldL .str (adr x0)) fun (x20 : ByteArray) =>
                if decide (x19 < (↑(ByteArray.size x20) : Int)) then
                  M.bind (ldL .str (adr x0)) fun (x21 : ByteArray) =>
                  M.bind (ldL (li) (adr x1)) fun (x22 : Int) =>
                  M.bind (idxS x21 x22) fun x23 =>
                  if decide ((↑x23.toNat : Int) = 43) then
                    M.bind (ldL (li) (adr x1)) fun (x24 : Int) =>
                    M.bind (stN (adr x1) [vi (IntKind.i64.wrap (x24 + 1))]) fun x25 =>
                    M.bind (toml_numeral_1 n (adr x1) (adr x0)) fun x26 =>
                    if decide (x26 = 0) then
                      M.pure false
                    else
                      M.bind (ldL (li) (adr x1)) fun (x27 : Int) =>
                      M.bind (ldL .str (adr x0)) fun (x28 : ByteArray) =>
                      M.pure (decide (x27 = (↑(ByteArray.size x28) : Int)))
                  else
                    M.bind (ldL .str (adr x0)) fun (x24 : ByteArray) =>
                    M.bind (ldL (li) (adr x1)) fun (x25 : Int) =>
                    M.bind (idxS x24 x25) fun x26 =>
                    if decide ((↑x26.toNat : Int) = 45) then
                      M.bind (ldL (li) (adr x1)) fun (x27 : Int) =>
                      M.bind (stN (adr x1) [vi (IntKind.i64.wrap (x27 + 1))]) fun x28 =>
                      M.bind (toml_numeral_1 n (adr x1) (adr x0)) fun x29 =>
                      if decide (x29 = 0) then
                        M.pure false
                      else
                        M.bind (ldL (li) (adr x1)) fun (x30 : Int) =>
                        M.bind (ldL .str (adr x0)) fun (x31 : ByteArray) =>
                        M.pure (decide (x30 = (↑(ByteArray.size x31) : Int)))
                    else
                      M.bind (toml_numeral_1 n (adr x1) (adr x0)) fun x27 =>
                      if decide (x27 = 0) then
                        M.pure false
                      else
                        M.bind (ldL (li) (adr x1)) fun (x28 : Int) =>
                        M.bind (ldL .str (adr x0)) fun (x29 : ByteArray) =>
                        M.pure (decide (x28 = (↑(ByteArray.size x29) : Int)))
                else
                  M.bind (toml_numeral_1 n (adr x1) (adr x0)) fun x21 =>
                  if decide (x21 = 0) then
                    M.pure false
                  else
                    M.bind (ldL (li) (adr x1)) fun (x22 : Int) =>
                    M.bind (ldL .str (adr x0)) fun (x23 : ByteArray) =>
                    M.pure (decide (x22 = (↑(ByteArray.size x23) : Int)))
              else
                M.bind (ldL .str (adr x0)) fun (x17 : ByteArray) =>
                M.bind (ldL (li) (adr x1)) fun (x18 : Int) =>
                M.bind (idxS x17 x18) fun x19 =>
                if decide ((↑x19.toNat : Int) = 69) then
                  M.bind (ldL (li) (adr x1)) fun (x20 : Int) =>
                  M.bind (stN (adr x1) [vi (IntKind.i64.wrap (x20 + 1))]) fun x21 =>
                  M.bind (ldL (li) (adr x1)) fun (x22 : Int) =>
                  M.bind (ldL .str (adr x0)) fun (x23 : ByteArray) =>
                  if decide (x22 < (↑(ByteArray.size x23) : Int)) then
                    M.bind (ldL .str (adr x0)) fun (x24 : ByteArray) =>
                    M.bind (ldL (li) (adr x1)) fun (x25 : Int) =>
                    M.bind (idxS x24 x25) fun x26 =>
                    if decide ((↑x26.toNat : Int) = 43) then
                      M.bind (ldL (li) (adr x1)) fun (x27 : Int) =>
                      M.bind (stN (adr x1) [vi (IntKind.i64.wrap (x27 + 1))]) fun x28 =>
                      M.bind (toml_numeral_1 n (adr x1) (adr x0)) fun x29 =>
                      if decide (x29 = 0) then
                        M.pure false
                      else
                        M.bind (ldL (li) (adr x1)) fun (x30 : Int) =>
                        M.bind (ldL .str (adr x0)) fun (x31 : ByteArray) =>
                        M.pure (decide (x30 = (↑(ByteArray.size x31) : Int)))
                    else
                      M.bind (ldL .str (adr x0)) fun (x27 : ByteArray) =>
                      M.bind (ldL (li) (adr x1)) fun (x28 : Int) =>
                      M.bind (idxS x27 x28) fun x29 =>
                      if decide ((↑x29.toNat : Int) = 45) then
                        M.bind (ldL (li) (adr x1)) fun (x30 : Int) =>
                        M.bind (stN (adr x1) [vi (IntKind.i64.wrap (x30 + 1))]) fun x31 =>
                        M.bind (toml_numeral_1 n (adr x1) (adr x0)) fun x32 =>
                        if decide (x32 = 0) then
                          M.pure false
                        else
                          M.bind (ldL (li) (adr x1)) fun (x33 : Int) =>
                          M.bind (ldL .str (adr x0)) fun (x34 : ByteArray) =>
                          M.pure (decide (x33 = (↑(ByteArray.size x34) : Int)))
                      else
                        M.bind (toml_numeral_1 n (adr x1) (adr x0)) fun x30 =>
                        if decide (x30 = 0) then
                          M.pure false
                        else
                          M.bind (ldL (li) (adr x1)) fun (x31 : Int) =>
                          M.bind (ldL .str (adr x0)) fun (x32 : ByteArray) =>
                          M.pure (decide (x31 = (↑(ByteArray.size x32) : Int)))
                  else
                    M.bind (toml_numeral_1 n (adr x1) (adr x0)) fun x24 =>
                    if decide (x24 = 0) then
                      M.pure false
                    else
                      M.bind (ldL (li) (adr x1)) fun (x25 : Int) =>
                      M.bind (ldL .str (adr x0)) fun (x26 : ByteArray) =>
                      M.pure (decide (x25 = (↑(ByteArray.size x26) : Int)))
                else
                  M.bind (ldL (li) (adr x1)) fun (x20 : Int) =>
                  M.bind (ldL .str (adr x0)) fun (x21 : ByteArray) =>
                  M.pure (decide (x20 = (↑(ByteArray.size x21) : Int)))
            else
              M.bind (ldL (li) (adr x1)) fun (x14 : Int) =>
              M.bind (ldL .str (adr x0)) fun (x15 : ByteArray) =>
              M.pure (decide (x14 = (↑(ByteArray.size x15) : Int)))
  else
    M.bind (ldL (li) (adr x1)) fun (x5 : Int) =>
    M.bind (toml_numeral_1 n (adr x1) (adr x0)) fun x6 =>
    if decide (x6 = 0) then
      M.pure false
    else
      if decide (1 < x6) then
        M.bind (ldL .str (adr x0)) fun (x7 : ByteArray) =>
        M.bind (idxS x7 x5) fun x8 =>
        if decide ((↑x8.toNat : Int) = 48) then
          M.pure false
        else
          M.bind (ldL (li) (adr x1)) fun (x9 : Int) =>
          M.bind (ldL .str (adr x0)) fun (x10 : ByteArray) =>
          if decide (x9 < (↑(ByteArray.size x10) : Int)) then
            M.bind (ldL .str (adr x0)) fun (x11 : ByteArray) =>
            M.bind (ldL (li) (adr x1)) fun (x12 : Int) =>
            M.bind (idxS x11 x12) fun x13 =>
            if decide ((↑x13.toNat : Int) = 46) then
              M.bind (ldL (li) (adr x1)) fun (x14 : Int) =>
              M.bind (stN (adr x1) [vi (IntKind.i64.wrap (x14 + 1))]) fun x15 =>
              M.bind (toml_numeral_1 n (adr x1) (adr x0)) fun x16 =>
              if decide (x16 = 0) then
                M.pure false
              else
                M.bind (ldL (li) (adr x1)) fun (x17 : Int) =>
                M.bind (ldL .str (adr x0)) fun (x18 : ByteArray) =>
                if decide (x17 < (↑(ByteArray.size x18) : Int)) then
                  M.bind (ldL .str (adr x0)) fun (x19 : ByteArray) =>
                  M.bind (ldL (li) (adr x1)) fun (x20 : Int) =>
                  M.bind (idxS x19 x20) fun x21 =>
                  if decide ((↑x21.toNat : Int) = 101) then
                    M.bind (ldL (li) (adr x1)) fun (x22 : Int) =>
                    M.bind (stN (adr x1) [vi (IntKind.i64.wrap (x22 + 1))]) fun x23 =>
                    M.bind (ldL (li) (adr x1)) fun (x24 : Int) =>
                    M.bind (ldL .str (adr x0)) fun (x25 : ByteArray) =>
                    if decide (x24 < (↑(ByteArray.size x25) : Int)) then
                      M.bind (ldL .str (adr x0)) fun (x26 : ByteArray) =>
                      M.bind (ldL (li) (adr x1)) fun (x27 : Int) =>
                      M.bind (idxS x26 x27) fun x28 =>
                      if decide ((↑x28.toNat : Int) = 43) then
                        M.bind (ldL (li) (adr x1)) fun (x29 : Int) =>
                        M.bind (stN (adr x1) [vi (IntKind.i64.wrap (x29 + 1))]) fun x30 =>
                        M.bind (toml_numeral_1 n (adr x1) (adr x0)) fun x31 =>
                        if decide (x31 = 0) then
                          M.pure false
                        else
                          M.bind (ldL (li) (adr x1)) fun (x32 : Int) =>
                          M.bind (ldL .str (adr x0)) fun (x33 : ByteArray) =>
                          M.pure (decide (x32 = (↑(ByteArray.size x33) : Int)))
                      else
                        M.bind (ldL .str (adr x0)) fun (x29 : ByteArray) =>
                        M.bind (ldL (li) (adr x1)) fun (x30 : Int) =>
                        M.bind (idxS x29 x30) fun x31 =>
                        if decide ((↑x31.toNat : Int) = 45) then
                          M.bind (ldL (li) (adr x1)) fun (x32 : Int) =>
                          M.bind (stN (adr x1) [vi (IntKind.i64.wrap (x32 + 1))]) fun x33 =>
                          M.bind (toml_numeral_1 n (adr x1) (adr x0)) fun x34 =>
                          if decide (x34 = 0) then
                            M.pure false
                          else
                            M.bind (ldL (li) (adr x1)) fun (x35 : Int) =>
                            M.bind (ldL .str (adr x0)) fun (x36 : ByteArray) =>
                            M.pure (decide (x35 = (↑(ByteArray.size x36) : Int)))
                        else
                          M.bind (toml_numeral_1 n (adr x1) (adr x0)) fun x32 =>
                          if decide (x32 = 0) then
                            M.pure false
                          else
                            M.bind (ldL (li) (adr x1)) fun (x33 : Int) =>
                            M.bind (ldL .str (adr x0)) fun (x34 : ByteArray) =>
                            M.pure (decide (x33 = (↑(ByteArray.size x34) : Int)))
                    else
                      M.bind (toml_numeral_1 n (adr x1) (adr x0)) fun x26 =>
                      if decide (x26 = 0) then
                        M.pure false
                      else
                        M.bind (ldL (li) (adr x1)) fun (x27 : Int) =>
                        M.bind (ldL .str (adr x0)) fun (x28 : ByteArray) =>
                        M.pure (decide (x27 = (↑(ByteArray.size x28) : Int)))
                  else
                    M.bind (ldL .str (adr x0)) fun (x22 : ByteArray) =>
                    M.bind (ldL (li) (adr x1)) fun (x23 : Int) =>
                    M.bind (idxS x22 x23) fun x24 =>
                    if decide ((↑x24.toNat : Int) = 69) then
                      M.bind (ldL (li) (adr x1)) fun (x25 : Int) =>
                      M.bind (stN (adr x1) [vi (IntKind.i64.wrap (x25 + 1))]) fun x26 =>
                      M.bind (ldL (li) (adr x1)) fun (x27 : Int) =>
                      M.bind (ldL .str (adr x0)) fun (x28 : ByteArray) =>
                      if decide (x27 < (↑(ByteArray.size x28) : Int)) then
                        M.bind (ldL .str (adr x0)) fun (x29 : ByteArray) =>
                        M.bind (ldL (li) (adr x1)) fun (x30 : Int) =>
                        M.bind (idxS x29 x30) fun x31 =>
                        if decide ((↑x31.toNat : Int) = 43) then
                          M.bind (ldL (li) (adr x1)) fun (x32 : Int) =>
                          M.bind (stN (adr x1) [vi (IntKind.i64.wrap (x32 + 1))]) fun x33 =>
                          M.bind (toml_numeral_1 n (adr x1) (adr x0)) fun x34 =>
                          if decide (x34 = 0) then
                            M.pure false
                          else
                            M.bind (ldL (li) (adr x1)) fun (x35 : Int) =>
                            M.bind (ldL .str (adr x0)) fun (x36 : ByteArray) =>
                            M.pure (decide (x35 = (↑(ByteArray.size x36) : Int)))
                        else
                          M.bind (ldL .str (adr x0)) fun (x32 : ByteArray) =>
                          M.bind (ldL (li) (adr x1)) fun (x33 : Int) =>
                          M.bind (idxS x32 x33) fun x34 =>
                          if decide ((↑x34.toNat : Int) = 45) then
                            M.bind (ldL (li) (adr x1)) fun (x35 : Int) =>
                            M.bind (stN (adr x1) [vi (IntKind.i64.wrap (x35 + 1))]) fun x36 =>
                            M.bind (toml_numeral_1 n (adr x1) (adr x0)) fun x37 =>
                            if decide (x37 = 0) then
                              M.pure false
                            else
                              M.bind (ldL (li) (adr x1)) fun (x38 : Int) =>
                              M.bind (ldL .str (adr x0)) fun (x39 : ByteArray) =>
                              M.pure (decide (x38 = (↑(ByteArray.size x39) : Int)))
                          else
                            M.bind (toml_numeral_1 n (adr x1) (adr x0)) fun x35 =>
                            if decide (x35 = 0) then
                              M.pure false
                            else
                              M.bind (ldL (li) (adr x1)) fun (x36 : Int) =>
                              M.bind (ldL .str (adr x0)) fun (x37 : ByteArray) =>
                              M.pure (decide (x36 = (↑(ByteArray.size x37) : Int)))
                      else
                        M.bind (toml_numeral_1 n (adr x1) (adr x0)) fun x29 =>
                        if decide (x29 = 0) then
                          M.pure false
                        else
                          M.bind (ldL (li) (adr x1)) fun (x30 : Int) =>
                          M.bind (ldL .str (adr x0)) fun (x31 : ByteArray) =>
                          M.pure (decide (x30 = (↑(ByteArray.size x31) : Int)))
                    else
                      M.bind (ldL (li) (adr x1)) fun (x25 : Int) =>
                      M.bind (ldL .str (adr x0)) fun (x26 : ByteArray) =>
                      M.pure (decide (x25 = (↑(ByteArray.size x26) : Int)))
                else
                  M.bind (ldL (li) (adr x1)) fun (x19 : Int) =>
                  M.bind (ldL .str (adr x0)) fun (x20 : ByteArray) =>
                  M.pure (decide (x19 = (↑(ByteArray.size x20) : Int)))
            else
              M.bind (ldL (li) (adr x1)) fun (x14 : Int) =>
              M.bind (ldL .str (adr x0)) fun (x15 : ByteArray) =>
              if decide (x14 < (↑(ByteArray.size x15) : Int)) then
                M.bind (ldL .str (adr x0)) fun (x16 : ByteArray) =>
                M.bind (ldL (li) (adr x1)) fun (x17 : Int) =>
                M.bind (idxS x16 x17) fun x18 =>
                if decide ((↑x18.toNat : Int) = 101) then
                  M.bind (ldL (li) (adr x1)) fun (x19 : Int) =>
                  M.bind (stN (adr x1) [vi (IntKind.i64.wrap (x19 + 1))]) fun x20 =>
                  M.bind (ldL (li) (adr x1)) fun (x21 : Int) =>
                  M.bind (ldL .str (adr x0)) fun (x22 : ByteArray) =>
                  if decide (x21 < (↑(ByteArray.size x22) : Int)) then
                    M.bind (ldL .str (adr x0)) fun (x23 : ByteArray) =>
                    M.bind (ldL (li) (adr x1)) fun (x24 : Int) =>
                    M.bind (idxS x23 x24) fun x25 =>
                    if decide ((↑x25.toNat : Int) = 43) then
                      M.bind (ldL (li) (adr x1)) fun (x26 : Int) =>
                      M.bind (stN (adr x1) [vi (IntKind.i64.wrap (x26 + 1))]) fun x27 =>
                      M.bind (toml_numeral_1 n (adr x1) (adr x0)) fun x28 =>
                      if decide (x28 = 0) then
                        M.pure false
                      else
                        M.bind (ldL (li) (adr x1)) fun (x29 : Int) =>
                        M.bind (ldL .str (adr x0)) fun (x30 : ByteArray) =>
                        M.pure (decide (x29 = (↑(ByteArray.size x30) : Int)))
                    else
                      M.bind (ldL .str (adr x0)) fun (x26 : ByteArray) =>
                      M.bind (ldL (li) (adr x1)) fun (x27 : Int) =>
                      M.bind (idxS x26 x27) fun x28 =>
                      if decide ((↑x28.toNat : Int) = 45) then
                        M.bind (ldL (li) (adr x1)) fun (x29 : Int) =>
                        M.bind (stN (adr x1) [vi (IntKind.i64.wrap (x29 + 1))]) fun x30 =>
                        M.bind (toml_numeral_1 n (adr x1) (adr x0)) fun x31 =>
                        if decide (x31 = 0) then
                          M.pure false
                        else
                          M.bind (ldL (li) (adr x1)) fun (x32 : Int) =>
                          M.bind (ldL .str (adr x0)) fun (x33 : ByteArray) =>
                          M.pure (decide (x32 = (↑(ByteArray.size x33) : Int)))
                      else
                        M.bind (toml_numeral_1 n (adr x1) (adr x0)) fun x29 =>
                        if decide (x29 = 0) then
                          M.pure false
                        else
                          M.bind (ldL (li) (adr x1)) fun (x30 : Int) =>
                          M.bind (ldL .str (adr x0)) fun (x31 : ByteArray) =>
                          M.pure (decide (x30 = (↑(ByteArray.size x31) : Int)))
                  else
                    M.bind (toml_numeral_1 n (adr x1) (adr x0)) fun x23 =>
                    if decide (x23 = 0) then
                      M.pure false
                    else
                      M.bind (ldL (li) (adr x1)) fun (x24 : Int) =>
                      M.bind (ldL .str (adr x0)) fun (x25 : ByteArray) =>
                      M.pure (decide (x24 = (↑(ByteArray.size x25) : Int)))
                else
                  M.bind (ldL .str (adr x0)) fun (x19 : ByteArray) =>
                  M.bind (ldL (li) (adr x1)) fun (x20 : Int) =>
                  M.bind (idxS x19 x20) fun x21 =>
                  if decide ((↑x21.toNat : Int) = 69) then
                    M.bind (ldL (li) (adr x1)) fun (x22 : Int) =>
                    M.bind (stN (adr x1) [vi (IntKind.i64.wrap (x22 + 1))]) fun x23 =>
                    M.bind (ldL (li) (adr x1)) fun (x24 : Int) =>
                    M.bind (ldL .str (adr x0)) fun (x25 : ByteArray) =>
                    if decide (x24 < (↑(ByteArray.size x25) : Int)) then
                      M.bind (ldL .str (adr x0)) fun (x26 : ByteArray) =>
                      M.bind (ldL (li) (adr x1)) fun (x27 : Int) =>
                      M.bind (idxS x26 x27) fun x28 =>
                      if decide ((↑x28.toNat : Int) = 43) then
                        M.bind (ldL (li) (adr x1)) fun (x29 : Int) =>
                        M.bind (stN (adr x1) [vi (IntKind.i64.wrap (x29 + 1))]) fun x30 =>
                        M.bind (toml_numeral_1 n (adr x1) (adr x0)) fun x31 =>
                        if decide (x31 = 0) then
                          M.pure false
                        else
                          M.bind (ldL (li) (adr x1)) fun (x32 : Int) =>
                          M.bind (ldL .str (adr x0)) fun (x33 : ByteArray) =>
                          M.pure (decide (x32 = (↑(ByteArray.size x33) : Int)))
                      else
                        M.bind (ldL .str (adr x0)) fun (x29 : ByteArray) =>
                        M.bind (ldL (li) (adr x1)) fun (x30 : Int) =>
                        M.bind (idxS x29 x30) fun x31 =>
                        if decide ((↑x31.toNat : Int) = 45) then
                          M.bind (ldL (li) (adr x1)) fun (x32 : Int) =>
                          M.bind (stN (adr x1) [vi (IntKind.i64.wrap (x32 + 1))]) fun x33 =>
                          M.bind (toml_numeral_1 n (adr x1) (adr x0)) fun x34 =>
                          if decide (x34 = 0) then
                            M.pure false
                          else
                            M.bind (ldL (li) (adr x1)) fun (x35 : Int) =>
                            M.bind (ldL .str (adr x0)) fun (x36 : ByteArray) =>
                            M.pure (decide (x35 = (↑(ByteArray.size x36) : Int)))
                        else
                          M.bind (toml_numeral_1 n (adr x1) (adr x0)) fun x32 =>
                          if decide (x32 = 0) then
                            M.pure false
                          else
                            M.bind (ldL (li) (adr x1)) fun (x33 : Int) =>
                            M.bind (ldL .str (adr x0)) fun (x34 : ByteArray) =>
                            M.pure (decide (x33 = (↑(ByteArray.size x34) : Int)))
                    else
                      M.bind (toml_numeral_1 n (adr x1) (adr x0)) fun x26 =>
                      if decide (x26 = 0) then
                        M.pure false
                      else
                        M.bind (ldL (li) (adr x1)) fun (x27 : Int) =>
                        M.bind (ldL .str (adr x0)) fun (x28 : ByteArray) =>
                        M.pure (decide (x27 = (↑(ByteArray.size x28) : Int)))
                  else
                    M.bind (ldL (li) (adr x1)) fun (x22 : Int) =>
                    M.bind (ldL .str (adr x0)) fun (x23 : ByteArray) =>
                    M.pure (decide (x22 = (↑(ByteArray.size x23) : Int)))
              else
                M.bind (ldL (li) (adr x1)) fun (x16 : Int) =>
                M.bind (ldL .str (adr x0)) fun (x17 : ByteArray) =>
                M.pure (decide (x16 = (↑(ByteArray.size x17) : Int)))
          else
            M.bind (ldL (li) (adr x1)) fun (x11 : Int) =>
            M.bind (ldL .str (adr x0)) fun (x12 : ByteArray) =>
            if decide (x11 < (↑(ByteArray.size x12) : Int)) then
              M.bind (ldL .str (adr x0)) fun (x13 : ByteArray) =>
              M.bind (ldL (li) (adr x1)) fun (x14 : Int) =>
              M.bind (idxS x13 x14) fun x15 =>
              if decide ((↑x15.toNat : Int) = 101) then
                M.bind (ldL (li) (adr x1)) fun (x16 : Int) =>
                M.bind (stN (adr x1) [vi (IntKind.i64.wrap (x16 + 1))]) fun x17 =>
                M.bind (ldL (li) (adr x1)) fun (x18 : Int) =>
                M.bind (ldL .str (adr x0)) fun (x19 : ByteArray) =>
                if decide (x18 < (↑(ByteArray.size x19) : Int)) then
                  M.bind (ldL .str (adr x0)) fun (x20 : ByteArray) =>
                  M.bind (ldL (li) (adr x1)) fun (x21 : Int) =>
                  M.bind (idxS x20 x21) fun x22 =>
                  if decide ((↑x22.toNat : Int) = 43) then
                    M.bind (ldL (li) (adr x1)) fun (x23 : Int) =>
                    M.bind (stN (adr x1) [vi (IntKind.i64.wrap (x23 + 1))]) fun x24 =>
                    M.bind (toml_numeral_1 n (adr x1) (adr x0)) fun x25 =>
                    if decide (x25 = 0) then
                      M.pure false
                    else
                      M.bind (ldL (li) (adr x1)) fun (x26 : Int) =>
                      M.bind (ldL .str (adr x0)) fun (x27 : ByteArray) =>
                      M.pure (decide (x26 = (↑(ByteArray.size x27) : Int)))
                  else
                    M.bind (ldL .str (adr x0)) fun (x23 : ByteArray) =>
                    M.bind (ldL (li) (adr x1)) fun (x24 : Int) =>
                    M.bind (idxS x23 x24) fun x25 =>
                    if decide ((↑x25.toNat : Int) = 45) then
                      M.bind (ldL (li) (adr x1)) fun (x26 : Int) =>
                      M.bind (stN (adr x1) [vi (IntKind.i64.wrap (x26 + 1))]) fun x27 =>
                      M.bind (toml_numeral_1 n (adr x1) (adr x0)) fun x28 =>
                      if decide (x28 = 0) then
                        M.pure false
                      else
                        M.bind (ldL (li) (adr x1)) fun (x29 : Int) =>
                        M.bind (ldL .str (adr x0)) fun (x30 : ByteArray) =>
                        M.pure (decide (x29 = (↑(ByteArray.size x30) : Int)))
                    else
                      M.bind (toml_numeral_1 n (adr x1) (adr x0)) fun x26 =>
                      if decide (x26 = 0) then
                        M.pure false
                      else
                        M.bind (ldL (li) (adr x1)) fun (x27 : Int) =>
                        M.bind (ldL .str (adr x0)) fun (x28 : ByteArray) =>
                        M.pure (decide (x27 = (↑(ByteArray.size x28) : Int)))
                else
                  M.bind (toml_numeral_1 n (adr x1) (adr x0)) fun x20 =>
                  if decide (x20 = 0) then
                    M.pure false
                  else
                    M.bind (ldL (li) (adr x1)) fun (x21 : Int) =>
                    M.bind (ldL .str (adr x0)) fun (x22 : ByteArray) =>
                    M.pure (decide (x21 = (↑(ByteArray.size x22) : Int)))
              else
                M.bind (ldL .str (adr x0)) fun (x16 : ByteArray) =>
                M.bind (ldL (li) (adr x1)) fun (x17 : Int) =>
                M.bind (idxS x16 x17) fun x18 =>
                if decide ((↑x18.toNat : Int) = 69) then
                  M.bind (ldL (li) (adr x1)) fun (x19 : Int) =>
                  M.bind (stN (adr x1) [vi (IntKind.i64.wrap (x19 + 1))]) fun x20 =>
                  M.bind (ldL (li) (adr x1)) fun (x21 : Int) =>
                  M.bind (ldL .str (adr x0)) fun (x22 : ByteArray) =>
                  if decide (x21 < (↑(ByteArray.size x22) : Int)) then
                    M.bind (ldL .str (adr x0)) fun (x23 : ByteArray) =>
                    M.bind (ldL (li) (adr x1)) fun (x24 : Int) =>
                    M.bind (idxS x23 x24) fun x25 =>
                    if decide ((↑x25.toNat : Int) = 43) then
                      M.bind (ldL (li) (adr x1)) fun (x26 : Int) =>
                      M.bind (stN (adr x1) [vi (IntKind.i64.wrap (x26 + 1))]) fun x27 =>
                      M.bind (toml_numeral_1 n (adr x1) (adr x0)) fun x28 =>
                      if decide (x28 = 0) then
                        M.pure false
                      else
                        M.bind (ldL (li) (adr x1)) fun (x29 : Int) =>
                        M.bind (ldL .str (adr x0)) fun (x30 : ByteArray) =>
                        M.pure (decide (x29 = (↑(ByteArray.size x30) : Int)))
                    else
                      M.bind (ldL .str (adr x0)) fun (x26 : ByteArray) =>
                      M.bind (ldL (li) (adr x1)) fun (x27 : Int) =>
                      M.bind (idxS x26 x27) fun x28 =>
                      if decide ((↑x28.toNat : Int) = 45) then
                        M.bind (ldL (li) (adr x1)) fun (x29 : Int) =>
                        M.bind (stN (adr x1) [vi (IntKind.i64.wrap (x29 + 1))]) fun x30 =>
                        M.bind (toml_numeral_1 n (adr x1) (adr x0)) fun x31 =>
                        if decide (x31 = 0) then
                          M.pure false
                        else
                          M.bind (ldL (li) (adr x1)) fun (x32 : Int) =>
                          M.bind (ldL .str (adr x0)) fun (x33 : ByteArray) =>
                          M.pure (decide (x32 = (↑(ByteArray.size x33) : Int)))
                      else
                        M.bind (toml_numeral_1 n (adr x1) (adr x0)) fun x29 =>
                        if decide (x29 = 0) then
                          M.pure false
                        else
                          M.bind (ldL (li) (adr x1)) fun (x30 : Int) =>
                          M.bind (ldL .str (adr x0)) fun (x31 : ByteArray) =>
                          M.pure (decide (x30 = (↑(ByteArray.size x31) : Int)))
                  else
                    M.bind (toml_numeral_1 n (adr x1) (adr x0)) fun x23 =>
                    if decide (x23 = 0) then
                      M.pure false
                    else
                      M.bind (ldL (li) (adr x1)) fun (x24 : Int) =>
                      M.bind (ldL .str (adr x0)) fun (x25 : ByteArray) =>
                      M.pure (decide (x24 = (↑(ByteArray.size x25) : Int)))
                else
                  M.bind (ldL (li) (adr x1)) fun (x19 : Int) =>
                  M.bind (ldL .str (adr x0)) fun (x20 : ByteArray) =>
                  M.pure (decide (x19 = (↑(ByteArray.size x20) : Int)))
            else
              M.bind (ldL (li) (adr x1)) fun (x13 : Int) =>
              M.bind (ldL .str (adr x0)) fun (x14 : ByteArray) =>
              M.pure (decide (x13 = (↑(ByteArray.size x14) : Int)))
      else
        M.bind (ldL (li) (adr x1)) fun (x7 : Int) =>
        M.bind (ldL .str (adr x0)) fun (x8 : ByteArray) =>
        if decide (x7 < (↑(ByteArray.size x8) : Int)) then
          M.bind (ldL .str (adr x0)) fun (x9 : ByteArray) =>
          M.bind (ldL (li) (adr x1)) fun (x10 : Int) =>
          M.bind (idxS x9 x10) fun x11 =>
          if decide ((↑x11.toNat : Int) = 46) then
            M.bind (ldL (li) (adr x1)) fun (x12 : Int) =>
            M.bind (stN (adr x1) [vi (IntKind.i64.wrap (x12 + 1))]) fun x13 =>
            M.bind (toml_numeral_1 n (adr x1) (adr x0)) fun x14 =>
            if decide (x14 = 0) then
              M.pure false
            else
              M.bind (ldL (li) (adr x1)) fun (x15 : Int) =>
              M.bind (ldL .str (adr x0)) fun (x16 : ByteArray) =>
              if decide (x15 < (↑(ByteArray.size x16) : Int)) then
                M.bind (ldL .str (adr x0)) fun (x17 : ByteArray) =>
                M.bind (ldL (li) (adr x1)) fun (x18 : Int) =>
                M.bind (idxS x17 x18) fun x19 =>
                if decide ((↑x19.toNat : Int) = 101) then
                  M.bind (ldL (li) (adr x1)) fun (x20 : Int) =>
                  M.bind (stN (adr x1) [vi (IntKind.i64.wrap (x20 + 1))]) fun x21 =>
                  M.bind (ldL (li) (adr x1)) fun (x22 : Int) =>
                  M.bind (ldL .str (adr x0)) fun (x23 : ByteArray) =>
                  if decide (x22 < (↑(ByteArray.size x23) : Int)) then
                    M.bind (ldL .str (adr x0)) fun (x24 : ByteArray) =>
                    M.bind (ldL (li) (adr x1)) fun (x25 : Int) =>
                    M.bind (idxS x24 x25) fun x26 =>
                    if decide ((↑x26.toNat : Int) = 43) then
                      M.bind (ldL (li) (adr x1)) fun (x27 : Int) =>
                      M.bind (stN (adr x1) [vi (IntKind.i64.wrap (x27 + 1))]) fun x28 =>
                      M.bind (toml_numeral_1 n (adr x1) (adr x0)) fun x29 =>
                      if decide (x29 = 0) then
                        M.pure false
                      else
                        M.bind (ldL (li) (adr x1)) fun (x30 : Int) =>
                        M.bind (ldL .str (adr x0)) fun (x31 : ByteArray) =>
                        M.pure (decide (x30 = (↑(ByteArray.size x31) : Int)))
                    else
                      M.bind (ldL .str (adr x0)) fun (x27 : ByteArray) =>
                      M.bind (ldL (li) (adr x1)) fun (x28 : Int) =>
                      M.bind (idxS x27 x28) fun x29 =>
                      if decide ((↑x29.toNat : Int) = 45) then
                        M.bind (ldL (li) (adr x1)) fun (x30 : Int) =>
                        M.bind (stN (adr x1) [vi (IntKind.i64.wrap (x30 + 1))]) fun x31 =>
                        M.bind (toml_numeral_1 n (adr x1) (adr x0)) fun x32 =>
                        if decide (x32 = 0) then
                          M.pure false
                        else
                          M.bind (ldL (li) (adr x1)) fun (x33 : Int) =>
                          M.bind (ldL .str (adr x0)) fun (x34 : ByteArray) =>
                          M.pure (decide (x33 = (↑(ByteArray.size x34) : Int)))
                      else
                        M.bind (toml_numeral_1 n (adr x1) (adr x0)) fun x30 =>
                        if decide (x30 = 0) then
                          M.pure false
                        else
                          M.bind (ldL (li) (adr x1)) fun (x31 : Int) =>
                          M.bind (ldL .str (adr x0)) fun (x32 : ByteArray) =>
                          M.pure (decide (x31 = (↑(ByteArray.size x32) : Int)))
                  else
                    M.bind (toml_numeral_1 n (adr x1) (adr x0)) fun x24 =>
                    if decide (x24 = 0) then
                      M.pure false
                    else
                      M.bind (ldL (li) (adr x1)) fun (x25 : Int) =>
                      M.bind (ldL .str (adr x0)) fun (x26 : ByteArray) =>
                      M.pure (decide (x25 = (↑(ByteArray.size x26) : Int)))
                else
                  M.bind (ldL .str (adr x0)) fun (x20 : ByteArray) =>
                  M.bind (ldL (li) (adr x1)) fun (x21 : Int) =>
                  M.bind (idxS x20 x21) fun x22 =>
                  if decide ((↑x22.toNat : Int) = 69) then
                    M.bind (ldL (li) (adr x1)) fun (x23 : Int) =>
                    M.bind (stN (adr x1) [vi (IntKind.i64.wrap (x23 + 1))]) fun x24 =>
                    M.bind (ldL (li) (adr x1)) fun (x25 : Int) =>
                    M.bind (ldL .str (adr x0)) fun (x26 : ByteArray) =>
                    if decide (x25 < (↑(ByteArray.size x26) : Int)) then
                      M.bind (ldL .str (adr x0)) fun (x27 : ByteArray) =>
                      M.bind (ldL (li) (adr x1)) fun (x28 : Int) =>
                      M.bind (idxS x27 x28) fun x29 =>
                      if decide ((↑x29.toNat : Int) = 43) then
                        M.bind (ldL (li) (adr x1)) fun (x30 : Int) =>
                        M.bind (stN (adr x1) [vi (IntKind.i64.wrap (x30 + 1))]) fun x31 =>
                        M.bind (toml_numeral_1 n (adr x1) (adr x0)) fun x32 =>
                        if decide (x32 = 0) then
                          M.pure false
                        else
                          M.bind (ldL (li) (adr x1)) fun (x33 : Int) =>
                          M.bind (ldL .str (adr x0)) fun (x34 : ByteArray) =>
                          M.pure (decide (x33 = (↑(ByteArray.size x34) : Int)))
                      else
                        M.bind (ldL .str (adr x0)) fun (x30 : ByteArray) =>
                        M.bind (ldL (li) (adr x1)) fun (x31 : Int) =>
                        M.bind (idxS x30 x31) fun x32 =>
                        if decide ((↑x32.toNat : Int) = 45) then
                          M.bind (ldL (li) (adr x1)) fun (x33 : Int) =>
                          M.bind (stN (adr x1) [vi (IntKind.i64.wrap (x33 + 1))]) fun x34 =>
                          M.bind (toml_numeral_1 n (adr x1) (adr x0)) fun x35 =>
                          if decide (x35 = 0) then
                            M.pure false
                          else
                            M.bind (ldL (li) (adr x1)) fun (x36 : Int) =>
                            M.bind (ldL .str (adr x0)) fun (x37 : ByteArray) =>
                            M.pure (decide (x36 = (↑(ByteArray.size x37) : Int)))
                        else
                          M.bind (toml_numeral_1 n (adr x1) (adr x0)) fun x33 =>
                          if decide (x33 = 0) then
                            M.pure false
                          else
                            M.bind (ldL (li) (adr x1)) fun (x34 : Int) =>
                            M.bind (ldL .str (adr x0)) fun (x35 : ByteArray) =>
                            M.pure (decide (x34 = (↑(ByteArray.size x35) : Int)))
                    else
                      M.bind (toml_numeral_1 n (adr x1) (adr x0)) fun x27 =>
                      if decide (x27 = 0) then
                        M.pure false
                      else
                        M.bind (ldL (li) (adr x1)) fun (x28 : Int) =>
                        M.bind (ldL .str (adr x0)) fun (x29 : ByteArray) =>
                        M.pure (decide (x28 = (↑(ByteArray.size x29) : Int)))
                  else
                    M.bind (ldL (li) (adr x1)) fun (x23 : Int) =>
                    M.bind (ldL .str (adr x0)) fun (x24 : ByteArray) =>
                    M.pure (decide (x23 = (↑(ByteArray.size x24) : Int)))
              else
                M.bind (ldL (li) (adr x1)) fun (x17 : Int) =>
                M.bind (ldL .str (adr x0)) fun (x18 : ByteArray) =>
                M.pure (decide (x17 = (↑(ByteArray.size x18) : Int)))
          else
            M.bind (ldL (li) (adr x1)) fun (x12 : Int) =>
            M.bind (ldL .str (adr x0)) fun (x13 : ByteArray) =>
            if decide (x12 < (↑(ByteArray.size x13) : Int)) then
              M.bind (ldL .str (adr x0)) fun (x14 : ByteArray) =>
              M.bind (ldL (li) (adr x1)) fun (x15 : Int) =>
              M.bind (idxS x14 x15) fun x16 =>
              if decide ((↑x16.toNat : Int) = 101) then
                M.bind (ldL (li) (adr x1)) fun (x17 : Int) =>
                M.bind (stN (adr x1) [vi (IntKind.i64.wrap (x17 + 1))]) fun x18 =>
                M.bind (ldL (li) (adr x1)) fun (x19 : Int) =>
                M.bind (ldL .str (adr x0)) fun (x20 : ByteArray) =>
                if decide (x19 < (↑(ByteArray.size x20) : Int)) then
                  M.bind (ldL .str (adr x0)) fun (x21 : ByteArray) =>
                  M.bind (ldL (li) (adr x1)) fun (x22 : Int) =>
                  M.bind (idxS x21 x22) fun x23 =>
                  if decide ((↑x23.toNat : Int) = 43) then
                    M.bind (ldL (li) (adr x1)) fun (x24 : Int) =>
                    M.bind (stN (adr x1) [vi (IntKind.i64.wrap (x24 + 1))]) fun x25 =>
                    M.bind (toml_numeral_1 n (adr x1) (adr x0)) fun x26 =>
                    if decide (x26 = 0) then
                      M.pure false
                    else
                      M.bind (ldL (li) (adr x1)) fun (x27 : Int) =>
                      M.bind (ldL .str (adr x0)) fun (x28 : ByteArray) =>
                      M.pure (decide (x27 = (↑(ByteArray.size x28) : Int)))
                  else
                    M.bind (ldL .str (adr x0)) fun (x24 : ByteArray) =>
                    M.bind (ldL (li) (adr x1)) fun (x25 : Int) =>
                    M.bind (idxS x24 x25) fun x26 =>
                    if decide ((↑x26.toNat : Int) = 45) then
                      M.bind (ldL (li) (adr x1)) fun (x27 : Int) =>
                      M.bind (stN (adr x1) [vi (IntKind.i64.wrap (x27 + 1))]) fun x28 =>
                      M.bind (toml_numeral_1 n (adr x1) (adr x0)) fun x29 =>
                      if decide (x29 = 0) then
                        M.pure false
                      else
                        M.bind (ldL (li) (adr x1)) fun (x30 : Int) =>
                        M.bind (ldL .str (adr x0)) fun (x31 : ByteArray) =>
                        M.pure (decide (x30 = (↑(ByteArray.size x31) : Int)))
                    else
                      M.bind (toml_numeral_1 n (adr x1) (adr x0)) fun x27 =>
                      if decide (x27 = 0) then
                        M.pure false
                      else
                        M.bind (ldL (li) (adr x1)) fun (x28 : Int) =>
                        M.bind (ldL .str (adr x0)) fun (x29 : ByteArray) =>
                        M.pure (decide (x28 = (↑(ByteArray.size x29) : Int)))
                else
                  M.bind (toml_numeral_1 n (adr x1) (adr x0)) fun x21 =>
                  if decide (x21 = 0) then
                    M.pure false
                  else
                    M.bind (ldL (li) (adr x1)) fun (x22 : Int) =>
                    M.bind (ldL .str (adr x0)) fun (x23 : ByteArray) =>
                    M.pure (decide (x22 = (↑(ByteArray.size x23) : Int)))
              else
                M.bind (ldL .str (adr x0)) fun (x17 : ByteArray) =>
                M.bind (ldL (li) (adr x1)) fun (x18 : Int) =>
                M.bind (idxS x17 x18) fun x19 =>
                if decide ((↑x19.toNat : Int) = 69) then
                  M.bind (ldL (li) (adr x1)) fun (x20 : Int) =>
                  M.bind (stN (adr x1) [vi (IntKind.i64.wrap (x20 + 1))]) fun x21 =>
                  M.bind (ldL (li) (adr x1)) fun (x22 : Int) =>
                  M.bind (ldL .str (adr x0)) fun (x23 : ByteArray) =>
                  if decide (x22 < (↑(ByteArray.size x23) : Int)) then
                    M.bind (ldL .str (adr x0)) fun (x24 : ByteArray) =>
                    M.bind (ldL (li) (adr x1)) fun (x25 : Int) =>
                    M.bind (idxS x24 x25) fun x26 =>
                    if decide ((↑x26.toNat : Int) = 43) then
                      M.bind (ldL (li) (adr x1)) fun (x27 : Int) =>
                      M.bind (stN (adr x1) [vi (IntKind.i64.wrap (x27 + 1))]) fun x28 =>
                      M.bind (toml_numeral_1 n (adr x1) (adr x0)) fun x29 =>
                      if decide (x29 = 0) then
                        M.pure false
                      else
                        M.bind (ldL (li) (adr x1)) fun (x30 : Int) =>
                        M.bind (ldL .str (adr x0)) fun (x31 : ByteArray) =>
                        M.pure (decide (x30 = (↑(ByteArray.size x31) : Int)))
                    else
                      M.bind (ldL .str (adr x0)) fun (x27 : ByteArray) =>
                      M.bind (ldL (li) (adr x1)) fun (x28 : Int) =>
                      M.bind (idxS x27 x28) fun x29 =>
                      if decide ((↑x29.toNat : Int) = 45) then
                        M.bind (ldL (li) (adr x1)) fun (x30 : Int) =>
                        M.bind (stN (adr x1) [vi (IntKind.i64.wrap (x30 + 1))]) fun x31 =>
                        M.bind (toml_numeral_1 n (adr x1) (adr x0)) fun x32 =>
                        if decide (x32 = 0) then
                          M.pure false
                        else
                          M.bind (ldL (li) (adr x1)) fun (x33 : Int) =>
                          M.bind (ldL .str (adr x0)) fun (x34 : ByteArray) =>
                          M.pure (decide (x33 = (↑(ByteArray.size x34) : Int)))
                      else
                        M.bind (toml_numeral_1 n (adr x1) (adr x0)) fun x30 =>
                        if decide (x30 = 0) then
                          M.pure false
                        else
                          M.bind (ldL (li) (adr x1)) fun (x31 : Int) =>
                          M.bind (ldL .str (adr x0)) fun (x32 : ByteArray) =>
                          M.pure (decide (x31 = (↑(ByteArray.size x32) : Int)))
                  else
                    M.bind (toml_numeral_1 n (adr x1) (adr x0)) fun x24 =>
                    if decide (x24 = 0) then
                      M.pure false
                    else
                      M.bind (ldL (li) (adr x1)) fun (x25 : Int) =>
                      M.bind (ldL .str (adr x0)) fun (x26 : ByteArray) =>
                      M.pure (decide (x25 = (↑(ByteArray.size x26) : Int)))
                else
                  M.bind (ldL (li) (adr x1)) fun (x20 : Int) =>
                  M.bind (ldL .str (adr x0)) fun (x21 : ByteArray) =>
                  M.pure (decide (x20 = (↑(ByteArray.size x21) : Int)))
            else
              M.bind (ldL (li) (adr x1)) fun (x14 : Int) =>
              M.bind (ldL .str (adr x0)) fun (x15 : ByteArray) =>
              M.pure (decide (x14 = (↑(ByteArray.size x15) : Int)))
        else
          M.bind (ldL (li) (adr x1)) fun (x9 : Int) =>
          M.bind (ldL .str (adr x0)) fun (x10 : ByteArray) =>
          if decide (x9 < (↑(ByteArray.size x10) : Int)) then
            M.bind (ldL .str (adr x0)) fun (x11 : ByteArray) =>
            M.bind (ldL (li) (adr x1)) fun (x12 : Int) =>
            M.bind (idxS x11 x12) fun x13 =>
            if decide ((↑x13.toNat : Int) = 101) then
              M.bind (ldL (li) (adr x1)) fun (x14 : Int) =>
              M.bind (stN (adr x1) [vi (IntKind.i64.wrap (x14 + 1))]) fun x15 =>
              M.bind (ldL (li) (adr x1)) fun (x16 : Int) =>
              M.bind (ldL .str (adr x0)) fun (x17 : ByteArray) =>
              if decide (x16 < (↑(ByteArray.size x17) : Int)) then
                M.bind (ldL .str (adr x0)) fun (x18 : ByteArray) =>
                M.bind (ldL (li) (adr x1)) fun (x19 : Int) =>
                M.bind (idxS x18 x19) fun x20 =>
                if decide ((↑x20.toNat : Int) = 43) then
                  M.bind (ldL (li) (adr x1)) fun (x21 : Int) =>
                  M.bind (stN (adr x1) [vi (IntKind.i64.wrap (x21 + 1))]) fun x22 =>
                  M.bind (toml_numeral_1 n (adr x1) (adr x0)) fun x23 =>
                  if decide (x23 = 0) then
                    M.pure false
                  else
                    M.bind (ldL (li) (adr x1)) fun (x24 : Int) =>
                    M.bind (ldL .str (adr x0)) fun (x25 : ByteArray) =>
                    M.pure (decide (x24 = (↑(ByteArray.size x25) : Int)))
                else
                  M.bind (ldL .str (adr x0)) fun (x21 : ByteArray) =>
                  M.bind (ldL (li) (adr x1)) fun (x22 : Int) =>
                  M.bind (idxS x21 x22) fun x23 =>
                  if decide ((↑x23.toNat : Int) = 45) then
                    M.bind (ldL (li) (adr x1)) fun (x24 : Int) =>
                    M.bind (stN (adr x1) [vi (IntKind.i64.wrap (x24 + 1))]) fun x25 =>
                    M.bind (toml_numeral_1 n (adr x1) (adr x0)) fun x26 =>
                    if decide (x26 = 0) then
                      M.pure false
                    else
                      M.bind (ldL (li) (adr x1)) fun (x27 : Int) =>
                      M.bind (ldL .str (adr x0)) fun (x28 : ByteArray) =>
                      M.pure (decide (x27 = (↑(ByteArray.size x28) : Int)))
                  else
                    M.bind (toml_numeral_1 n (adr x1) (adr x0)) fun x24 =>
                    if decide (x24 = 0) then
                      M.pure false
                    else
                      M.bind (ldL (li) (adr x1)) fun (x25 : Int) =>
                      M.bind (ldL .str (adr x0)) fun (x26 : ByteArray) =>
                      M.pure (decide (x25 = (↑(ByteArray.size x26) : Int)))
              else
                M.bind (toml_numeral_1 n (adr x1) (adr x0)) fun x18 =>
                if decide (x18 = 0) then
                  M.pure false
                else
                  M.bind (ldL (li) (adr x1)) fun (x19 : Int) =>
                  M.bind (ldL .str (adr x0)) fun (x20 : ByteArray) =>
                  M.pure (decide (x19 = (↑(ByteArray.size x20) : Int)))
            else
              M.bind (ldL .str (adr x0)) fun (x14 : ByteArray) =>
              M.bind (ldL (li) (adr x1)) fun (x15 : Int) =>
              M.bind (idxS x14 x15) fun x16 =>
              if decide ((↑x16.toNat : Int) = 69) then
                M.bind (ldL (li) (adr x1)) fun (x17 : Int) =>
                M.bind (stN (adr x1) [vi (IntKind.i64.wrap (x17 + 1))]) fun x18 =>
                M.bind (ldL (li) (adr x1)) fun (x19 : Int) =>
                M.bind (ldL .str (adr x0)) fun (x20 : ByteArray) =>
                if decide (x19 < (↑(ByteArray.size x20) : Int)) then
                  M.bind (ldL .str (adr x0)) fun (x21 : ByteArray) =>
                  M.bind (ldL (li) (adr x1)) fun (x22 : Int) =>
                  M.bind (idxS x21 x22) fun x23 =>
                  if decide ((↑x23.toNat : Int) = 43) then
                    M.bind (ldL (li) (adr x1)) fun (x24 : Int) =>
                    M.bind (stN (adr x1) [vi (IntKind.i64.wrap (x24 + 1))]) fun x25 =>
                    M.bind (toml_numeral_1 n (adr x1) (adr x0)) fun x26 =>
                    if decide (x26 = 0) then
                      M.pure false
                    else
                      M.bind (ldL (li) (adr x1)) fun (x27 : Int) =>
                      M.bind (ldL .str (adr x0)) fun (x28 : ByteArray) =>
                      M.pure (decide (x27 = (↑(ByteArray.size x28) : Int)))
                  else
                    M.bind (ldL .str (adr x0)) fun (x24 : ByteArray) =>
                    M.bind (ldL (li) (adr x1)) fun (x25 : Int) =>
                    M.bind (idxS x24 x25) fun x26 =>
                    if decide ((↑x26.toNat : Int) = 45) then
                      M.bind (ldL (li) (adr x1)) fun (x27 : Int) =>
                      M.bind (stN (adr x1) [vi (IntKind.i64.wrap (x27 + 1))]) fun x28 =>
                      M.bind (toml_numeral_1 n (adr x1) (adr x0)) fun x29 =>
                      if decide (x29 = 0) then
                        M.pure false
                      else
                        M.bind (ldL (li) (adr x1)) fun (x30 : Int) =>
                        M.bind (ldL .str (adr x0)) fun (x31 : ByteArray) =>
                        M.pure (decide (x30 = (↑(ByteArray.size x31) : Int)))
                    else
                      M.bind (toml_numeral_1 n (adr x1) (adr x0)) fun x27 =>
                      if decide (x27 = 0) then
                        M.pure false
                      else
                        M.bind (ldL (li) (adr x1)) fun (x28 : Int) =>
                        M.bind (ldL .str (adr x0)) fun (x29 : ByteArray) =>
                        M.pure (decide (x28 = (↑(ByteArray.size x29) : Int)))
                else
                  M.bind (toml_numeral_1 n (adr x1) (adr x0)) fun x21 =>
                  if decide (x21 = 0) then
                    M.pure false
                  else
                    M.bind (ldL (li) (adr x1)) fun (x22 : Int) =>
                    M.bind (ldL .str (adr x0)) fun (x23 : ByteArray) =>
                    M.pure (decide (x22 = (↑(ByteArray.size x23) : Int)))
              else
                M.bind (ldL (li) (adr x1)) fun (x17 : Int) =>
                M.bind (ldL .str (adr x0)) fun (x18 : ByteArray) =>
                M.pure (decide (x17 = (↑(ByteArray.size x18) : Int)))
          else
            M.bind (ldL (li) (adr x1)) fun (x11 : Int) =>
            M.bind (ldL .str (adr x0)) fun (x12 : ByteArray) =>
            M.pure (decide (x11 = (↑(ByteArray.size x12) : Int)))
abbrev q183_E (n : Nat) : Ent := ⟨183, [tyS], [tyB], fun x => toml_numeral n x⟩
theorem toml_numeral_ok (n : Nat) : FnOK Tryz.prog (q183_E n) := fn_c Tryz.f183 (C47 n) (hT := .m1 (K47 n))
abbrev C48 (n : Nat) : List Ent := q183_E n :: C47 n
theorem K48 (n : Nat) : AllOK Tryz.prog (C48 n) := .cons (toml_numeral_ok n) (K47 n)
end Go.Sh
