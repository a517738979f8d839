/-
  DERIVED: THE SHELF's CONTRACTS AT THIS DUMP, IN PLAIN WORDS (tools/lay-plain.mjs out of 'TryzShelf.lean', which tools/lay-shelf.mjs wrote): THE SAME DECLARATIONS UNDER THE SAME NAMES: 'import', 'namespace', 'open', 'def', 'theorem' AND NOTHING ELSE: no command of the shelf's: FOR A HAND-IN. Each laying: the table of numbers ('.._ren') and one theorem, a field a fact of the dump's own or the kernel's comparison; each contract: ONE APPLICATION.
-/
import Derived.Shelf.Strings.Builder1
import Derived.Shelf.Strings.Builder2
import Derived.Shelf.Strings.Trim
import Derived.Shelf.Small.Utf8
import Derived.Shelf.Small.Strs
import Derived.Shelf.Strings.BuilderF
import Derived.Shelf.Strings.BuilderK
import Derived.Shelf.Strconv.Itoa0
import Derived.Shelf.Strconv.Itoa1
import Derived.Shelf.LaysM
import Derived.Shelf.Strconv.Itoa2
import Derived.Shelf.Strconv.Itoa3
import Derived.Shelf.Strings.Search1
import Derived.Shelf.Strings.Search2
import Derived.Shelf.Strings.Search3
import Derived.Shelf.Strings.Shaped
import Derived.Shelf.Strings.Prefix
import Derived.Shelf.Strings.Runes
import Derived.Shelf.Strings.IndexAny
import Derived.Shelf.Strings.AsciiSet
import Derived.Shelf.Strings.IndexAnyAll
import Derived.Shelf.Bits.Mul64
import Derived.Shelf.Strings.Repeat
import Derived.Shelf.Unicode.DecodeSlow
import Derived.Shelf.Unicode.DecodeAny
import Derived.Test.YtnkemhepkppkoaaGreatDoorProg
namespace Go.Proofs
open Go.Shelf
def Tryz.lays162_ren : Go.Shelf.Ren := ⟨fun | 162 => 193 | 232 => 32 | 227 => 33 | 234 => 35 | 236 => 37 | 228 => 64 | 271 => 66 | 151 => 65 | 120 => 104 | 197 => 59 | 152 => 103 | 260 => 98 | 137 => 60 | 119 => 138 | 224 => 139 | 225 => 140 | 217 => 99 | 266 => 136 | n => n, fun | 9 => 9 | 4 => 4 | 3 => 3 | 5 => 5 | 117 => 87 | 116 => 86 | 0 => 0 | 124 => 90 | 21 => 21 | 105 => 119 | 46 => 61 | 119 => 195 | 139 => 198 | 138 => 197 | n => n, fun | 3 => 1 | 4 => 2 | n => n⟩
theorem Tryz.lays162 : Go.Proofs.Lays.n162 Tryz.prog Tryz.lays162_ren := {
  mixed := by kernel_rfl
  f119 := Tryz.func138.trans (congrArg some (by kernel_rfl))
  f120 := Tryz.func104.trans (congrArg some (by kernel_rfl))
  f137 := Tryz.func60.trans (congrArg some (by kernel_rfl))
  f151 := Tryz.func65.trans (congrArg some (by kernel_rfl))
  f152 := Tryz.func103.trans (congrArg some (by kernel_rfl))
  f162 := Tryz.func193.trans (congrArg some (by kernel_rfl))
  f197 := Tryz.func59.trans (congrArg some (by kernel_rfl))
  f217 := Tryz.func99.trans (congrArg some (by kernel_rfl))
  f224 := Tryz.func139.trans (congrArg some (by kernel_rfl))
  f225 := Tryz.func140.trans (congrArg some (by kernel_rfl))
  f227 := Tryz.func33.trans (congrArg some (by kernel_rfl))
  f228 := Tryz.func64.trans (congrArg some (by kernel_rfl))
  f232 := Tryz.func32.trans (congrArg some (by kernel_rfl))
  f234 := Tryz.func35.trans (congrArg some (by kernel_rfl))
  f236 := Tryz.func37.trans (congrArg some (by kernel_rfl))
  f260 := Tryz.func98.trans (congrArg some (by kernel_rfl))
  f266 := Tryz.func136.trans (congrArg some (by kernel_rfl))
  f271 := Tryz.func66.trans (congrArg some (by kernel_rfl))
  t0 := Tryz.underlying0
  a0 := Tryz.isAgg0
  z0 := Tryz.sizeOf0
  v0 := Tryz.zeroValue0
  t3 := Tryz.underlying3
  a3 := Tryz.isAgg3
  z3 := Tryz.sizeOf3
  v3 := Tryz.zeroValue3
  t4 := Tryz.underlying4
  a4 := Tryz.isAgg4
  z4 := Tryz.sizeOf4
  v4 := Tryz.zeroValue4
  t5 := Tryz.underlying5
  a5 := Tryz.isAgg5
  z5 := Tryz.sizeOf5
  v5 := Tryz.zeroValue5
  t9 := Tryz.underlying9
  a9 := Tryz.isAgg9
  z9 := Tryz.sizeOf9
  v9 := Tryz.zeroValue9
  t21 := Tryz.underlying21
  a21 := Tryz.isAgg21
  z21 := Tryz.sizeOf21
  v21 := Tryz.zeroValue21
  t46 := Tryz.underlying61
  a46 := Tryz.isAgg61
  z46 := Tryz.sizeOf61
  v46 := Tryz.zeroValue61
  t105 := Tryz.underlying119
  a105 := Tryz.isAgg119
  z105 := Tryz.sizeOf119
  v105 := Tryz.zeroValue119
  t116 := Tryz.underlying86
  a116 := Tryz.isAgg86
  z116 := Tryz.sizeOf86
  t117 := Tryz.underlying87
  a117 := Tryz.isAgg87
  z117 := Tryz.sizeOf87
  v117 := Tryz.zeroValue87
  t119 := Tryz.underlying195
  a119 := Tryz.isAgg195
  z119 := Tryz.sizeOf195
  t124 := Tryz.underlying90
  a124 := Tryz.isAgg90
  z124 := Tryz.sizeOf90
  v124 := Tryz.zeroValue90
  t138 := Tryz.underlying197
  a138 := Tryz.isAgg197
  z138 := Tryz.sizeOf197
  v138 := Tryz.zeroValue197
  t139 := Tryz.underlying198
  a139 := Tryz.isAgg198
  z139 := Tryz.sizeOf198
  v139 := Tryz.zeroValue198
  g3 := by kernel_rfl
  g4 := by kernel_rfl }
open Go.RowKit in
/-- strings.TrimRight: "TrimRight returns a slice of the string s, with all trailing Unicode code points contained in cutset removed.": AT A cutset OF ONE ASCII BYTE. The world is as it was. (LAID: no walk: one application.) -/
theorem Tryz.strings_TrimRight_one (s : ByteArray) (c : UInt8) (hc : c.toNat < 128) (w : World) (hs : s.size ≤ 9223372036854775807) :
    Calls Tryz.prog 193 #[.string s, .string ⟨#[c]⟩] w fun e w' => e = .returned (.string ⟨(Lib.trimRightB s.data.toList c).toArray⟩) ∧ w' = w := Any.strings_TrimRight_one Tryz.lays162 s c hc w hs
def Tryz.lays137_ren : Go.Shelf.Ren := ⟨fun | 137 => 60 | 217 => 99 | 266 => 136 | n => n, fun | 9 => 9 | 5 => 5 | 3 => 3 | n => n, fun | n => n⟩
theorem Tryz.lays137 : Go.Proofs.Lays.n137 Tryz.prog Tryz.lays137_ren := {
  mixed := by kernel_rfl
  f137 := Tryz.func60.trans (congrArg some (by kernel_rfl))
  f217 := Tryz.func99.trans (congrArg some (by kernel_rfl))
  f266 := Tryz.func136.trans (congrArg some (by kernel_rfl))
  t3 := Tryz.underlying3
  a3 := Tryz.isAgg3
  z3 := Tryz.sizeOf3
  v3 := Tryz.zeroValue3
  t5 := Tryz.underlying5
  a5 := Tryz.isAgg5
  z5 := Tryz.sizeOf5
  v5 := Tryz.zeroValue5
  t9 := Tryz.underlying9
  a9 := Tryz.isAgg9
  z9 := Tryz.sizeOf9
  v9 := Tryz.zeroValue9 }
open Go.RowKit in
/-- strings.IndexByte: "IndexByte returns the index of the first instance of c in s, or -1 if c is not present in s.": IT RETURNS 'Lib.indexByte s c'; the world is as it was. (LAID: no walk: one application.) -/
theorem Tryz.strings_IndexByte (s : ByteArray) (c : Int) (w : World) :
    Calls Tryz.prog 60 #[.string s, .int .u8 c] w fun e w' => e = .returned (.int .i64 (Lib.indexByte s.data.toList c.toNat.toUInt8)) ∧ w' = w := Any.strings_IndexByte Tryz.lays137 s c w
def Tryz.laysM171_ren : Go.Shelf.Ren := ⟨fun | 171 => 202 | 243 => 218 | 246 => 221 | 283 => 224 | 284 => 225 | 285 => 226 | 286 => 227 | 129 => 229 | 317 => 228 | 318 => 230 | 319 => 231 | 320 => 232 | 337 => 233 | 338 => 234 | n => n, fun | 3 => 3 | 9 => 9 | 2 => 2 | 4 => 4 | 171 => 253 | 0 => 0 | 53 => 115 | 37 => 66 | 5 => 5 | 173 => 256 | 212 => 259 | 51 => 112 | 20 => 20 | 213 => 260 | 46 => 61 | 232 => 263 | 233 => 264 | n => n, fun | 17 => 3 | 18 => 4 | 19 => 5 | n => n⟩
theorem Tryz.laysM171 : Go.Proofs.LaysM.n171 Tryz.prog Tryz.laysM171_ren := {
  mixed := by kernel_rfl
  f129 := Tryz.func229.trans (congrArg some (by kernel_rfl))
  f171 := Tryz.func202.trans (congrArg some (by kernel_rfl))
  f243 := Tryz.func218.trans (congrArg some (by kernel_rfl))
  f246 := Tryz.func221.trans (congrArg some (by kernel_rfl))
  f283 := Tryz.func224.trans (congrArg some (by kernel_rfl))
  f284 := Tryz.func225.trans (congrArg some (by kernel_rfl))
  f285 := Tryz.func226.trans (congrArg some (by kernel_rfl))
  f286 := Tryz.func227.trans (congrArg some (by kernel_rfl))
  f317 := Tryz.func228.trans (congrArg some (by kernel_rfl))
  f318 := Tryz.func230.trans (congrArg some (by kernel_rfl))
  f319 := Tryz.func231.trans (congrArg some (by kernel_rfl))
  f320 := Tryz.func232.trans (congrArg some (by kernel_rfl))
  f337 := Tryz.func233.trans (congrArg some (by kernel_rfl))
  f338 := Tryz.func234.trans (congrArg some (by kernel_rfl))
  t0 := Tryz.underlying0
  a0 := Tryz.isAgg0
  z0 := Tryz.sizeOf0
  v0 := Tryz.zeroValue0
  t2 := Tryz.underlying2
  a2 := Tryz.isAgg2
  z2 := Tryz.sizeOf2
  v2 := Tryz.zeroValue2
  t3 := Tryz.underlying3
  a3 := Tryz.isAgg3
  z3 := Tryz.sizeOf3
  v3 := Tryz.zeroValue3
  t4 := Tryz.underlying4
  a4 := Tryz.isAgg4
  z4 := Tryz.sizeOf4
  v4 := Tryz.zeroValue4
  t5 := Tryz.underlying5
  a5 := Tryz.isAgg5
  z5 := Tryz.sizeOf5
  v5 := Tryz.zeroValue5
  t9 := Tryz.underlying9
  a9 := Tryz.isAgg9
  z9 := Tryz.sizeOf9
  v9 := Tryz.zeroValue9
  t20 := Tryz.underlying20
  a20 := Tryz.isAgg20
  z20 := Tryz.sizeOf20
  v20 := Tryz.zeroValue20
  t37 := Tryz.underlying66
  a37 := Tryz.isAgg66
  z37 := Tryz.sizeOf66
  v37 := Tryz.zeroValue66
  t46 := Tryz.underlying61
  a46 := Tryz.isAgg61
  z46 := Tryz.sizeOf61
  v46 := Tryz.zeroValue61
  t51 := Tryz.underlying112
  a51 := Tryz.isAgg112
  z51 := Tryz.sizeOf112
  v51 := Tryz.zeroValue112
  t53 := Tryz.underlying115
  a53 := Tryz.isAgg115
  z53 := Tryz.sizeOf115
  v53 := Tryz.zeroValue115
  t171 := Tryz.underlying253
  a171 := Tryz.isAgg253
  z171 := Tryz.sizeOf253
  v171 := Tryz.zeroValue253
  t173 := Tryz.underlying256
  a173 := Tryz.isAgg256
  z173 := Tryz.sizeOf256
  v173 := Tryz.zeroValue256
  t212 := Tryz.underlying259
  a212 := Tryz.isAgg259
  z212 := Tryz.sizeOf259
  v212 := Tryz.zeroValue259
  t213 := Tryz.underlying260
  a213 := Tryz.isAgg260
  z213 := Tryz.sizeOf260
  t232 := Tryz.underlying263
  a232 := Tryz.isAgg263
  z232 := Tryz.sizeOf263
  v232 := Tryz.zeroValue263
  t233 := Tryz.underlying264
  a233 := Tryz.isAgg264
  z233 := Tryz.sizeOf264
  v233 := Tryz.zeroValue264
  g17 := by kernel_rfl
  g18 := by kernel_rfl
  g19 := by kernel_rfl
  i0 := by kernel_rfl
  i2 := by kernel_rfl
  i3 := by kernel_rfl
  i4 := by kernel_rfl
  i5 := by kernel_rfl
  i9 := by kernel_rfl
  i20 := by kernel_rfl
  i37 := by kernel_rfl
  i46 := by kernel_rfl
  i51 := by kernel_rfl
  i53 := by kernel_rfl
  i171 := by kernel_rfl
  i173 := by kernel_rfl
  i212 := by kernel_rfl
  i232 := by kernel_rfl
  i233 := by kernel_rfl
  m17 := by kernel_rfl
  m18 := by kernel_rfl
  m19 := by kernel_rfl }
open Go.RowKit Go.Sort Go.Lib in
/-- strconv.Itoa: "Itoa is equivalent to FormatInt(int64(i), 10).": i's DECIMAL NUMERAL ('Lib.itoa': a '-' where i is negative, then the digits), FOR EVERY int. The world behind the call: the world before it, new blocks behind the heap (the library's 'var a [24]byte'), draws. (LAID: no walk: one application.) -/
theorem Tryz.strconv_Itoa (n : Int) (h0 : -9223372036854775808 ≤ n) (h1 : n ≤ 9223372036854775807) (w : World) (htab : Lib.TabIs Tryz.prog w "internal/strconv.uint64pow10" .u64 Lib.pow10Tab) :
    Calls Tryz.prog 202 #[.int .i64 n] w fun e w' => e = .returned (.string ⟨(Lib.itoa n).toArray⟩) ∧ ∃ k os, w' = grow (w.drewN k) os := Any.strconv_Itoa Tryz.laysM171 n h0 h1 w htab
def Tryz.lays144_ren : Go.Shelf.Ren := ⟨fun | 144 => 162 | 143 => 174 | 219 => 187 | 217 => 99 | 225 => 140 | 224 => 139 | 267 => 199 | 266 => 136 | 314 => 216 | n => n, fun | 9 => 9 | 4 => 4 | 3 => 3 | 5 => 5 | 46 => 61 | 146 => 113 | 51 => 112 | n => n, fun | 1 => 0 | n => n⟩
theorem Tryz.lays144 : Go.Proofs.Lays.n144 Tryz.prog Tryz.lays144_ren := {
  mixed := by kernel_rfl
  f143 := Tryz.func174.trans (congrArg some (by kernel_rfl))
  f144 := Tryz.func162.trans (congrArg some (by kernel_rfl))
  f217 := Tryz.func99.trans (congrArg some (by kernel_rfl))
  f219 := Tryz.func187.trans (congrArg some (by kernel_rfl))
  f224 := Tryz.func139.trans (congrArg some (by kernel_rfl))
  f225 := Tryz.func140.trans (congrArg some (by kernel_rfl))
  f266 := Tryz.func136.trans (congrArg some (by kernel_rfl))
  f267 := Tryz.func199.trans (congrArg some (by kernel_rfl))
  f314 := Tryz.func216.trans (congrArg some (by kernel_rfl))
  t3 := Tryz.underlying3
  a3 := Tryz.isAgg3
  z3 := Tryz.sizeOf3
  v3 := Tryz.zeroValue3
  t4 := Tryz.underlying4
  a4 := Tryz.isAgg4
  z4 := Tryz.sizeOf4
  v4 := Tryz.zeroValue4
  t5 := Tryz.underlying5
  a5 := Tryz.isAgg5
  z5 := Tryz.sizeOf5
  v5 := Tryz.zeroValue5
  t9 := Tryz.underlying9
  a9 := Tryz.isAgg9
  z9 := Tryz.sizeOf9
  v9 := Tryz.zeroValue9
  t46 := Tryz.underlying61
  a46 := Tryz.isAgg61
  z46 := Tryz.sizeOf61
  v46 := Tryz.zeroValue61
  t51 := Tryz.underlying112
  a51 := Tryz.isAgg112
  z51 := Tryz.sizeOf112
  v51 := Tryz.zeroValue112
  t146 := Tryz.underlying113
  a146 := Tryz.isAgg113
  z146 := Tryz.sizeOf113
  v146 := Tryz.zeroValue113
  g1 := by kernel_rfl }
open Go.RowKit Go.Lib in
/-- strings.Contains: "Contains reports whether substr is within s.": AT A substr OF ONE BYTE c: IT RETURNS 'decide (0 ≤ Lib.indexByte s c)'; the world is as it was. (LAID: no walk: one application.) -/
theorem Tryz.strings_Contains_one (s : ByteArray) (c : UInt8) (w : World) :
    Calls Tryz.prog 162 #[.string s, .string ⟨#[c]⟩] w fun e w' => e = .returned (.bool (decide (0 ≤ Lib.indexByte s.data.toList c))) ∧ w' = w := Any.strings_Contains_one Tryz.lays144 s c w
def Tryz.lays99_ren : Go.Shelf.Ren := ⟨fun | 99 => 19 | 206 => 56 | n => n, fun | 9 => 9 | 4 => 4 | 3 => 3 | n => n, fun | n => n⟩
theorem Tryz.lays99 : Go.Proofs.Lays.n99 Tryz.prog Tryz.lays99_ren := {
  mixed := by kernel_rfl
  f99 := Tryz.func19.trans (congrArg some (by kernel_rfl))
  f206 := Tryz.func56.trans (congrArg some (by kernel_rfl))
  t3 := Tryz.underlying3
  a3 := Tryz.isAgg3
  z3 := Tryz.sizeOf3
  v3 := Tryz.zeroValue3
  t4 := Tryz.underlying4
  a4 := Tryz.isAgg4
  z4 := Tryz.sizeOf4
  v4 := Tryz.zeroValue4
  t9 := Tryz.underlying9
  a9 := Tryz.isAgg9
  z9 := Tryz.sizeOf9
  v9 := Tryz.zeroValue9 }
open Go.RowKit Go.Lib in
/-- strings.HasPrefix: "HasPrefix reports whether the string s begins with prefix.": IT RETURNS 'Lib.hasPrefix s prefix'; the world is as it was. (LAID: no walk: one application.) -/
theorem Tryz.strings_HasPrefix (s p : ByteArray) (w : World) :
    Calls Tryz.prog 19 #[.string s, .string p] w fun e w' => e = .returned (.bool (Lib.hasPrefix s.data.toList p.data.toList)) ∧ w' = w := Any.strings_HasPrefix Tryz.lays99 s p w
def Tryz.lays150_ren : Go.Shelf.Ren := ⟨fun | 150 => 158 | 153 => 173 | 152 => 103 | 226 => 186 | 227 => 33 | 228 => 64 | 137 => 60 | 119 => 138 | 224 => 139 | 225 => 140 | 217 => 99 | 266 => 136 | n => n, fun | 9 => 9 | 4 => 4 | 3 => 3 | 5 => 5 | 21 => 21 | 117 => 87 | 116 => 86 | 0 => 0 | 46 => 61 | 124 => 90 | n => n, fun | n => n⟩
theorem Tryz.lays150 : Go.Proofs.Lays.n150 Tryz.prog Tryz.lays150_ren := {
  mixed := by kernel_rfl
  f119 := Tryz.func138.trans (congrArg some (by kernel_rfl))
  f137 := Tryz.func60.trans (congrArg some (by kernel_rfl))
  f150 := Tryz.func158.trans (congrArg some (by kernel_rfl))
  f152 := Tryz.func103.trans (congrArg some (by kernel_rfl))
  f153 := Tryz.func173.trans (congrArg some (by kernel_rfl))
  f217 := Tryz.func99.trans (congrArg some (by kernel_rfl))
  f224 := Tryz.func139.trans (congrArg some (by kernel_rfl))
  f225 := Tryz.func140.trans (congrArg some (by kernel_rfl))
  f226 := Tryz.func186.trans (congrArg some (by kernel_rfl))
  f227 := Tryz.func33.trans (congrArg some (by kernel_rfl))
  f228 := Tryz.func64.trans (congrArg some (by kernel_rfl))
  f266 := Tryz.func136.trans (congrArg some (by kernel_rfl))
  t0 := Tryz.underlying0
  a0 := Tryz.isAgg0
  z0 := Tryz.sizeOf0
  v0 := Tryz.zeroValue0
  t3 := Tryz.underlying3
  a3 := Tryz.isAgg3
  z3 := Tryz.sizeOf3
  v3 := Tryz.zeroValue3
  t4 := Tryz.underlying4
  a4 := Tryz.isAgg4
  z4 := Tryz.sizeOf4
  v4 := Tryz.zeroValue4
  t5 := Tryz.underlying5
  a5 := Tryz.isAgg5
  z5 := Tryz.sizeOf5
  v5 := Tryz.zeroValue5
  t9 := Tryz.underlying9
  a9 := Tryz.isAgg9
  z9 := Tryz.sizeOf9
  v9 := Tryz.zeroValue9
  t21 := Tryz.underlying21
  a21 := Tryz.isAgg21
  z21 := Tryz.sizeOf21
  v21 := Tryz.zeroValue21
  t46 := Tryz.underlying61
  a46 := Tryz.isAgg61
  z46 := Tryz.sizeOf61
  v46 := Tryz.zeroValue61
  t116 := Tryz.underlying86
  a116 := Tryz.isAgg86
  z116 := Tryz.sizeOf86
  t117 := Tryz.underlying87
  a117 := Tryz.isAgg87
  z117 := Tryz.sizeOf87
  v117 := Tryz.zeroValue87
  t124 := Tryz.underlying90
  a124 := Tryz.isAgg90
  z124 := Tryz.sizeOf90
  v124 := Tryz.zeroValue90 }
open Go.RowKit Go.Lib in
theorem Tryz.strings_ContainsAny_laid (s chars : ByteArray) (w : World) (hs : s.size < 4294967281) (hcs : chars.size < 4294967281) (has : ∀ (j : Nat) b, s.data.toList[j]? = some b → b.toNat < 128) (hac : ∀ (j : Nat) b, chars.data.toList[j]? = some b → b.toNat < 128) :
    Calls Tryz.prog 158 #[.string s, .string chars] w fun e w' => e = .returned (.bool (Lib.containsAny s.data.toList chars.data.toList)) ∧ Below w.heap.size w w' := Any.strings_ContainsAny_laid Tryz.lays150 (by kernel_rfl) s chars w hs hcs has hac
def Tryz.lays105_ren : Go.Shelf.Ren := ⟨fun | 105 => 8 | 212 => 18 | 99 => 19 | 165 => 20 | 166 => 21 | 170 => 22 | 169 => 23 | 263 => 54 | 264 => 55 | 206 => 56 | 240 => 57 | 241 => 58 | 276 => 96 | 277 => 97 | n => n, fun | 9 => 9 | 3 => 3 | 4 => 4 | 20 => 20 | 0 => 0 | 46 => 61 | 109 => 62 | 5 => 5 | 72 => 68 | 76 => 72 | 51 => 112 | 146 => 113 | 53 => 115 | 148 => 116 | 70 => 65 | 37 => 66 | 75 => 71 | 127 => 118 | 164 => 160 | 80 => 75 | n => n, fun | n => n⟩
theorem Tryz.lays105 : Go.Proofs.Lays.n105 Tryz.prog Tryz.lays105_ren := {
  mixed := by kernel_rfl
  f99 := Tryz.func19.trans (congrArg some (by kernel_rfl))
  f105 := Tryz.func8.trans (congrArg some (by kernel_rfl))
  f165 := Tryz.func20.trans (congrArg some (by kernel_rfl))
  f166 := Tryz.func21.trans (congrArg some (by kernel_rfl))
  f169 := Tryz.func23.trans (congrArg some (by kernel_rfl))
  f170 := Tryz.func22.trans (congrArg some (by kernel_rfl))
  f206 := Tryz.func56.trans (congrArg some (by kernel_rfl))
  f212 := Tryz.func18.trans (congrArg some (by kernel_rfl))
  f240 := Tryz.func57.trans (congrArg some (by kernel_rfl))
  f241 := Tryz.func58.trans (congrArg some (by kernel_rfl))
  f263 := Tryz.func54.trans (congrArg some (by kernel_rfl))
  f264 := Tryz.func55.trans (congrArg some (by kernel_rfl))
  f276 := Tryz.func96.trans (congrArg some (by kernel_rfl))
  f277 := Tryz.func97.trans (congrArg some (by kernel_rfl))
  t0 := Tryz.underlying0
  a0 := Tryz.isAgg0
  z0 := Tryz.sizeOf0
  v0 := Tryz.zeroValue0
  t3 := Tryz.underlying3
  a3 := Tryz.isAgg3
  z3 := Tryz.sizeOf3
  v3 := Tryz.zeroValue3
  t4 := Tryz.underlying4
  a4 := Tryz.isAgg4
  z4 := Tryz.sizeOf4
  v4 := Tryz.zeroValue4
  t5 := Tryz.underlying5
  a5 := Tryz.isAgg5
  z5 := Tryz.sizeOf5
  v5 := Tryz.zeroValue5
  t9 := Tryz.underlying9
  a9 := Tryz.isAgg9
  z9 := Tryz.sizeOf9
  v9 := Tryz.zeroValue9
  t20 := Tryz.underlying20
  a20 := Tryz.isAgg20
  z20 := Tryz.sizeOf20
  v20 := Tryz.zeroValue20
  t37 := Tryz.underlying66
  a37 := Tryz.isAgg66
  z37 := Tryz.sizeOf66
  v37 := Tryz.zeroValue66
  t46 := Tryz.underlying61
  a46 := Tryz.isAgg61
  z46 := Tryz.sizeOf61
  v46 := Tryz.zeroValue61
  t51 := Tryz.underlying112
  a51 := Tryz.isAgg112
  z51 := Tryz.sizeOf112
  v51 := Tryz.zeroValue112
  t53 := Tryz.underlying115
  a53 := Tryz.isAgg115
  z53 := Tryz.sizeOf115
  v53 := Tryz.zeroValue115
  t70 := Tryz.underlying65
  a70 := Tryz.isAgg65
  z70 := Tryz.sizeOf65
  v70 := Tryz.zeroValue65
  t72 := Tryz.underlying68
  a72 := Tryz.isAgg68
  z72 := Tryz.sizeOf68
  v72 := Tryz.zeroValue68
  t75 := Tryz.underlying71
  a75 := Tryz.isAgg71
  z75 := Tryz.sizeOf71
  v75 := Tryz.zeroValue71
  t76 := Tryz.underlying72
  a76 := Tryz.isAgg72
  z76 := Tryz.sizeOf72
  v76 := Tryz.zeroValue72
  t109 := Tryz.underlying62
  a109 := Tryz.isAgg62
  z109 := Tryz.sizeOf62
  v109 := Tryz.zeroValue62
  t127 := Tryz.underlying118
  a127 := Tryz.isAgg118
  z127 := Tryz.sizeOf118
  v127 := Tryz.zeroValue118
  t146 := Tryz.underlying113
  a146 := Tryz.isAgg113
  z146 := Tryz.sizeOf113
  v146 := Tryz.zeroValue113
  t148 := Tryz.underlying116
  a148 := Tryz.isAgg116
  z148 := Tryz.sizeOf116
  v148 := Tryz.zeroValue116
  t164 := Tryz.underlying160
  a164 := Tryz.isAgg160
  z164 := Tryz.sizeOf160
  v164 := Tryz.zeroValue160 }
theorem Tryz.Builder_Extra_105 : Builder.Extra Tryz.prog Tryz.lays105_ren := {
  sizeBuilder := by kernel_rfl
  liesBuilder := by kernel_rfl
  t5 := Tryz.underlying5
  a5 := Tryz.isAgg5
  z5 := Tryz.sizeOf5
  v5 := Tryz.zeroValue5
  infoByte := by kernel_rfl
  cellsByte := by kernel_rfl
  sizeByte := by kernel_rfl
  neB5 := by decide }
open Go.RowKit Go.Lib in
/-- **strings.Repeat: count ≥ 0, the result within one allocation: count copies of s.** (LAID: no walk: one application.) -/
theorem Tryz.strings_Repeat (s : ByteArray) (c : Nat) (w : World) (hc : c ≤ 9223372036854775807) (hlen : s.size * c ≤ 140737488355328) :
    Calls Tryz.prog 8 #[.string s, .int .i64 c] w fun e w' => e = .returned (.string ⟨(Lib.repeatL s.data.toList c).toArray⟩) ∧ Below w.heap.size w w' := Any.strings_Repeat Tryz.lays105 Tryz.Builder_Extra_105 s c w hc hlen
def Tryz.lays197_ren : Go.Shelf.Ren := ⟨fun | 197 => 59 | 260 => 98 | n => n, fun | 9 => 9 | 21 => 21 | 3 => 3 | 4 => 4 | 5 => 5 | 105 => 119 | 119 => 195 | 0 => 0 | 46 => 61 | 139 => 198 | 138 => 197 | n => n, fun | 3 => 1 | 4 => 2 | n => n⟩
theorem Tryz.lays197 : Go.Proofs.Lays.n197 Tryz.prog Tryz.lays197_ren := {
  mixed := by kernel_rfl
  f197 := Tryz.func59.trans (congrArg some (by kernel_rfl))
  f260 := Tryz.func98.trans (congrArg some (by kernel_rfl))
  t0 := Tryz.underlying0
  a0 := Tryz.isAgg0
  z0 := Tryz.sizeOf0
  v0 := Tryz.zeroValue0
  t3 := Tryz.underlying3
  a3 := Tryz.isAgg3
  z3 := Tryz.sizeOf3
  v3 := Tryz.zeroValue3
  t4 := Tryz.underlying4
  a4 := Tryz.isAgg4
  z4 := Tryz.sizeOf4
  v4 := Tryz.zeroValue4
  t5 := Tryz.underlying5
  a5 := Tryz.isAgg5
  z5 := Tryz.sizeOf5
  v5 := Tryz.zeroValue5
  t9 := Tryz.underlying9
  a9 := Tryz.isAgg9
  z9 := Tryz.sizeOf9
  v9 := Tryz.zeroValue9
  t21 := Tryz.underlying21
  a21 := Tryz.isAgg21
  z21 := Tryz.sizeOf21
  v21 := Tryz.zeroValue21
  t46 := Tryz.underlying61
  a46 := Tryz.isAgg61
  z46 := Tryz.sizeOf61
  v46 := Tryz.zeroValue61
  t105 := Tryz.underlying119
  a105 := Tryz.isAgg119
  z105 := Tryz.sizeOf119
  v105 := Tryz.zeroValue119
  t119 := Tryz.underlying195
  a119 := Tryz.isAgg195
  z119 := Tryz.sizeOf195
  t138 := Tryz.underlying197
  a138 := Tryz.isAgg197
  z138 := Tryz.sizeOf197
  v138 := Tryz.zeroValue197
  t139 := Tryz.underlying198
  a139 := Tryz.isAgg198
  z139 := Tryz.sizeOf198
  v139 := Tryz.zeroValue198
  g3 := by kernel_rfl
  g4 := by kernel_rfl }
open Go.RowKit Go.Lib in
/-- **unicode/utf8.DecodeRuneInString AT EVERY STRING.** (LAID: no walk: one application.) -/
theorem Tryz.utf8_DecodeRuneInString (s : ByteArray) (w : World) (hT : Lib.Utf8Tabs 1 2 w) :
    Calls Tryz.prog 59 #[.string s] w fun e w' => e = .returned (.tuple #[.int .i32 (Lib.decodeGo s).1, .int .i64 (Lib.decodeGo s).2]) ∧ Below w.heap.size w w' := Any.utf8_DecodeRuneInString Tryz.lays197 s w hT
end Go.Proofs

