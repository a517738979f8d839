/-
  DERIVED: THE SHELF's CONTRACTS AT THIS DUMP, IN PLAIN WORDS (tools/lay-plain.mjs out of 'TrydShelf.lean', which tools/lay-shelf.mjs wrote): THE SAME DECLARATIONS UNDER THE SAME NAMES: 'import', 'namespace', 'open', 'def', 'theorem' AND NOTHING ELSE: no command of the shelf's: FOR A HAND-IN. Each laying: the table of numbers ('.._ren') and one theorem, a field a fact of the dump's own or the kernel's comparison; each contract: ONE APPLICATION.
-/
import Derived.Shelf.Small.Strs
import Derived.Shelf.LaysM
import Derived.Shelf.LaysC
import Derived.Shelf.Strconv.AtoiAll
import Derived.Shelf.Unicode.DecodeSlow
import Derived.Shelf.Unicode.DecodeAny
import Derived.Test.YtcgicpibdffpfaaDoorProg
namespace Go.Proofs
open Go.Shelf
def Tryd.lays137_ren : Go.Shelf.Ren := ⟨fun | 137 => 27 | 217 => 35 | 266 => 40 | n => n, fun | 9 => 9 | 5 => 5 | 3 => 3 | n => n, fun | n => n⟩
theorem Tryd.lays137 : Go.Proofs.Lays.n137 Tryd.prog Tryd.lays137_ren := {
  mixed := by kernel_rfl
  f137 := Tryd.func27.trans (congrArg some (by kernel_rfl))
  f217 := Tryd.func35.trans (congrArg some (by kernel_rfl))
  f266 := Tryd.func40.trans (congrArg some (by kernel_rfl))
  t3 := Tryd.underlying3
  a3 := Tryd.isAgg3
  z3 := Tryd.sizeOf3
  v3 := Tryd.zeroValue3
  t5 := Tryd.underlying5
  a5 := Tryd.isAgg5
  z5 := Tryd.sizeOf5
  v5 := Tryd.zeroValue5
  t9 := Tryd.underlying9
  a9 := Tryd.isAgg9
  z9 := Tryd.sizeOf9
  v9 := Tryd.zeroValue9 }
open Go.RowKit in
/-- strings.IndexByte: "IndexByte returns the index of the first instance of c in s, or -1 if c is not present in s.": IT RETURNS 'Lib.indexByte s c'; the world is as it was. (LAID: no walk: one application.) -/
theorem Tryd.strings_IndexByte (s : ByteArray) (c : Int) (w : World) :
    Calls Tryd.prog 27 #[.string s, .int .u8 c] w fun e w' => e = .returned (.int .i64 (Lib.indexByte s.data.toList c.toNat.toUInt8)) ∧ w' = w := Any.strings_IndexByte Tryd.lays137 s c w
def Tryd.laysC172_ren : Go.Shelf.Ren := ⟨fun | 172 => 37 | 244 => 42 | 245 => 43 | 247 => 46 | 279 => 47 | 280 => 48 | 281 => 49 | 282 => 50 | 287 => 51 | 316 => 52 | 171 => 54 | 205 => 53 | 321 => 55 | 322 => 56 | 243 => 57 | 246 => 58 | 283 => 59 | 284 => 60 | 285 => 61 | 286 => 62 | 129 => 64 | 317 => 63 | 318 => 65 | 319 => 66 | 320 => 67 | 337 => 68 | 338 => 69 | n => n, fun | 9 => 9 | 3 => 3 | 75 => 81 | 76 => 82 | 4 => 4 | 5 => 5 | 167 => 91 | 37 => 39 | 0 => 0 | 85 => 92 | 2 => 2 | 168 => 94 | 53 => 102 | 175 => 103 | 46 => 98 | 210 => 107 | 127 => 111 | 145 => 114 | 143 => 112 | 21 => 21 | 171 => 116 | 173 => 119 | 212 => 123 | 51 => 124 | 20 => 20 | 213 => 125 | 232 => 129 | 233 => 130 | 80 => 64 | n => n, fun | 15 => 3 | 16 => 4 | 17 => 5 | 18 => 6 | 19 => 7 | n => n⟩
theorem Tryd.laysC172 : Go.Proofs.LaysC.n172 Tryd.prog Tryd.laysC172_ren := {
  mixed := by kernel_rfl
  f129 := Tryd.func64.trans (congrArg some (by kernel_rfl))
  f171 := Tryd.func54.trans (congrArg some (by kernel_rfl))
  f172 := Tryd.func37.trans (congrArg some (by kernel_rfl))
  f205 := Tryd.func53.trans (congrArg some (by kernel_rfl))
  f243 := Tryd.func57.trans (congrArg some (by kernel_rfl))
  f244 := Tryd.func42.trans (congrArg some (by kernel_rfl))
  f245 := Tryd.func43.trans (congrArg some (by kernel_rfl))
  f246 := Tryd.func58.trans (congrArg some (by kernel_rfl))
  f247 := Tryd.func46.trans (congrArg some (by kernel_rfl))
  f279 := Tryd.func47.trans (congrArg some (by kernel_rfl))
  f280 := Tryd.func48.trans (congrArg some (by kernel_rfl))
  f281 := Tryd.func49.trans (congrArg some (by kernel_rfl))
  f282 := Tryd.func50.trans (congrArg some (by kernel_rfl))
  f283 := Tryd.func59.trans (congrArg some (by kernel_rfl))
  f284 := Tryd.func60.trans (congrArg some (by kernel_rfl))
  f285 := Tryd.func61.trans (congrArg some (by kernel_rfl))
  f286 := Tryd.func62.trans (congrArg some (by kernel_rfl))
  f287 := Tryd.func51.trans (congrArg some (by kernel_rfl))
  f316 := Tryd.func52.trans (congrArg some (by kernel_rfl))
  f317 := Tryd.func63.trans (congrArg some (by kernel_rfl))
  f318 := Tryd.func65.trans (congrArg some (by kernel_rfl))
  f319 := Tryd.func66.trans (congrArg some (by kernel_rfl))
  f320 := Tryd.func67.trans (congrArg some (by kernel_rfl))
  f321 := Tryd.func55.trans (congrArg some (by kernel_rfl))
  f322 := Tryd.func56.trans (congrArg some (by kernel_rfl))
  f337 := Tryd.func68.trans (congrArg some (by kernel_rfl))
  f338 := Tryd.func69.trans (congrArg some (by kernel_rfl))
  t0 := Tryd.underlying0
  a0 := Tryd.isAgg0
  z0 := Tryd.sizeOf0
  v0 := Tryd.zeroValue0
  t2 := Tryd.underlying2
  a2 := Tryd.isAgg2
  z2 := Tryd.sizeOf2
  v2 := Tryd.zeroValue2
  t3 := Tryd.underlying3
  a3 := Tryd.isAgg3
  z3 := Tryd.sizeOf3
  v3 := Tryd.zeroValue3
  t4 := Tryd.underlying4
  a4 := Tryd.isAgg4
  z4 := Tryd.sizeOf4
  v4 := Tryd.zeroValue4
  t5 := Tryd.underlying5
  a5 := Tryd.isAgg5
  z5 := Tryd.sizeOf5
  v5 := Tryd.zeroValue5
  t9 := Tryd.underlying9
  a9 := Tryd.isAgg9
  z9 := Tryd.sizeOf9
  v9 := Tryd.zeroValue9
  t20 := Tryd.underlying20
  a20 := Tryd.isAgg20
  z20 := Tryd.sizeOf20
  v20 := Tryd.zeroValue20
  t21 := Tryd.underlying21
  a21 := Tryd.isAgg21
  z21 := Tryd.sizeOf21
  v21 := Tryd.zeroValue21
  t37 := Tryd.underlying39
  a37 := Tryd.isAgg39
  z37 := Tryd.sizeOf39
  v37 := Tryd.zeroValue39
  t46 := Tryd.underlying98
  a46 := Tryd.isAgg98
  z46 := Tryd.sizeOf98
  v46 := Tryd.zeroValue98
  t51 := Tryd.underlying124
  a51 := Tryd.isAgg124
  z51 := Tryd.sizeOf124
  v51 := Tryd.zeroValue124
  t53 := Tryd.underlying102
  a53 := Tryd.isAgg102
  z53 := Tryd.sizeOf102
  v53 := Tryd.zeroValue102
  t75 := Tryd.underlying81
  a75 := Tryd.isAgg81
  z75 := Tryd.sizeOf81
  v75 := Tryd.zeroValue81
  t76 := Tryd.underlying82
  a76 := Tryd.isAgg82
  z76 := Tryd.sizeOf82
  v76 := Tryd.zeroValue82
  t85 := Tryd.underlying92
  a85 := Tryd.isAgg92
  z85 := Tryd.sizeOf92
  v85 := Tryd.zeroValue92
  t127 := Tryd.underlying111
  a127 := Tryd.isAgg111
  z127 := Tryd.sizeOf111
  v127 := Tryd.zeroValue111
  t143 := Tryd.underlying112
  a143 := Tryd.isAgg112
  z143 := Tryd.sizeOf112
  v143 := Tryd.zeroValue112
  t145 := Tryd.underlying114
  a145 := Tryd.isAgg114
  z145 := Tryd.sizeOf114
  v145 := Tryd.zeroValue114
  t167 := Tryd.underlying91
  a167 := Tryd.isAgg91
  z167 := Tryd.sizeOf91
  v167 := Tryd.zeroValue91
  t168 := Tryd.underlying94
  a168 := Tryd.isAgg94
  z168 := Tryd.sizeOf94
  v168 := Tryd.zeroValue94
  t171 := Tryd.underlying116
  a171 := Tryd.isAgg116
  z171 := Tryd.sizeOf116
  v171 := Tryd.zeroValue116
  t173 := Tryd.underlying119
  a173 := Tryd.isAgg119
  z173 := Tryd.sizeOf119
  v173 := Tryd.zeroValue119
  t175 := Tryd.underlying103
  a175 := Tryd.isAgg103
  z175 := Tryd.sizeOf103
  v175 := Tryd.zeroValue103
  t210 := Tryd.underlying107
  a210 := Tryd.isAgg107
  z210 := Tryd.sizeOf107
  v210 := Tryd.zeroValue107
  t212 := Tryd.underlying123
  a212 := Tryd.isAgg123
  z212 := Tryd.sizeOf123
  v212 := Tryd.zeroValue123
  t213 := Tryd.underlying125
  a213 := Tryd.isAgg125
  z213 := Tryd.sizeOf125
  t232 := Tryd.underlying129
  a232 := Tryd.isAgg129
  z232 := Tryd.sizeOf129
  v232 := Tryd.zeroValue129
  t233 := Tryd.underlying130
  a233 := Tryd.isAgg130
  z233 := Tryd.sizeOf130
  v233 := Tryd.zeroValue130
  g15 := by kernel_rfl
  g16 := by kernel_rfl
  g17 := by kernel_rfl
  g18 := by kernel_rfl
  g19 := by kernel_rfl
  t80 := Tryd.underlying64
  a80 := Tryd.isAgg64
  z80 := Tryd.sizeOf64
  v80 := Tryd.zeroValue64
  i0 := by kernel_rfl
  i2 := by kernel_rfl
  i3 := by kernel_rfl
  i4 := by kernel_rfl
  i5 := by kernel_rfl
  i9 := by kernel_rfl
  i20 := by kernel_rfl
  i21 := by kernel_rfl
  i37 := by kernel_rfl
  i46 := by kernel_rfl
  i51 := by kernel_rfl
  i53 := by kernel_rfl
  i75 := by kernel_rfl
  i76 := by kernel_rfl
  i80 := by kernel_rfl
  i85 := by kernel_rfl
  i127 := by kernel_rfl
  i143 := by kernel_rfl
  i145 := by kernel_rfl
  i167 := by kernel_rfl
  i168 := by kernel_rfl
  i171 := by kernel_rfl
  i173 := by kernel_rfl
  i175 := by kernel_rfl
  i210 := by kernel_rfl
  i212 := by kernel_rfl
  i232 := by kernel_rfl
  i233 := by kernel_rfl
  m15 := by kernel_rfl
  m16 := by kernel_rfl
  m17 := by kernel_rfl
  m18 := by kernel_rfl
  m19 := by kernel_rfl
  c0 := by kernel_rfl
  c2 := by kernel_rfl
  c3 := by kernel_rfl
  c4 := by kernel_rfl
  c5 := by kernel_rfl
  c9 := by kernel_rfl
  c20 := by kernel_rfl
  c21 := by kernel_rfl
  c37 := by kernel_rfl
  c46 := by kernel_rfl
  c51 := by kernel_rfl
  c53 := by kernel_rfl
  c75 := by kernel_rfl
  c76 := by kernel_rfl
  c80 := by kernel_rfl
  c85 := by kernel_rfl
  c127 := by kernel_rfl
  c143 := by kernel_rfl
  c145 := by kernel_rfl
  c167 := by kernel_rfl
  c168 := by kernel_rfl
  c171 := by kernel_rfl
  c173 := by kernel_rfl
  c175 := by kernel_rfl
  c210 := by kernel_rfl
  c212 := by kernel_rfl
  c213 := by kernel_rfl
  c232 := by kernel_rfl
  c233 := by kernel_rfl }
open Go.RowKit in
/-- strconv.Atoi, AT EVERY STRING THAT SPELLS AN int ('Lib.atoiAll .. = .ok v'; of whatever length: leading zeros count): v, AND NO ERROR. The world: as it was, or with the one new row that '[]byte(..)' lays. (LAID: no walk: one application.) -/
theorem Tryd.strconv_Atoi_ok (s : ByteArray) (hmax : s.size ≤ 9223372036854775806) (v : Int) (h : Lib.atoiAll s.data.toList = .ok v) (w : World) :
    Calls Tryd.prog 37 #[.string s] w fun e w' => e = .returned (.tuple #[.int .i64 v, .nilIface]) ∧ (w' = w ∨ ∃ t, w' = Lib.bytesWorld w 5 t) := Any.strconv_Atoi_ok Tryd.laysC172 s hmax v h w
open Go.RowKit in
/-- strconv.Atoi, AT EVERY NUMERAL THAT NO int HOLDS ('.range'): THE GREATEST OR THE LEAST int, BY THE SIGN ('Lib.atoiSat'), AND AN ERROR THAT IS NOT nil: a *NumError in a new block N: {Func: "Atoi", Num: s's bytes, Err: what the variable ErrRange holds}. Of what was there nothing has turned. (LAID: no walk: one application.) -/
theorem Tryd.strconv_Atoi_range (s : ByteArray) (hlim : s.size ≤ 281474976710656) (h : Lib.atoiAll s.data.toList = .range) (ev : Value) (w : World) (hv : w.cell? ⟨4, 0, none⟩ = some ev) (hev : ev = .nilIface ∨ ∃ te pe, ev = .iface te pe) :
    Calls Tryd.prog 37 #[.string s] w fun e w' => ∃ N, e = .returned (.tuple #[.int .i64 (Lib.atoiSat s.data.toList), .iface 94 (.pointer (some ⟨N, 0, none⟩))]) ∧ w.heap.size ≤ N ∧ w'.heap[N]? = some (.cells #[.string ⟨#[65, 116, 111, 105]⟩, .string s, ev] 107 (0, 0)) ∧ Below w.heap.size w w' := Any.strconv_Atoi_range Tryd.laysC172 s hlim h ev w hv hev
def Tryd.lays197_ren : Go.Shelf.Ren := ⟨fun | 197 => 38 | 260 => 44 | n => n, fun | 9 => 9 | 21 => 21 | 3 => 3 | 4 => 4 | 5 => 5 | 105 => 84 | 119 => 97 | 0 => 0 | 46 => 98 | 139 => 101 | 138 => 100 | n => n, fun | 3 => 1 | 4 => 2 | n => n⟩
theorem Tryd.lays197 : Go.Proofs.Lays.n197 Tryd.prog Tryd.lays197_ren := {
  mixed := by kernel_rfl
  f197 := Tryd.func38.trans (congrArg some (by kernel_rfl))
  f260 := Tryd.func44.trans (congrArg some (by kernel_rfl))
  t0 := Tryd.underlying0
  a0 := Tryd.isAgg0
  z0 := Tryd.sizeOf0
  v0 := Tryd.zeroValue0
  t3 := Tryd.underlying3
  a3 := Tryd.isAgg3
  z3 := Tryd.sizeOf3
  v3 := Tryd.zeroValue3
  t4 := Tryd.underlying4
  a4 := Tryd.isAgg4
  z4 := Tryd.sizeOf4
  v4 := Tryd.zeroValue4
  t5 := Tryd.underlying5
  a5 := Tryd.isAgg5
  z5 := Tryd.sizeOf5
  v5 := Tryd.zeroValue5
  t9 := Tryd.underlying9
  a9 := Tryd.isAgg9
  z9 := Tryd.sizeOf9
  v9 := Tryd.zeroValue9
  t21 := Tryd.underlying21
  a21 := Tryd.isAgg21
  z21 := Tryd.sizeOf21
  v21 := Tryd.zeroValue21
  t46 := Tryd.underlying98
  a46 := Tryd.isAgg98
  z46 := Tryd.sizeOf98
  v46 := Tryd.zeroValue98
  t105 := Tryd.underlying84
  a105 := Tryd.isAgg84
  z105 := Tryd.sizeOf84
  v105 := Tryd.zeroValue84
  t119 := Tryd.underlying97
  a119 := Tryd.isAgg97
  z119 := Tryd.sizeOf97
  t138 := Tryd.underlying100
  a138 := Tryd.isAgg100
  z138 := Tryd.sizeOf100
  v138 := Tryd.zeroValue100
  t139 := Tryd.underlying101
  a139 := Tryd.isAgg101
  z139 := Tryd.sizeOf101
  v139 := Tryd.zeroValue101
  g3 := by kernel_rfl
  g4 := by kernel_rfl }
open Go.RowKit Go.Lib in
/-- **unicode/utf8.DecodeRuneInString AT EVERY STRING.** (LAID: no walk: one application.) -/
theorem Tryd.utf8_DecodeRuneInString (s : ByteArray) (w : World) (hT : Lib.Utf8Tabs 1 2 w) :
    Calls Tryd.prog 38 #[.string s] w fun e w' => e = .returned (.tuple #[.int .i32 (Lib.decodeGo s).1, .int .i64 (Lib.decodeGo s).2]) ∧ Below w.heap.size w w' := Any.utf8_DecodeRuneInString Tryd.lays197 s w hT
end Go.Proofs

