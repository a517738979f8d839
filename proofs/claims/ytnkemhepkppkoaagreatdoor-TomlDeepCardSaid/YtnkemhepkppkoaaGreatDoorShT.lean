/-
Short names of types and values; written by program. No theorem about the program stands here.
-/
import Derived.Test.YtnkemhepkppkoaaGreatDoorAgoI
import Derived.Test.YtnkemhepkppkoaaGreatDoorProg
namespace Go.Sh
open Go Go.Ago
abbrev adr (b : Nat) : Addr := ⟨b, 0, none⟩
abbrev li : Leaf := .int .i64
abbrev tyI : Ty := .one (.int .i64)
abbrev tyS : Ty := .one .str
abbrev tyB : Ty := .one .bool
abbrev tyL : Ty := .one .sl
abbrev tyA : Ty := .one .adr
abbrev tyP : Ty := .one .ptr
abbrev tyR : Ty := .one .raw
abbrev tyM : Ty := .one .mp
abbrev vi (n : Int) : Value := .int .i64 n
abbrev vsl (s : Sl) : Value := .slice s.a s.len s.cap
abbrev sl0 : Sl := ⟨none, 0, 0⟩
abbrev vsl0 : Value := .slice none 0 0
abbrev T_i64 : TypeId := 3
abbrev T_u8 : TypeId := 5
abbrev T_internal_abi_BoundsErrorCode : TypeId := 6
abbrev T_runtime_boundsError : TypeId := 8
abbrev T_string : TypeId := 9
abbrev T_runtime_errorString : TypeId := 10
abbrev T_runtime_plainError : TypeId := 11
abbrev T_runtime_errorAddressString : TypeId := 14
abbrev T_po_runtime_TypeAssertionError : TypeId := 15
abbrev T_po_runtime_PanicNilError : TypeId := 16
abbrev T_po_internal_abi_Type : TypeId := 17
abbrev T_internal_runtime_maps_unhashableTypeError : TypeId := 19
abbrev T_api_Graph : TypeId := 24
abbrev T_api_Doc : TypeId := 28
abbrev T_api_Errno : TypeId := 29
abbrev T_tomllex_Token : TypeId := 40
abbrev T_api_Span : TypeId := 43
abbrev T_api_Node : TypeId := 49
abbrev T_po_toml_parser : TypeId := 54
abbrev T_toml_parser : TypeId := 57
abbrev T_toml_failure : TypeId := 59
abbrev T_po_strings_Builder : TypeId := 65
abbrev T_strings_Builder : TypeId := 68
abbrev T_error : TypeId := 71
abbrev T_api_Note : TypeId := 81
abbrev T_strings_asciiSet : TypeId := 86
abbrev T_po_strings_asciiSet : TypeId := 90
abbrev T_po_rosettaref25_State : TypeId := 96
abbrev T_rosettaref25_State : TypeId := 98
abbrev T_rosettaref24_Token : TypeId := 102
abbrev T_po_toml_mark : TypeId := 106
abbrev T_toml_mark : TypeId := 109
abbrev T_rosettaref07_T : TypeId := 127
abbrev T_rosettaref04_D : TypeId := 139
abbrev T_rosettaref03_Int : TypeId := 172
abbrev T_po_api_Node : TypeId := 193
abbrev T_unicode_utf8_acceptRange : TypeId := 197
abbrev T_instant_moment : TypeId := 222
abbrev T_fn_i64__i64_bool : TypeId := 229
abbrev T_ar5_i64 : TypeId := 232
abbrev T_decimal_num : TypeId := 238
abbrev T_integer_number : TypeId := 243
abbrev T_ar13_i64 : TypeId := 251
abbrev T_runtime_TypeAssertionError : TypeId := 266
abbrev T_runtime_PanicNilError : TypeId := 269
abbrev T_internal_abi_TFlag : TypeId := 270
abbrev T_internal_abi_Kind : TypeId := 271
abbrev T_internal_abi_NameOff : TypeId := 273
abbrev T_internal_abi_TypeOff : TypeId := 274
abbrev T_internal_abi_Type : TypeId := 276
abbrev F_instant_read_1 : FuncId := 188
abbrev F_instant_read_2 : FuncId := 189
abbrev F_toml_digit : FuncId := 161
abbrev F_toml_hexadecimal : FuncId := 180
abbrev F_tomllex_bare : FuncId := 61
abbrev F_tomllex_blank : FuncId := 26
end Go.Sh
