/-
Short names of types and values; written by program. No theorem about the program stands here.
-/
import Derived.Test.YtcgicpibdffpfaaDoorAgoI
import Derived.Test.YtcgicpibdffpfaaDoorProg
namespace Go.Sh
open Go Go.Ago
abbrev adr (b : Nat) : Addr := ⟨b, 0, none⟩
abbrev li : Leaf := .int .i64
abbrev vi (n : Int) : Value := .int .i64 n
abbrev vsl (s : Sl) : Value := .slice s.a s.len s.cap
abbrev sl0 : Sl := ⟨none, 0, 0⟩
abbrev vsl0 : Value := .slice none 0 0
abbrev T_i64 : TypeId := 3
abbrev T_u8 : TypeId := 5
abbrev T_internal_abi_BoundsErrorCode : TypeId := 6
abbrev T_runtime_boundsError : TypeId := 8
abbrev T_runtime_errorString : TypeId := 10
abbrev T_runtime_plainError : TypeId := 11
abbrev T_runtime_errorAddressString : TypeId := 14
abbrev T_po_runtime_TypeAssertionError : TypeId := 15
abbrev T_po_runtime_PanicNilError : TypeId := 16
abbrev T_po_internal_abi_Type : TypeId := 17
abbrev T_internal_runtime_maps_unhashableTypeError : TypeId := 19
abbrev T_i32 : TypeId := 21
abbrev T_api_Graph : TypeId := 25
abbrev T_api_Doc : TypeId := 29
abbrev T_api_Errno : TypeId := 30
abbrev T_api_Span : TypeId := 42
abbrev T_po_bencode_parser : TypeId := 43
abbrev T_bencode_parser : TypeId := 45
abbrev T_po_rosettaref34_State : TypeId := 49
abbrev T_rosettaref34_State : TypeId := 51
abbrev T_api_Note : TypeId := 56
abbrev T_api_Node : TypeId := 62
abbrev T_po_api_Node : TypeId := 71
abbrev T_integer_number : TypeId := 77
abbrev T_error : TypeId := 81
abbrev T_internal_strconv_Error : TypeId := 91
abbrev T_po_strconv_NumError : TypeId := 94
abbrev T_unicode_utf8_acceptRange : TypeId := 100
abbrev T_strconv_NumError : TypeId := 107
abbrev T_po_errors_errorString : TypeId := 112
abbrev T_errors_errorString : TypeId := 114
abbrev T_runtime_TypeAssertionError : TypeId := 132
abbrev T_runtime_PanicNilError : TypeId := 135
abbrev T_internal_abi_TFlag : TypeId := 137
abbrev T_internal_abi_Kind : TypeId := 138
abbrev T_internal_abi_NameOff : TypeId := 140
abbrev T_internal_abi_TypeOff : TypeId := 141
abbrev T_internal_abi_Type : TypeId := 143
end Go.Sh
