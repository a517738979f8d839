
import Derived.Test.YtmjkmdhbcmckgaaGreatDoorAgoI
import Derived.Test.YtmjkmdhbcmckgaaGreatDoorProg
namespace Go.Sh
open Go Go.Ago
abbrev adr (b:Nat):Addr:=⟨b,0,none⟩
abbrev li:Leaf:=.int .i64
abbrev tyI:Ty:=.one (.int .i64)
abbrev tyS:Ty:=.one .str
abbrev tyB:Ty:=.one .bool
abbrev tyL:Ty:=.one .sl
abbrev tyA:Ty:=.one .adr
abbrev tyR:Ty:=.one .raw
abbrev tyM:Ty:=.one .mp
abbrev vi (n:Int):Value:=.int .i64 n
abbrev vsl (s:Sl):Value:=.slice s.a s.len s.cap
abbrev sl0:Sl:=⟨none,0,0⟩
abbrev vsl0:Value:=.slice none 0 0
abbrev T_i64:TypeId:=3
abbrev T_bool:TypeId:=4
abbrev T_u8:TypeId:=5
abbrev T_string:TypeId:=9
abbrev T_api_Graph:TypeId:=24
abbrev T_api_Doc:TypeId:=28
abbrev T_api_Span:TypeId:=34
abbrev T_sl_i64:TypeId:=35
abbrev T_api_Node:TypeId:=50
abbrev T_api_Step:TypeId:=58
abbrev T_ar5_fn__bool_api_Errno:TypeId:=61
abbrev T_sl_bool:TypeId:=68
abbrev T_api_Note:TypeId:=78
abbrev T_fn_i64__:TypeId:=80
abbrev T_integer_number:TypeId:=114
abbrev T_decimal_num:TypeId:=118
abbrev T_instant_moment:TypeId:=128
abbrev T_fn_i64__i64_bool:TypeId:=165
abbrev T_ar5_i64:TypeId:=168
abbrev T_po_strconv_NumError:TypeId:=200
abbrev T_ar13_i64:TypeId:=209
abbrev T_strconv_NumError:TypeId:=230
abbrev F_graph_components_1:FuncId:=60
abbrev F_graph_components_1_1:FuncId:=61
abbrev F_graph_reached_1:FuncId:=43
abbrev F_instant_read_1:FuncId:=104
abbrev F_instant_read_2:FuncId:=105
abbrev F_span_Check_1:FuncId:=20
abbrev F_span_Check_2:FuncId:=21
abbrev F_span_Check_3:FuncId:=22
abbrev F_span_Check_4:FuncId:=24
abbrev F_span_Check_5:FuncId:=26
abbrev F_span_inKeys_1:FuncId:=53
def dr0(i:Nat):Option (List (Nat×List Nat)):=none
end Go.Sh
