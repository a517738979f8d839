
import Derived.Test.YtlbigfjnapgioaaGreatDoorAgoI
import Derived.Test.YtlbigfjnapgioaaGreatDoorProg
namespace Go.Sh
open Go Go.Ago
abbrev adr (b : Nat) : Addr:=⟨b,0,none⟩
abbrev li : Leaf:=.int .i64
abbrev tyI : Ty:=.one (.int .i64)
abbrev tyS : Ty:=.one .str
abbrev tyB : Ty:=.one .bool
abbrev tyL : Ty:=.one .sl
abbrev tyA : Ty:=.one .adr
abbrev tyP : Ty:=.one .ptr
abbrev tyR : Ty:=.one .raw
abbrev tyM : Ty:=.one .mp
abbrev vi (n : Int) : Value:=.int .i64 n
abbrev vsl (s : Sl) : Value:=.slice s.a s.len s.cap
abbrev sl0 : Sl:=⟨none,0,0⟩
abbrev vsl0 : Value:=.slice none 0 0
abbrev T_i64 : TypeId:=3
abbrev T_bool : TypeId:=4
abbrev T_u8 : TypeId:=5
abbrev T_api_Graph : TypeId:=25
abbrev T_api_Doc : TypeId:=29
abbrev T_api_Span : TypeId:=34
abbrev T_bencode_parser : TypeId:=48
abbrev T_sl_i64 : TypeId:=53
abbrev T_api_Node : TypeId:=55
abbrev T_ar5_fn__bool_api_Errno : TypeId:=64
abbrev T_sl_bool : TypeId:=66
abbrev T_fn_i64__ : TypeId:=86
abbrev T_po_canon_table : TypeId:=93
abbrev T_fn_i64__i64 : TypeId:=95
abbrev T_po_api_Node : TypeId:=96
abbrev T_api_Note : TypeId:=101
abbrev T_sl_sl_i64 : TypeId:=103
abbrev T_api_Step : TypeId:=107
abbrev T_sl_api_Graph : TypeId:=113
abbrev T_canon_table : TypeId:=146
abbrev T_integer_number : TypeId:=159
abbrev T_ar2_i64 : TypeId:=167
abbrev T_po_strconv_NumError : TypeId:=243
abbrev F_graph_components_1 : FuncId:=114
abbrev F_graph_components_1_1 : FuncId:=115
abbrev F_graph_reached_1 : FuncId:=76
abbrev F_share_key_1 : FuncId:=144
abbrev F_share_order_1 : FuncId:=116
abbrev F_share_sorted_1 : FuncId:=120
abbrev F_span_Check_1 : FuncId:=34
abbrev F_span_Check_2 : FuncId:=35
abbrev F_span_Check_3 : FuncId:=36
abbrev F_span_Check_4 : FuncId:=38
abbrev F_span_Check_5 : FuncId:=40
abbrev F_span_inKeys_1 : FuncId:=109
end Go.Sh
