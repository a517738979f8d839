
import Derived.Test.YtajnpfnomgjlaaaGreatDoorAgoI
import Derived.Test.YtajnpfnomgjlaaaGreatDoorProg
set_option linter.all false
namespace Go.Sh
open Go Go.Ago
abbrev al (b:Nat):Addr:=⟨b,0,none⟩
abbrev li:wu:=.int .i64
abbrev aw:Ty:=.one (.int .i64)
abbrev qG:Ty:=.one .str
abbrev lS:Ty:=.one .bool
abbrev cw:Ty:=.one .sl
abbrev aB:Ty:=.one .al
abbrev BZ:Ty:=.one .ptr
abbrev th:Ty:=.one .raw
abbrev tyM:Ty:=.one .mp
abbrev vi (n:Int):ξ:=.int .i64 n
abbrev aI (s:Sl):ξ:=.slice s.a s.len s.cap
abbrev qQ:Sl:=⟨none,0,0⟩
abbrev aO:ξ:=.slice none 0 0
abbrev an:κ:=3
abbrev Bp:κ:=4
abbrev jT:κ:=5
abbrev Ng:κ:=9
abbrev aj:κ:=24
abbrev aR:κ:=32
abbrev aA:κ:=34
abbrev u6:κ:=39
abbrev rq:κ:=43
abbrev Cp:κ:=47
abbrev jv:κ:=49
abbrev tB:κ:=50
abbrev iz:κ:=54
abbrev vw:κ:=59
abbrev zm:κ:=66
abbrev bF:κ:=79
abbrev kV:κ:=81
abbrev fM:κ:=82
abbrev Eo:κ:=86
abbrev O0:κ:=0
abbrev eN:κ:=90
abbrev dJ:κ:=106
abbrev vx:κ:=130
abbrev aJ:κ:=132
abbrev bW:κ:=136
abbrev bQ:κ:=146
abbrev wG:κ:=151
abbrev vL:κ:=177
abbrev Sy:κ:=180
abbrev tj:κ:=208
abbrev GC:κ:=216
abbrev Bq:κ:=227
abbrev kI:FuncId:=37
abbrev pY:FuncId:=41
abbrev jX:FuncId:=61
abbrev kJ:FuncId:=200
abbrev mG:FuncId:=69
abbrev kK:FuncId:=70
abbrev pH:FuncId:=45
abbrev pZ:FuncId:=124
abbrev eg:FuncId:=125
abbrev p6:FuncId:=30
abbrev uf:FuncId:=71
abbrev qH:FuncId:=73
abbrev tC:FuncId:=51
def dr0(i:Nat):Option (List (Nat×η)):=none
abbrev υ2 {A0 A1 R:Type}(f:A0->A1->R)(x:A0×A1):R:=f x.1 x.2
abbrev υ3 {A0 A1 A2 R:Type}(f:A0->A1->A2->R)(x:A0×A1×A2):R:=f x.1 x.2.1 x.2.2
abbrev υ4 {A0 A1 A2 A3 R:Type}(f:A0->A1->A2->A3->R)(x:A0×A1×A2×A3):R:=f x.1 x.2.1 x.2.2.1 x.2.2.2
abbrev υ5 {A0 A1 A2 A3 A4 R:Type}(f:A0->A1->A2->A3->A4->R)(x:A0×A1×A2×A3×A4):R:=f x.1 x.2.1 x.2.2.1 x.2.2.2.1 x.2.2.2.2
abbrev υ6 {A0 A1 A2 A3 A4 A5 R:Type}(f:A0->A1->A2->A3->A4->A5->R)(x:A0×A1×A2×A3×A4×A5):R:=f x.1 x.2.1 x.2.2.1 x.2.2.2.1 x.2.2.2.2.1 x.2.2.2.2.2
abbrev υ7 {A0 A1 A2 A3 A4 A5 A6 R:Type}(f:A0->A1->A2->A3->A4->A5->A6->R)(x:A0×A1×A2×A3×A4×A5×A6):R:=f x.1 x.2.1 x.2.2.1 x.2.2.2.1 x.2.2.2.2.1 x.2.2.2.2.2.1 x.2.2.2.2.2.2
abbrev υ8 {A0 A1 A2 A3 A4 A5 A6 A7 R:Type}(f:A0->A1->A2->A3->A4->A5->A6->A7->R)(x:A0×A1×A2×A3×A4×A5×A6×A7):R:=f x.1 x.2.1 x.2.2.1 x.2.2.2.1 x.2.2.2.2.1 x.2.2.2.2.2.1 x.2.2.2.2.2.2.1 x.2.2.2.2.2.2.2
abbrev υ9 {A0 A1 A2 A3 A4 A5 A6 A7 A8 R:Type}(f:A0->A1->A2->A3->A4->A5->A6->A7->A8->R)(x:A0×A1×A2×A3×A4×A5×A6×A7×A8):R:=f x.1 x.2.1 x.2.2.1 x.2.2.2.1 x.2.2.2.2.1 x.2.2.2.2.2.1 x.2.2.2.2.2.2.1 x.2.2.2.2.2.2.2.1 x.2.2.2.2.2.2.2.2
abbrev υ10 {A0 A1 A2 A3 A4 A5 A6 A7 A8 A9 R:Type}(f:A0->A1->A2->A3->A4->A5->A6->A7->A8->A9->R)(x:A0×A1×A2×A3×A4×A5×A6×A7×A8×A9):R:=f x.1 x.2.1 x.2.2.1 x.2.2.2.1 x.2.2.2.2.1 x.2.2.2.2.2.1 x.2.2.2.2.2.2.1 x.2.2.2.2.2.2.2.1 x.2.2.2.2.2.2.2.2.1 x.2.2.2.2.2.2.2.2.2
abbrev υ11 {A0 A1 A2 A3 A4 A5 A6 A7 A8 A9 A10 R:Type}(f:A0->A1->A2->A3->A4->A5->A6->A7->A8->A9->A10->R)(x:A0×A1×A2×A3×A4×A5×A6×A7×A8×A9×A10):R:=f x.1 x.2.1 x.2.2.1 x.2.2.2.1 x.2.2.2.2.1 x.2.2.2.2.2.1 x.2.2.2.2.2.2.1 x.2.2.2.2.2.2.2.1 x.2.2.2.2.2.2.2.2.1 x.2.2.2.2.2.2.2.2.2.1 x.2.2.2.2.2.2.2.2.2.2
abbrev υ12 {A0 A1 A2 A3 A4 A5 A6 A7 A8 A9 A10 A11 R:Type}(f:A0->A1->A2->A3->A4->A5->A6->A7->A8->A9->A10->A11->R)(x:A0×A1×A2×A3×A4×A5×A6×A7×A8×A9×A10×A11):R:=f x.1 x.2.1 x.2.2.1 x.2.2.2.1 x.2.2.2.2.1 x.2.2.2.2.2.1 x.2.2.2.2.2.2.1 x.2.2.2.2.2.2.2.1 x.2.2.2.2.2.2.2.2.1 x.2.2.2.2.2.2.2.2.2.1 x.2.2.2.2.2.2.2.2.2.2.1 x.2.2.2.2.2.2.2.2.2.2.2
abbrev υ13 {A0 A1 A2 A3 A4 A5 A6 A7 A8 A9 A10 A11 A12 R:Type}(f:A0->A1->A2->A3->A4->A5->A6->A7->A8->A9->A10->A11->A12->R)(x:A0×A1×A2×A3×A4×A5×A6×A7×A8×A9×A10×A11×A12):R:=f x.1 x.2.1 x.2.2.1 x.2.2.2.1 x.2.2.2.2.1 x.2.2.2.2.2.1 x.2.2.2.2.2.2.1 x.2.2.2.2.2.2.2.1 x.2.2.2.2.2.2.2.2.1 x.2.2.2.2.2.2.2.2.2.1 x.2.2.2.2.2.2.2.2.2.2.1 x.2.2.2.2.2.2.2.2.2.2.2.1 x.2.2.2.2.2.2.2.2.2.2.2.2
abbrev υ15 {A0 A1 A2 A3 A4 A5 A6 A7 A8 A9 A10 A11 A12 A13 A14 R:Type}(f:A0->A1->A2->A3->A4->A5->A6->A7->A8->A9->A10->A11->A12->A13->A14->R)(x:A0×A1×A2×A3×A4×A5×A6×A7×A8×A9×A10×A11×A12×A13×A14):R:=f x.1 x.2.1 x.2.2.1 x.2.2.2.1 x.2.2.2.2.1 x.2.2.2.2.2.1 x.2.2.2.2.2.2.1 x.2.2.2.2.2.2.2.1 x.2.2.2.2.2.2.2.2.1 x.2.2.2.2.2.2.2.2.2.1 x.2.2.2.2.2.2.2.2.2.2.1 x.2.2.2.2.2.2.2.2.2.2.2.1 x.2.2.2.2.2.2.2.2.2.2.2.2.1 x.2.2.2.2.2.2.2.2.2.2.2.2.2.1 x.2.2.2.2.2.2.2.2.2.2.2.2.2.2
abbrev υ18 {A0 A1 A2 A3 A4 A5 A6 A7 A8 A9 A10 A11 A12 A13 A14 A15 A16 A17 R:Type}(f:A0->A1->A2->A3->A4->A5->A6->A7->A8->A9->A10->A11->A12->A13->A14->A15->A16->A17->R)(x:A0×A1×A2×A3×A4×A5×A6×A7×A8×A9×A10×A11×A12×A13×A14×A15×A16×A17):R:=f x.1 x.2.1 x.2.2.1 x.2.2.2.1 x.2.2.2.2.1 x.2.2.2.2.2.1 x.2.2.2.2.2.2.1 x.2.2.2.2.2.2.2.1 x.2.2.2.2.2.2.2.2.1 x.2.2.2.2.2.2.2.2.2.1 x.2.2.2.2.2.2.2.2.2.2.1 x.2.2.2.2.2.2.2.2.2.2.2.1 x.2.2.2.2.2.2.2.2.2.2.2.2.1 x.2.2.2.2.2.2.2.2.2.2.2.2.2.1 x.2.2.2.2.2.2.2.2.2.2.2.2.2.2.1 x.2.2.2.2.2.2.2.2.2.2.2.2.2.2.2.1 x.2.2.2.2.2.2.2.2.2.2.2.2.2.2.2.2.1 x.2.2.2.2.2.2.2.2.2.2.2.2.2.2.2.2.2
def Ω (l:η):List (Nat×η):=l.map λi=>(i,[])
def Κ (i k:Nat)(l:List (Nat×η))(r:Option (List (Nat×η))):=cond (Nat.beq i k) (some l) r
end Go.Sh
