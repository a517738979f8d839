
import Derived.Test.YtengdffgmpghgaaGreatDoorAgoI
import Derived.Test.YtengdffgmpghgaaGreatDoorProg
set_option linter.all false
namespace Go.Sh
open Go Go.Ago
abbrev ai (b:Nat):Addr:=⟨b,0,none⟩
abbrev li:eD:=.int .i64
abbrev aq:Ty:=.one (.int .i64)
abbrev oz:Ty:=.one .str
abbrev hS:Ty:=.one .bool
abbrev bU:Ty:=.one .sl
abbrev aG:Ty:=.one .ai
abbrev vx:Ty:=.one .ptr
abbrev s9:Ty:=.one .raw
abbrev OX:Ty:=.one .mp
abbrev vi (n:Int):ξ:=.int .i64 n
abbrev aM (s:Sl):ξ:=.slice s.a s.len s.cap
abbrev uV:Sl:=⟨none,0,0⟩
abbrev bF:ξ:=.slice none 0 0
abbrev ar:κ:=3
abbrev nV:κ:=4
abbrev gH:κ:=5
abbrev NH:κ:=9
abbrev ao:κ:=24
abbrev fI:κ:=28
abbrev bt:κ:=39
abbrev bJ:κ:=43
abbrev aA:κ:=50
abbrev wu:κ:=54
abbrev aW:κ:=57
abbrev uH:κ:=64
abbrev PD:κ:=67
abbrev rV:κ:=75
abbrev cU:κ:=77
abbrev fB:κ:=83
abbrev gY:κ:=95
abbrev eS:κ:=96
abbrev aD:κ:=114
abbrev bT:κ:=118
abbrev bN:κ:=128
abbrev IW:κ:=138
abbrev uW:κ:=158
abbrev TT:κ:=161
abbrev vL:κ:=190
abbrev rP:κ:=201
abbrev GR:κ:=209
abbrev Bl:κ:=225
abbrev iD:FuncId:=69
abbrev jf:FuncId:=206
abbrev kA:FuncId:=64
abbrev jg:FuncId:=65
abbrev qs:FuncId:=52
abbrev nL:FuncId:=47
abbrev oA:FuncId:=102
abbrev dD:FuncId:=103
abbrev jz:FuncId:=16
abbrev jA:FuncId:=17
abbrev jB:FuncId:=18
abbrev jC:FuncId:=20
abbrev jD:FuncId:=22
abbrev pq:FuncId:=40
def dr0(i:Nat):Option (List (Nat×η)):=none
abbrev υ2 {A0 A1 R:Type}(f:A0->A1->R)(x:A0×A1):R:=f x.1 x.2
abbrev υ3 {A0 A1 A2 R:Type}(f:A0->A1->A2->R)(x:A0×A1×A2):R:=f x.1 x.2.1 x.2.2
abbrev υ4 {A0 A1 A2 A3 R:Type}(f:A0->A1->A2->A3->R)(x:A0×A1×A2×A3):R:=f x.1 x.2.1 x.2.2.1 x.2.2.2
abbrev υ5 {A0 A1 A2 A3 A4 R:Type}(f:A0->A1->A2->A3->A4->R)(x:A0×A1×A2×A3×A4):R:=f x.1 x.2.1 x.2.2.1 x.2.2.2.1 x.2.2.2.2
abbrev υ6 {A0 A1 A2 A3 A4 A5 R:Type}(f:A0->A1->A2->A3->A4->A5->R)(x:A0×A1×A2×A3×A4×A5):R:=f x.1 x.2.1 x.2.2.1 x.2.2.2.1 x.2.2.2.2.1 x.2.2.2.2.2
abbrev υ7 {A0 A1 A2 A3 A4 A5 A6 R:Type}(f:A0->A1->A2->A3->A4->A5->A6->R)(x:A0×A1×A2×A3×A4×A5×A6):R:=f x.1 x.2.1 x.2.2.1 x.2.2.2.1 x.2.2.2.2.1 x.2.2.2.2.2.1 x.2.2.2.2.2.2
abbrev υ8 {A0 A1 A2 A3 A4 A5 A6 A7 R:Type}(f:A0->A1->A2->A3->A4->A5->A6->A7->R)(x:A0×A1×A2×A3×A4×A5×A6×A7):R:=f x.1 x.2.1 x.2.2.1 x.2.2.2.1 x.2.2.2.2.1 x.2.2.2.2.2.1 x.2.2.2.2.2.2.1 x.2.2.2.2.2.2.2
abbrev υ9 {A0 A1 A2 A3 A4 A5 A6 A7 A8 R:Type}(f:A0->A1->A2->A3->A4->A5->A6->A7->A8->R)(x:A0×A1×A2×A3×A4×A5×A6×A7×A8):R:=f x.1 x.2.1 x.2.2.1 x.2.2.2.1 x.2.2.2.2.1 x.2.2.2.2.2.1 x.2.2.2.2.2.2.1 x.2.2.2.2.2.2.2.1 x.2.2.2.2.2.2.2.2
abbrev υ10 {A0 A1 A2 A3 A4 A5 A6 A7 A8 A9 R:Type}(f:A0->A1->A2->A3->A4->A5->A6->A7->A8->A9->R)(x:A0×A1×A2×A3×A4×A5×A6×A7×A8×A9):R:=f x.1 x.2.1 x.2.2.1 x.2.2.2.1 x.2.2.2.2.1 x.2.2.2.2.2.1 x.2.2.2.2.2.2.1 x.2.2.2.2.2.2.2.1 x.2.2.2.2.2.2.2.2.1 x.2.2.2.2.2.2.2.2.2
abbrev υ11 {A0 A1 A2 A3 A4 A5 A6 A7 A8 A9 A10 R:Type}(f:A0->A1->A2->A3->A4->A5->A6->A7->A8->A9->A10->R)(x:A0×A1×A2×A3×A4×A5×A6×A7×A8×A9×A10):R:=f x.1 x.2.1 x.2.2.1 x.2.2.2.1 x.2.2.2.2.1 x.2.2.2.2.2.1 x.2.2.2.2.2.2.1 x.2.2.2.2.2.2.2.1 x.2.2.2.2.2.2.2.2.1 x.2.2.2.2.2.2.2.2.2.1 x.2.2.2.2.2.2.2.2.2.2
abbrev υ12 {A0 A1 A2 A3 A4 A5 A6 A7 A8 A9 A10 A11 R:Type}(f:A0->A1->A2->A3->A4->A5->A6->A7->A8->A9->A10->A11->R)(x:A0×A1×A2×A3×A4×A5×A6×A7×A8×A9×A10×A11):R:=f x.1 x.2.1 x.2.2.1 x.2.2.2.1 x.2.2.2.2.1 x.2.2.2.2.2.1 x.2.2.2.2.2.2.1 x.2.2.2.2.2.2.2.1 x.2.2.2.2.2.2.2.2.1 x.2.2.2.2.2.2.2.2.2.1 x.2.2.2.2.2.2.2.2.2.2.1 x.2.2.2.2.2.2.2.2.2.2.2
abbrev υ13 {A0 A1 A2 A3 A4 A5 A6 A7 A8 A9 A10 A11 A12 R:Type}(f:A0->A1->A2->A3->A4->A5->A6->A7->A8->A9->A10->A11->A12->R)(x:A0×A1×A2×A3×A4×A5×A6×A7×A8×A9×A10×A11×A12):R:=f x.1 x.2.1 x.2.2.1 x.2.2.2.1 x.2.2.2.2.1 x.2.2.2.2.2.1 x.2.2.2.2.2.2.1 x.2.2.2.2.2.2.2.1 x.2.2.2.2.2.2.2.2.1 x.2.2.2.2.2.2.2.2.2.1 x.2.2.2.2.2.2.2.2.2.2.1 x.2.2.2.2.2.2.2.2.2.2.2.1 x.2.2.2.2.2.2.2.2.2.2.2.2
abbrev υ15 {A0 A1 A2 A3 A4 A5 A6 A7 A8 A9 A10 A11 A12 A13 A14 R:Type}(f:A0->A1->A2->A3->A4->A5->A6->A7->A8->A9->A10->A11->A12->A13->A14->R)(x:A0×A1×A2×A3×A4×A5×A6×A7×A8×A9×A10×A11×A12×A13×A14):R:=f x.1 x.2.1 x.2.2.1 x.2.2.2.1 x.2.2.2.2.1 x.2.2.2.2.2.1 x.2.2.2.2.2.2.1 x.2.2.2.2.2.2.2.1 x.2.2.2.2.2.2.2.2.1 x.2.2.2.2.2.2.2.2.2.1 x.2.2.2.2.2.2.2.2.2.2.1 x.2.2.2.2.2.2.2.2.2.2.2.1 x.2.2.2.2.2.2.2.2.2.2.2.2.1 x.2.2.2.2.2.2.2.2.2.2.2.2.2.1 x.2.2.2.2.2.2.2.2.2.2.2.2.2.2
abbrev υ18 {A0 A1 A2 A3 A4 A5 A6 A7 A8 A9 A10 A11 A12 A13 A14 A15 A16 A17 R:Type}(f:A0->A1->A2->A3->A4->A5->A6->A7->A8->A9->A10->A11->A12->A13->A14->A15->A16->A17->R)(x:A0×A1×A2×A3×A4×A5×A6×A7×A8×A9×A10×A11×A12×A13×A14×A15×A16×A17):R:=f x.1 x.2.1 x.2.2.1 x.2.2.2.1 x.2.2.2.2.1 x.2.2.2.2.2.1 x.2.2.2.2.2.2.1 x.2.2.2.2.2.2.2.1 x.2.2.2.2.2.2.2.2.1 x.2.2.2.2.2.2.2.2.2.1 x.2.2.2.2.2.2.2.2.2.2.1 x.2.2.2.2.2.2.2.2.2.2.2.1 x.2.2.2.2.2.2.2.2.2.2.2.2.1 x.2.2.2.2.2.2.2.2.2.2.2.2.2.1 x.2.2.2.2.2.2.2.2.2.2.2.2.2.2.1 x.2.2.2.2.2.2.2.2.2.2.2.2.2.2.2.1 x.2.2.2.2.2.2.2.2.2.2.2.2.2.2.2.2.1 x.2.2.2.2.2.2.2.2.2.2.2.2.2.2.2.2.2
def Ω (l:η):List (Nat×η):=l.map λi=>(i,[])
def Κ (i k:Nat)(l:List (Nat×η))(r:Option (List (Nat×η))):=cond (Nat.beq i k) (some l) r
end Go.Sh
