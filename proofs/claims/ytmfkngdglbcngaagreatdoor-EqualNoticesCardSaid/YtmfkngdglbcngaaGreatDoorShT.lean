
import Derived.Test.YtmfkngdglbcngaaGreatDoorAgoI
import Derived.Test.YtmfkngdglbcngaaGreatDoorProg
set_option linter.all false
namespace Go.Sh
open Go Go.Ago
abbrev an (b:Nat):Addr:=⟨b,0,none⟩
abbrev li:eN:=.int .i64
abbrev aC:Ty:=.one (.int .i64)
abbrev oS:Ty:=.one .str
abbrev jT:Ty:=.one .bool
abbrev cN:Ty:=.one .sl
abbrev aJ:Ty:=.one .an
abbrev uo:Ty:=.one .ptr
abbrev sQ:Ty:=.one .raw
abbrev tyM:Ty:=.one .mp
abbrev vi (n:Int):ξ:=.int .i64 n
abbrev aH (s:Sl):ξ:=.slice s.a s.len s.cap
abbrev nP:Sl:=⟨none,0,0⟩
abbrev aT:ξ:=.slice none 0 0
abbrev av:κ:=3
abbrev vG:κ:=4
abbrev gU:κ:=5
abbrev dV:κ:=9
abbrev aj:κ:=24
abbrev aQ:κ:=29
abbrev az:κ:=31
abbrev NR:κ:=0
abbrev aE:κ:=41
abbrev zo:κ:=42
abbrev wZ:κ:=52
abbrev nZ:κ:=61
abbrev eI:κ:=62
abbrev cC:κ:=64
abbrev aG:κ:=77
abbrev bZ:κ:=81
abbrev bT:κ:=91
abbrev bJ:κ:=96
abbrev o9:κ:=98
abbrev eW:κ:=99
abbrev uD:κ:=127
abbrev RV:κ:=130
abbrev dn:κ:=134
abbrev fF:κ:=141
abbrev HS:κ:=162
abbrev rD:κ:=170
abbrev FM:κ:=179
abbrev Ax:κ:=201
abbrev vj:κ:=214
abbrev oz:FuncId:=47
abbrev iE:FuncId:=75
abbrev jh:FuncId:=195
abbrev oA:FuncId:=25
abbrev kC:FuncId:=33
abbrev ji:FuncId:=34
abbrev qn:FuncId:=107
abbrev nQ:FuncId:=19
abbrev oB:FuncId:=69
abbrev dG:FuncId:=70
def dr0(i:Nat):Option (List (Nat×η)):=none
abbrev υ2 {A0 A1 R:Type}(f:A0->A1->R)(x:A0×A1):R:=f x.1 x.2
abbrev υ3 {A0 A1 A2 R:Type}(f:A0->A1->A2->R)(x:A0×A1×A2):R:=f x.1 x.2.1 x.2.2
abbrev υ4 {A0 A1 A2 A3 R:Type}(f:A0->A1->A2->A3->R)(x:A0×A1×A2×A3):R:=f x.1 x.2.1 x.2.2.1 x.2.2.2
abbrev υ5 {A0 A1 A2 A3 A4 R:Type}(f:A0->A1->A2->A3->A4->R)(x:A0×A1×A2×A3×A4):R:=f x.1 x.2.1 x.2.2.1 x.2.2.2.1 x.2.2.2.2
abbrev υ6 {A0 A1 A2 A3 A4 A5 R:Type}(f:A0->A1->A2->A3->A4->A5->R)(x:A0×A1×A2×A3×A4×A5):R:=f x.1 x.2.1 x.2.2.1 x.2.2.2.1 x.2.2.2.2.1 x.2.2.2.2.2
abbrev υ7 {A0 A1 A2 A3 A4 A5 A6 R:Type}(f:A0->A1->A2->A3->A4->A5->A6->R)(x:A0×A1×A2×A3×A4×A5×A6):R:=f x.1 x.2.1 x.2.2.1 x.2.2.2.1 x.2.2.2.2.1 x.2.2.2.2.2.1 x.2.2.2.2.2.2
abbrev υ8 {A0 A1 A2 A3 A4 A5 A6 A7 R:Type}(f:A0->A1->A2->A3->A4->A5->A6->A7->R)(x:A0×A1×A2×A3×A4×A5×A6×A7):R:=f x.1 x.2.1 x.2.2.1 x.2.2.2.1 x.2.2.2.2.1 x.2.2.2.2.2.1 x.2.2.2.2.2.2.1 x.2.2.2.2.2.2.2
abbrev υ9 {A0 A1 A2 A3 A4 A5 A6 A7 A8 R:Type}(f:A0->A1->A2->A3->A4->A5->A6->A7->A8->R)(x:A0×A1×A2×A3×A4×A5×A6×A7×A8):R:=f x.1 x.2.1 x.2.2.1 x.2.2.2.1 x.2.2.2.2.1 x.2.2.2.2.2.1 x.2.2.2.2.2.2.1 x.2.2.2.2.2.2.2.1 x.2.2.2.2.2.2.2.2
abbrev υ10 {A0 A1 A2 A3 A4 A5 A6 A7 A8 A9 R:Type}(f:A0->A1->A2->A3->A4->A5->A6->A7->A8->A9->R)(x:A0×A1×A2×A3×A4×A5×A6×A7×A8×A9):R:=f x.1 x.2.1 x.2.2.1 x.2.2.2.1 x.2.2.2.2.1 x.2.2.2.2.2.1 x.2.2.2.2.2.2.1 x.2.2.2.2.2.2.2.1 x.2.2.2.2.2.2.2.2.1 x.2.2.2.2.2.2.2.2.2
abbrev υ11 {A0 A1 A2 A3 A4 A5 A6 A7 A8 A9 A10 R:Type}(f:A0->A1->A2->A3->A4->A5->A6->A7->A8->A9->A10->R)(x:A0×A1×A2×A3×A4×A5×A6×A7×A8×A9×A10):R:=f x.1 x.2.1 x.2.2.1 x.2.2.2.1 x.2.2.2.2.1 x.2.2.2.2.2.1 x.2.2.2.2.2.2.1 x.2.2.2.2.2.2.2.1 x.2.2.2.2.2.2.2.2.1 x.2.2.2.2.2.2.2.2.2.1 x.2.2.2.2.2.2.2.2.2.2
abbrev υ12 {A0 A1 A2 A3 A4 A5 A6 A7 A8 A9 A10 A11 R:Type}(f:A0->A1->A2->A3->A4->A5->A6->A7->A8->A9->A10->A11->R)(x:A0×A1×A2×A3×A4×A5×A6×A7×A8×A9×A10×A11):R:=f x.1 x.2.1 x.2.2.1 x.2.2.2.1 x.2.2.2.2.1 x.2.2.2.2.2.1 x.2.2.2.2.2.2.1 x.2.2.2.2.2.2.2.1 x.2.2.2.2.2.2.2.2.1 x.2.2.2.2.2.2.2.2.2.1 x.2.2.2.2.2.2.2.2.2.2.1 x.2.2.2.2.2.2.2.2.2.2.2
abbrev υ13 {A0 A1 A2 A3 A4 A5 A6 A7 A8 A9 A10 A11 A12 R:Type}(f:A0->A1->A2->A3->A4->A5->A6->A7->A8->A9->A10->A11->A12->R)(x:A0×A1×A2×A3×A4×A5×A6×A7×A8×A9×A10×A11×A12):R:=f x.1 x.2.1 x.2.2.1 x.2.2.2.1 x.2.2.2.2.1 x.2.2.2.2.2.1 x.2.2.2.2.2.2.1 x.2.2.2.2.2.2.2.1 x.2.2.2.2.2.2.2.2.1 x.2.2.2.2.2.2.2.2.2.1 x.2.2.2.2.2.2.2.2.2.2.1 x.2.2.2.2.2.2.2.2.2.2.2.1 x.2.2.2.2.2.2.2.2.2.2.2.2
abbrev υ15 {A0 A1 A2 A3 A4 A5 A6 A7 A8 A9 A10 A11 A12 A13 A14 R:Type}(f:A0->A1->A2->A3->A4->A5->A6->A7->A8->A9->A10->A11->A12->A13->A14->R)(x:A0×A1×A2×A3×A4×A5×A6×A7×A8×A9×A10×A11×A12×A13×A14):R:=f x.1 x.2.1 x.2.2.1 x.2.2.2.1 x.2.2.2.2.1 x.2.2.2.2.2.1 x.2.2.2.2.2.2.1 x.2.2.2.2.2.2.2.1 x.2.2.2.2.2.2.2.2.1 x.2.2.2.2.2.2.2.2.2.1 x.2.2.2.2.2.2.2.2.2.2.1 x.2.2.2.2.2.2.2.2.2.2.2.1 x.2.2.2.2.2.2.2.2.2.2.2.2.1 x.2.2.2.2.2.2.2.2.2.2.2.2.2.1 x.2.2.2.2.2.2.2.2.2.2.2.2.2.2
abbrev υ18 {A0 A1 A2 A3 A4 A5 A6 A7 A8 A9 A10 A11 A12 A13 A14 A15 A16 A17 R:Type}(f:A0->A1->A2->A3->A4->A5->A6->A7->A8->A9->A10->A11->A12->A13->A14->A15->A16->A17->R)(x:A0×A1×A2×A3×A4×A5×A6×A7×A8×A9×A10×A11×A12×A13×A14×A15×A16×A17):R:=f x.1 x.2.1 x.2.2.1 x.2.2.2.1 x.2.2.2.2.1 x.2.2.2.2.2.1 x.2.2.2.2.2.2.1 x.2.2.2.2.2.2.2.1 x.2.2.2.2.2.2.2.2.1 x.2.2.2.2.2.2.2.2.2.1 x.2.2.2.2.2.2.2.2.2.2.1 x.2.2.2.2.2.2.2.2.2.2.2.1 x.2.2.2.2.2.2.2.2.2.2.2.2.1 x.2.2.2.2.2.2.2.2.2.2.2.2.2.1 x.2.2.2.2.2.2.2.2.2.2.2.2.2.2.1 x.2.2.2.2.2.2.2.2.2.2.2.2.2.2.2.1 x.2.2.2.2.2.2.2.2.2.2.2.2.2.2.2.2.1 x.2.2.2.2.2.2.2.2.2.2.2.2.2.2.2.2.2
def Ω (l:η):List (Nat×η):=l.map λi=>(i,[])
def Κ (i k:Nat)(l:List (Nat×η))(r:Option (List (Nat×η))):=cond (Nat.beq i k) (some l) r
end Go.Sh
