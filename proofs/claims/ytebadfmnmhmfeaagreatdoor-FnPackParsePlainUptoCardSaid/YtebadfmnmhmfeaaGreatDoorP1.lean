/- What the functions of the program do, one contract each (Tab, Sha, Pre, A1, P1); each states its own conditions. -/
import Derived.Test.YtebadfmnmhmfeaaGreatDoorSx4
import Derived.KernelRfl
import Derived.Test.YtebadfmnmhmfeaaGreatDoorProg
namespace Go.Proofs.YtebadfmnmhmfeaaGreatDoor.T
open Go.Proofs.YtebadfmnmhmfeaaGreatDoor.Sx Go.RowKit
set_option maxRecDepth 20000
set_option linter.unusedSimpArgs false
set_option linter.unusedVariables false
set_option linter.unnecessarySimpa false
set_option linter.unusedSectionVars false
def bad : TI:=⟨.bad,0,[],false,0⟩
def tab0 (t : Nat) : TI:=bif Nat.beq t 1 then ⟨.func,1,[(1,.nilFunc)],false,8⟩ else bif Nat.beq t 2 then ⟨(.int .i64),1,[(1,(.int .i64 0))],false,8⟩ else bif Nat.beq t 3 then ⟨(.int .i64),1,[(1,(.int .i64 0))],false,8⟩ else bif Nat.beq t 4 then ⟨.bool,1,[(1,(.bool false))],false,1⟩ else bif Nat.beq t 5 then ⟨(.int .u8),1,[(1,(.int .u8 0))],false,1⟩ else bif Nat.beq t 6 then ⟨(.int .u8),1,[(1,(.int .u8 0))],true,1⟩ else bif Nat.beq t 7 then ⟨(.struct [(0,2),(1,3),(2,4),(3,6)]),4,[(2,(.int .i64 0)),(1,(.bool false)),(1,(.int .u8 0))],false,24⟩ else bif Nat.beq t 8 then ⟨(.struct [(0,2),(1,3),(2,4),(3,6)]),4,[(2,(.int .i64 0)),(1,(.bool false)),(1,(.int .u8 0))],true,24⟩ else bif Nat.beq t 9 then ⟨.str,1,[(1,(.string ByteArray.empty))],false,16⟩ else bif Nat.beq t 10 then ⟨.str,1,[(1,(.string ByteArray.empty))],true,16⟩ else bif Nat.beq t 11 then ⟨.str,1,[(1,(.string ByteArray.empty))],true,16⟩ else bif Nat.beq t 12 then ⟨(.int .u64),1,[(1,(.int .u64 0))],false,8⟩ else bif Nat.beq t 13 then ⟨(.struct [(0,9),(1,12)]),2,[(1,(.string ByteArray.empty)),(1,(.int .u64 0))],false,24⟩ else bif Nat.beq t 14 then ⟨(.struct [(0,9),(1,12)]),2,[(1,(.string ByteArray.empty)),(1,(.int .u64 0))],true,24⟩ else bif Nat.beq t 15 then ⟨(.ptr 423),1,[(1,(.pointer none))],false,8⟩ else bad
def tab1 (t : Nat) : TI:=bif Nat.beq t 16 then ⟨(.ptr 426),1,[(1,(.pointer none))],false,8⟩ else bif Nat.beq t 17 then ⟨(.ptr 434),1,[(1,(.pointer none))],false,8⟩ else bif Nat.beq t 18 then ⟨(.struct [(0,17)]),1,[(1,(.pointer none))],false,8⟩ else bif Nat.beq t 19 then ⟨(.struct [(0,17)]),1,[(1,(.pointer none))],true,8⟩ else bif Nat.beq t 20 then ⟨.ifc,1,[(1,.nilIface)],false,16⟩ else bif Nat.beq t 21 then ⟨(.int .i32),1,[(1,(.int .i32 0))],false,4⟩ else bif Nat.beq t 22 then ⟨(.slc 28),1,[(1,(.slice none 0 0))],false,24⟩ else bif Nat.beq t 23 then ⟨.func,1,[(1,.nilFunc)],false,8⟩ else bif Nat.beq t 24 then ⟨.func,1,[(1,.nilFunc)],false,8⟩ else bif Nat.beq t 25 then ⟨(.slc 5),1,[(1,(.slice none 0 0))],false,24⟩ else bif Nat.beq t 26 then ⟨(.slc 87),1,[(1,(.slice none 0 0))],false,24⟩ else bif Nat.beq t 27 then ⟨(.struct [(0,3),(1,25),(2,3),(3,26)]),4,[(1,(.int .i64 0)),(1,(.slice none 0 0)),(1,(.int .i64 0)),(1,(.slice none 0 0))],false,64⟩ else bif Nat.beq t 28 then ⟨(.struct [(0,3),(1,25),(2,3),(3,26)]),4,[(1,(.int .i64 0)),(1,(.slice none 0 0)),(1,(.int .i64 0)),(1,(.slice none 0 0))],true,64⟩ else bif Nat.beq t 29 then ⟨(.slc 37),1,[(1,(.slice none 0 0))],false,24⟩ else bif Nat.beq t 31 then ⟨.func,1,[(1,.nilFunc)],false,8⟩ else bad
def tab2 (t : Nat) : TI:=bif Nat.beq t 32 then ⟨(.slc 39),1,[(1,(.slice none 0 0))],false,24⟩ else bif Nat.beq t 34 then ⟨.func,1,[(1,.nilFunc)],false,8⟩ else bif Nat.beq t 35 then ⟨(.int .u32),1,[(1,(.int .u32 0))],false,4⟩ else bif Nat.beq t 36 then ⟨(.struct [(0,3),(1,25),(2,35)]),3,[(1,(.int .i64 0)),(1,(.slice none 0 0)),(1,(.int .u32 0))],false,40⟩ else bif Nat.beq t 37 then ⟨(.struct [(0,3),(1,25),(2,35)]),3,[(1,(.int .i64 0)),(1,(.slice none 0 0)),(1,(.int .u32 0))],true,40⟩ else bif Nat.beq t 38 then ⟨(.struct [(0,3),(1,2),(2,2),(3,35),(4,9),(5,25)]),6,[(3,(.int .i64 0)),(1,(.int .u32 0)),(1,(.string ByteArray.empty)),(1,(.slice none 0 0))],false,72⟩ else bif Nat.beq t 39 then ⟨(.struct [(0,3),(1,2),(2,2),(3,35),(4,9),(5,25)]),6,[(3,(.int .i64 0)),(1,(.int .u32 0)),(1,(.string ByteArray.empty)),(1,(.slice none 0 0))],true,72⟩ else bif Nat.beq t 41 then ⟨.func,1,[(1,.nilFunc)],false,8⟩ else bif Nat.beq t 42 then ⟨.func,1,[(1,.nilFunc)],false,8⟩ else bif Nat.beq t 43 then ⟨(.slc 52),1,[(1,(.slice none 0 0))],false,24⟩ else bif Nat.beq t 45 then ⟨.func,1,[(1,.nilFunc)],false,8⟩ else bif Nat.beq t 46 then ⟨.func,1,[(1,.nilFunc)],false,8⟩ else bad
def tab3 (t : Nat) : TI:=bif Nat.beq t 48 then ⟨.func,1,[(1,.nilFunc)],false,8⟩ else bif Nat.beq t 49 then ⟨.func,1,[(1,.nilFunc)],false,8⟩ else bif Nat.beq t 50 then ⟨.func,1,[(1,.nilFunc)],false,8⟩ else bif Nat.beq t 51 then ⟨(.struct [(0,3),(1,25)]),2,[(1,(.int .i64 0)),(1,(.slice none 0 0))],false,32⟩ else bif Nat.beq t 52 then ⟨(.struct [(0,3),(1,25)]),2,[(1,(.int .i64 0)),(1,(.slice none 0 0))],true,32⟩ else bif Nat.beq t 53 then ⟨.func,1,[(1,.nilFunc)],false,8⟩ else bif Nat.beq t 54 then ⟨.func,1,[(1,.nilFunc)],false,8⟩ else bif Nat.beq t 55 then ⟨.func,1,[(1,.nilFunc)],false,8⟩ else bif Nat.beq t 56 then ⟨.func,1,[(1,.nilFunc)],false,8⟩ else bif Nat.beq t 57 then ⟨.func,1,[(1,.nilFunc)],false,8⟩ else bif Nat.beq t 58 then ⟨.func,1,[(1,.nilFunc)],false,8⟩ else bif Nat.beq t 59 then ⟨(.ptr 63),1,[(1,(.pointer none))],false,8⟩ else bif Nat.beq t 60 then ⟨(.map 2 166),1,[(1,(.map none))],false,8⟩ else bif Nat.beq t 61 then ⟨(.map 2 2),1,[(1,(.map none))],false,8⟩ else bif Nat.beq t 62 then ⟨(.struct [(0,60),(1,61),(2,32)]),3,[(2,(.map none)),(1,(.slice none 0 0))],false,40⟩ else bif Nat.beq t 63 then ⟨(.struct [(0,60),(1,61),(2,32)]),3,[(2,(.map none)),(1,(.slice none 0 0))],true,40⟩ else bad
def tab4 (t : Nat) : TI:=bif Nat.beq t 64 then ⟨(.ptr 129),1,[(1,(.pointer none))],false,8⟩ else bif Nat.beq t 65 then ⟨.ifc,1,[(1,.nilIface)],false,16⟩ else bif Nat.beq t 66 then ⟨.ifc,1,[(1,.nilIface)],true,16⟩ else bif Nat.beq t 68 then ⟨.func,1,[(1,.nilFunc)],false,8⟩ else bif Nat.beq t 69 then ⟨(.ptr 116),1,[(1,(.pointer none))],false,8⟩ else bif Nat.beq t 70 then ⟨.func,1,[(1,.nilFunc)],false,8⟩ else bif Nat.beq t 71 then ⟨(.ptr 118),1,[(1,(.pointer none))],false,8⟩ else bif Nat.beq t 72 then ⟨.func,1,[(1,.nilFunc)],false,8⟩ else bif Nat.beq t 73 then ⟨(.arr 20 5),20,[(20,(.int .u8 0))],false,20⟩ else bif Nat.beq t 74 then ⟨(.arr 20 5),20,[(20,(.int .u8 0))],true,20⟩ else bif Nat.beq t 76 then ⟨.func,1,[(1,.nilFunc)],false,8⟩ else bif Nat.beq t 77 then ⟨.func,1,[(1,.nilFunc)],false,8⟩ else bif Nat.beq t 78 then ⟨.func,1,[(1,.nilFunc)],false,8⟩ else bif Nat.beq t 79 then ⟨.func,1,[(1,.nilFunc)],false,8⟩ else bad
def tab5 (t : Nat) : TI:=bif Nat.beq t 80 then ⟨(.map 9 52),1,[(1,(.map none))],false,8⟩ else bif Nat.beq t 82 then ⟨.func,1,[(1,.nilFunc)],false,8⟩ else bif Nat.beq t 84 then ⟨.func,1,[(1,.nilFunc)],false,8⟩ else bif Nat.beq t 85 then ⟨(.int .u64),1,[(1,(.int .u64 0))],false,8⟩ else bif Nat.beq t 86 then ⟨(.struct [(0,4),(1,3),(2,3),(3,25),(4,3)]),5,[(1,(.bool false)),(2,(.int .i64 0)),(1,(.slice none 0 0)),(1,(.int .i64 0))],false,56⟩ else bif Nat.beq t 87 then ⟨(.struct [(0,4),(1,3),(2,3),(3,25),(4,3)]),5,[(1,(.bool false)),(2,(.int .i64 0)),(1,(.slice none 0 0)),(1,(.int .i64 0))],true,56⟩ else bif Nat.beq t 88 then ⟨.func,1,[(1,.nilFunc)],false,8⟩ else bif Nat.beq t 89 then ⟨(.slc 9),1,[(1,(.slice none 0 0))],false,24⟩ else bif Nat.beq t 90 then ⟨(.int .u64),1,[(1,(.int .u64 0))],false,8⟩ else bif Nat.beq t 91 then ⟨(.arr 5 35),5,[(5,(.int .u32 0))],false,20⟩ else bif Nat.beq t 92 then ⟨(.arr 80 35),80,[(80,(.int .u32 0))],false,320⟩ else bif Nat.beq t 93 then ⟨.func,1,[(1,.nilFunc)],false,8⟩ else bif Nat.beq t 94 then ⟨(.slc 209),1,[(1,(.slice none 0 0))],false,24⟩ else bif Nat.beq t 95 then ⟨.func,1,[(1,.nilFunc)],false,8⟩ else bad
def tab6 (t : Nat) : TI:=bif Nat.beq t 96 then ⟨.ifc,1,[(1,.nilIface)],false,16⟩ else bif Nat.beq t 97 then ⟨.ifc,1,[(1,.nilIface)],true,16⟩ else bif Nat.beq t 98 then ⟨.ifc,1,[(1,.nilIface)],false,16⟩ else bif Nat.beq t 99 then ⟨.ifc,1,[(1,.nilIface)],true,16⟩ else bif Nat.beq t 101 then ⟨(.ptr 103),1,[(1,(.pointer none))],false,8⟩ else bif Nat.beq t 102 then ⟨(.struct [(0,35)]),1,[(1,(.int .u32 0))],false,4⟩ else bif Nat.beq t 103 then ⟨(.struct [(0,35)]),1,[(1,(.int .u32 0))],true,4⟩ else bif Nat.beq t 104 then ⟨.ifc,1,[(1,.nilIface)],false,16⟩ else bif Nat.beq t 105 then ⟨.ifc,1,[(1,.nilIface)],true,16⟩ else bif Nat.beq t 106 then ⟨.func,1,[(1,.nilFunc)],false,8⟩ else bif Nat.beq t 107 then ⟨(.ptr 150),1,[(1,(.pointer none))],false,8⟩ else bif Nat.beq t 108 then ⟨.func,1,[(1,.nilFunc)],false,8⟩ else bif Nat.beq t 109 then ⟨.ifc,1,[(1,.nilIface)],false,16⟩ else bif Nat.beq t 110 then ⟨.ifc,1,[(1,.nilIface)],true,16⟩ else bif Nat.beq t 111 then ⟨.func,1,[(1,.nilFunc)],false,8⟩ else bad
def tab7 (t : Nat) : TI:=bif Nat.beq t 112 then ⟨.ifc,1,[(1,.nilIface)],false,16⟩ else bif Nat.beq t 113 then ⟨.ifc,1,[(1,.nilIface)],true,16⟩ else bif Nat.beq t 114 then ⟨(.ptr 168),1,[(1,(.pointer none))],false,8⟩ else bif Nat.beq t 115 then ⟨(.struct [(0,107),(1,113),(2,105),(3,114),(4,35),(5,35),(6,4)]),7,[(1,(.pointer none)),(2,.nilIface),(1,(.pointer none)),(2,(.int .u32 0)),(1,(.bool false))],false,64⟩ else bif Nat.beq t 116 then ⟨(.struct [(0,107),(1,113),(2,105),(3,114),(4,35),(5,35),(6,4)]),7,[(1,(.pointer none)),(2,.nilIface),(1,(.pointer none)),(2,(.int .u32 0)),(1,(.bool false))],true,64⟩ else bif Nat.beq t 117 then ⟨(.struct [(0,25),(1,2),(2,3)]),3,[(1,(.slice none 0 0)),(2,(.int .i64 0))],false,40⟩ else bif Nat.beq t 118 then ⟨(.struct [(0,25),(1,2),(2,3)]),3,[(1,(.slice none 0 0)),(2,(.int .i64 0))],true,40⟩ else bif Nat.beq t 119 then ⟨.func,1,[(1,.nilFunc)],false,8⟩ else bif Nat.beq t 120 then ⟨.func,1,[(1,.nilFunc)],false,8⟩ else bif Nat.beq t 121 then ⟨.ifc,1,[(1,.nilIface)],false,16⟩ else bif Nat.beq t 122 then ⟨.ifc,1,[(1,.nilIface)],true,16⟩ else bif Nat.beq t 123 then ⟨(.slc 165),1,[(1,(.slice none 0 0))],false,24⟩ else bif Nat.beq t 124 then ⟨(.map 74 165),1,[(1,(.map none))],false,8⟩ else bif Nat.beq t 125 then ⟨(.map 2 165),1,[(1,(.map none))],false,8⟩ else bif Nat.beq t 126 then ⟨(.ptr 225),1,[(1,(.pointer none))],false,8⟩ else bif Nat.beq t 127 then ⟨(.map 2 25),1,[(1,(.map none))],false,8⟩ else bad
def tab8 (t : Nat) : TI:=bif Nat.beq t 128 then ⟨(.struct [(0,122),(1,69),(2,35),(3,123),(4,124),(5,125),(6,126),(7,127),(8,94)]),9,[(1,.nilIface),(1,(.pointer none)),(1,(.int .u32 0)),(1,(.slice none 0 0)),(2,(.map none)),(1,(.pointer none)),(1,(.map none)),(1,(.slice none 0 0))],false,112⟩ else bif Nat.beq t 129 then ⟨(.struct [(0,122),(1,69),(2,35),(3,123),(4,124),(5,125),(6,126),(7,127),(8,94)]),9,[(1,.nilIface),(1,(.pointer none)),(1,(.int .u32 0)),(1,(.slice none 0 0)),(2,(.map none)),(1,(.pointer none)),(1,(.map none)),(1,(.slice none 0 0))],true,112⟩ else bif Nat.beq t 130 then ⟨.func,1,[(1,.nilFunc)],false,8⟩ else bif Nat.beq t 131 then ⟨.func,1,[(1,.nilFunc)],false,8⟩ else bif Nat.beq t 132 then ⟨.func,1,[(1,.nilFunc)],false,8⟩ else bif Nat.beq t 133 then ⟨.func,1,[(1,.nilFunc)],false,8⟩ else bif Nat.beq t 134 then ⟨(.ptr 138),1,[(1,(.pointer none))],false,8⟩ else bif Nat.beq t 135 then ⟨(.int .i8),1,[(1,(.int .i8 0))],false,1⟩ else bif Nat.beq t 136 then ⟨(.int .i8),1,[(1,(.int .i8 0))],true,1⟩ else bif Nat.beq t 137 then ⟨(.struct [(0,25),(1,3),(2,136)]),3,[(1,(.slice none 0 0)),(1,(.int .i64 0)),(1,(.int .i8 0))],false,40⟩ else bif Nat.beq t 138 then ⟨(.struct [(0,25),(1,3),(2,136)]),3,[(1,(.slice none 0 0)),(1,(.int .i64 0)),(1,(.int .i8 0))],true,40⟩ else bif Nat.beq t 139 then ⟨.func,1,[(1,.nilFunc)],false,8⟩ else bif Nat.beq t 140 then ⟨.func,1,[(1,.nilFunc)],false,8⟩ else bif Nat.beq t 141 then ⟨.func,1,[(1,.nilFunc)],false,8⟩ else bif Nat.beq t 142 then ⟨(.ptr 144),1,[(1,(.pointer none))],false,8⟩ else bif Nat.beq t 143 then ⟨(.struct [(0,91),(5,25),(6,90)]),7,[(5,(.int .u32 0)),(1,(.slice none 0 0)),(1,(.int .u64 0))],false,56⟩ else bad
def tab9 (t : Nat) : TI:=bif Nat.beq t 144 then ⟨(.struct [(0,91),(5,25),(6,90)]),7,[(5,(.int .u32 0)),(1,(.slice none 0 0)),(1,(.int .u64 0))],true,56⟩ else bif Nat.beq t 145 then ⟨(.ptr 273),1,[(1,(.pointer none))],false,8⟩ else bif Nat.beq t 146 then ⟨.func,1,[(1,.nilFunc)],false,8⟩ else bif Nat.beq t 147 then ⟨(.ptr 229),1,[(1,(.pointer none))],false,8⟩ else bif Nat.beq t 148 then ⟨.func,1,[(1,.nilFunc)],false,8⟩ else bif Nat.beq t 149 then ⟨(.struct [(0,97),(1,110),(2,145),(3,147),(4,2)]),5,[(2,.nilIface),(2,(.pointer none)),(1,(.int .i64 0))],false,56⟩ else bif Nat.beq t 150 then ⟨(.struct [(0,97),(1,110),(2,145),(3,147),(4,2)]),5,[(2,.nilIface),(2,(.pointer none)),(1,(.int .i64 0))],true,56⟩ else bif Nat.beq t 151 then ⟨.func,1,[(1,.nilFunc)],false,8⟩ else bif Nat.beq t 152 then ⟨(.slc 110),1,[(1,(.slice none 0 0))],false,24⟩ else bif Nat.beq t 153 then ⟨(.ptr 156),1,[(1,(.pointer none))],false,8⟩ else bif Nat.beq t 155 then ⟨(.struct [(0,152)]),1,[(1,(.slice none 0 0))],false,24⟩ else bif Nat.beq t 156 then ⟨(.struct [(0,152)]),1,[(1,(.slice none 0 0))],true,24⟩ else bif Nat.beq t 158 then ⟨.func,1,[(1,.nilFunc)],false,8⟩ else bif Nat.beq t 159 then ⟨.func,1,[(1,.nilFunc)],false,8⟩ else bad
def tab10 (t : Nat) : TI:=bif Nat.beq t 160 then ⟨.func,1,[(1,.nilFunc)],false,8⟩ else bif Nat.beq t 161 then ⟨.func,1,[(1,.nilFunc)],false,8⟩ else bif Nat.beq t 162 then ⟨.func,1,[(1,.nilFunc)],false,8⟩ else bif Nat.beq t 164 then ⟨.func,1,[(1,.nilFunc)],false,8⟩ else bif Nat.beq t 165 then ⟨(.ptr 172),1,[(1,(.pointer none))],false,8⟩ else bif Nat.beq t 166 then ⟨(.int .i8),1,[(1,(.int .i8 0))],true,1⟩ else bif Nat.beq t 167 then ⟨(.struct [(0,166),(1,2),(2,2),(3,74),(23,2)]),24,[(1,(.int .i8 0)),(2,(.int .i64 0)),(20,(.int .u8 0)),(1,(.int .i64 0))],false,56⟩ else bif Nat.beq t 168 then ⟨(.struct [(0,166),(1,2),(2,2),(3,74),(23,2)]),24,[(1,(.int .i8 0)),(2,(.int .i64 0)),(20,(.int .u8 0)),(1,(.int .i64 0))],true,56⟩ else bif Nat.beq t 170 then ⟨.func,1,[(1,.nilFunc)],false,8⟩ else bif Nat.beq t 171 then ⟨(.struct [(0,2),(1,2),(2,166),(3,166),(4,4),(5,35),(6,165),(7,123),(8,74)]),28,[(2,(.int .i64 0)),(2,(.int .i8 0)),(1,(.bool false)),(1,(.int .u32 0)),(1,(.pointer none)),(1,(.slice none 0 0)),(20,(.int .u8 0))],false,80⟩ else bif Nat.beq t 172 then ⟨(.struct [(0,2),(1,2),(2,166),(3,166),(4,4),(5,35),(6,165),(7,123),(8,74)]),28,[(2,(.int .i64 0)),(2,(.int .i8 0)),(1,(.bool false)),(1,(.int .u32 0)),(1,(.pointer none)),(1,(.slice none 0 0)),(20,(.int .u8 0))],true,80⟩ else bif Nat.beq t 173 then ⟨.func,1,[(1,.nilFunc)],false,8⟩ else bif Nat.beq t 174 then ⟨(.struct [(0,105)]),1,[(1,.nilIface)],false,16⟩ else bif Nat.beq t 175 then ⟨(.struct [(0,105)]),1,[(1,.nilIface)],true,16⟩ else bad
def tab11 (t : Nat) : TI:=bif Nat.beq t 176 then ⟨.func,1,[(1,.nilFunc)],false,8⟩ else bif Nat.beq t 177 then ⟨(.ptr 188),1,[(1,(.pointer none))],false,8⟩ else bif Nat.beq t 178 then ⟨.ifc,1,[(1,.nilIface)],false,16⟩ else bif Nat.beq t 179 then ⟨.ifc,1,[(1,.nilIface)],true,16⟩ else bif Nat.beq t 181 then ⟨.ifc,1,[(1,.nilIface)],false,16⟩ else bif Nat.beq t 182 then ⟨.ifc,1,[(1,.nilIface)],true,16⟩ else bif Nat.beq t 183 then ⟨.func,1,[(1,.nilFunc)],false,8⟩ else bif Nat.beq t 184 then ⟨.func,1,[(1,.nilFunc)],true,8⟩ else bif Nat.beq t 186 then ⟨.func,1,[(1,.nilFunc)],false,8⟩ else bif Nat.beq t 187 then ⟨(.struct [(0,166),(1,74),(21,25),(22,2)]),23,[(1,(.int .i8 0)),(20,(.int .u8 0)),(1,(.slice none 0 0)),(1,(.int .i64 0))],false,56⟩ else bif Nat.beq t 188 then ⟨(.struct [(0,166),(1,74),(21,25),(22,2)]),23,[(1,(.int .i8 0)),(20,(.int .u8 0)),(1,(.slice none 0 0)),(1,(.int .i64 0))],true,56⟩ else bif Nat.beq t 189 then ⟨.func,1,[(1,.nilFunc)],false,8⟩ else bif Nat.beq t 190 then ⟨.func,1,[(1,.nilFunc)],false,8⟩ else bif Nat.beq t 191 then ⟨.func,1,[(1,.nilFunc)],false,8⟩ else bad
def tab12 (t : Nat) : TI:=bif Nat.beq t 192 then ⟨.func,1,[(1,.nilFunc)],false,8⟩ else bif Nat.beq t 194 then ⟨.func,1,[(1,.nilFunc)],false,8⟩ else bif Nat.beq t 195 then ⟨.func,1,[(1,.nilFunc)],false,8⟩ else bif Nat.beq t 196 then ⟨.func,1,[(1,.nilFunc)],false,8⟩ else bif Nat.beq t 197 then ⟨.func,1,[(1,.nilFunc)],false,8⟩ else bif Nat.beq t 198 then ⟨.func,1,[(1,.nilFunc)],false,8⟩ else bif Nat.beq t 199 then ⟨.func,1,[(1,.nilFunc)],false,8⟩ else bif Nat.beq t 200 then ⟨.func,1,[(1,.nilFunc)],false,8⟩ else bif Nat.beq t 201 then ⟨.func,1,[(1,.nilFunc)],false,8⟩ else bif Nat.beq t 202 then ⟨.func,1,[(1,.nilFunc)],false,8⟩ else bif Nat.beq t 203 then ⟨(.ptr 205),1,[(1,(.pointer none))],false,8⟩ else bif Nat.beq t 204 then ⟨(.struct []),0,[],false,0⟩ else bif Nat.beq t 205 then ⟨(.struct []),0,[],true,0⟩ else bif Nat.beq t 206 then ⟨.func,1,[(1,.nilFunc)],false,8⟩ else bif Nat.beq t 207 then ⟨.func,1,[(1,.nilFunc)],false,8⟩ else bad
def tab13 (t : Nat) : TI:=bif Nat.beq t 208 then ⟨.ifc,1,[(1,.nilIface)],false,16⟩ else bif Nat.beq t 209 then ⟨.ifc,1,[(1,.nilIface)],true,16⟩ else bif Nat.beq t 210 then ⟨.func,1,[(1,.nilFunc)],false,8⟩ else bif Nat.beq t 211 then ⟨.func,1,[(1,.nilFunc)],false,8⟩ else bif Nat.beq t 212 then ⟨.func,1,[(1,.nilFunc)],false,8⟩ else bif Nat.beq t 214 then ⟨.func,1,[(1,.nilFunc)],false,8⟩ else bif Nat.beq t 215 then ⟨.func,1,[(1,.nilFunc)],false,8⟩ else bif Nat.beq t 216 then ⟨.func,1,[(1,.nilFunc)],false,8⟩ else bif Nat.beq t 217 then ⟨.func,1,[(1,.nilFunc)],false,8⟩ else bif Nat.beq t 218 then ⟨.func,1,[(1,.nilFunc)],false,8⟩ else bif Nat.beq t 220 then ⟨.func,1,[(1,.nilFunc)],false,8⟩ else bif Nat.beq t 221 then ⟨(.int .i64),1,[(1,(.int .i64 0))],true,8⟩ else bif Nat.beq t 222 then ⟨(.ptr 337),1,[(1,(.pointer none))],false,8⟩ else bif Nat.beq t 223 then ⟨(.map 2 305),1,[(1,(.map none))],false,8⟩ else bad
def tab14 (t : Nat) : TI:=bif Nat.beq t 224 then ⟨(.struct [(0,221),(1,221),(2,222),(3,223)]),4,[(2,(.int .i64 0)),(1,(.pointer none)),(1,(.map none))],false,32⟩ else bif Nat.beq t 225 then ⟨(.struct [(0,221),(1,221),(2,222),(3,223)]),4,[(2,(.int .i64 0)),(1,(.pointer none)),(1,(.map none))],true,32⟩ else bif Nat.beq t 226 then ⟨.func,1,[(1,.nilFunc)],false,8⟩ else bif Nat.beq t 228 then ⟨(.struct [(0,66),(1,25),(2,3),(3,110)]),4,[(1,.nilIface),(1,(.slice none 0 0)),(1,(.int .i64 0)),(1,.nilIface)],false,64⟩ else bif Nat.beq t 229 then ⟨(.struct [(0,66),(1,25),(2,3),(3,110)]),4,[(1,.nilIface),(1,(.slice none 0 0)),(1,(.int .i64 0)),(1,.nilIface)],true,64⟩ else bif Nat.beq t 230 then ⟨.func,1,[(1,.nilFunc)],false,8⟩ else bif Nat.beq t 232 then ⟨.func,1,[(1,.nilFunc)],false,8⟩ else bif Nat.beq t 233 then ⟨.func,1,[(1,.nilFunc)],false,8⟩ else bif Nat.beq t 234 then ⟨.func,1,[(1,.nilFunc)],false,8⟩ else bif Nat.beq t 236 then ⟨.func,1,[(1,.nilFunc)],false,8⟩ else bif Nat.beq t 237 then ⟨.func,1,[(1,.nilFunc)],false,8⟩ else bif Nat.beq t 238 then ⟨.func,1,[(1,.nilFunc)],false,8⟩ else bif Nat.beq t 239 then ⟨.func,1,[(1,.nilFunc)],false,8⟩ else bad
def tab15 (t : Nat) : TI:=bif Nat.beq t 240 then ⟨.func,1,[(1,.nilFunc)],false,8⟩ else bif Nat.beq t 241 then ⟨.func,1,[(1,.nilFunc)],false,8⟩ else bif Nat.beq t 242 then ⟨.func,1,[(1,.nilFunc)],false,8⟩ else bif Nat.beq t 243 then ⟨.func,1,[(1,.nilFunc)],false,8⟩ else bif Nat.beq t 244 then ⟨.ifc,1,[(1,.nilIface)],false,16⟩ else bif Nat.beq t 245 then ⟨.ifc,1,[(1,.nilIface)],true,16⟩ else bif Nat.beq t 247 then ⟨.func,1,[(1,.nilFunc)],false,8⟩ else bif Nat.beq t 248 then ⟨.func,1,[(1,.nilFunc)],false,8⟩ else bif Nat.beq t 249 then ⟨.ifc,1,[(1,.nilIface)],false,16⟩ else bif Nat.beq t 250 then ⟨.ifc,1,[(1,.nilIface)],true,16⟩ else bif Nat.beq t 252 then ⟨.func,1,[(1,.nilFunc)],false,8⟩ else bif Nat.beq t 253 then ⟨.func,1,[(1,.nilFunc)],false,8⟩ else bif Nat.beq t 254 then ⟨(.ptr 66),1,[(1,(.pointer none))],false,8⟩ else bif Nat.beq t 255 then ⟨.func,1,[(1,.nilFunc)],false,8⟩ else bad
def tab16 (t : Nat) : TI:=bif Nat.beq t 256 then ⟨.func,1,[(1,.nilFunc)],false,8⟩ else bif Nat.beq t 257 then ⟨.func,1,[(1,.nilFunc)],false,8⟩ else bif Nat.beq t 258 then ⟨.func,1,[(1,.nilFunc)],false,8⟩ else bif Nat.beq t 259 then ⟨.func,1,[(1,.nilFunc)],false,8⟩ else bif Nat.beq t 260 then ⟨.func,1,[(1,.nilFunc)],false,8⟩ else bif Nat.beq t 261 then ⟨.ifc,1,[(1,.nilIface)],false,16⟩ else bif Nat.beq t 262 then ⟨.ifc,1,[(1,.nilIface)],true,16⟩ else bif Nat.beq t 264 then ⟨.func,1,[(1,.nilFunc)],false,8⟩ else bif Nat.beq t 265 then ⟨.func,1,[(1,.nilFunc)],false,8⟩ else bif Nat.beq t 266 then ⟨(.slc 268),1,[(1,(.slice none 0 0))],false,24⟩ else bif Nat.beq t 267 then ⟨(.struct [(0,5),(1,85)]),2,[(1,(.int .u8 0)),(1,(.int .u64 0))],false,16⟩ else bif Nat.beq t 268 then ⟨(.struct [(0,5),(1,85)]),2,[(1,(.int .u8 0)),(1,(.int .u64 0))],true,16⟩ else bif Nat.beq t 270 then ⟨.func,1,[(1,.nilFunc)],false,8⟩ else bad
def tab17 (t : Nat) : TI:=bif Nat.beq t 272 then ⟨(.struct [(0,25),(1,97),(2,3),(3,3),(4,66),(5,3),(6,3)]),7,[(1,(.slice none 0 0)),(1,.nilIface),(2,(.int .i64 0)),(1,.nilIface),(2,(.int .i64 0))],false,88⟩ else bif Nat.beq t 273 then ⟨(.struct [(0,25),(1,97),(2,3),(3,3),(4,66),(5,3),(6,3)]),7,[(1,(.slice none 0 0)),(1,.nilIface),(2,(.int .i64 0)),(1,.nilIface),(2,(.int .i64 0))],true,88⟩ else bif Nat.beq t 274 then ⟨.func,1,[(1,.nilFunc)],false,8⟩ else bif Nat.beq t 275 then ⟨.func,1,[(1,.nilFunc)],false,8⟩ else bif Nat.beq t 276 then ⟨.func,1,[(1,.nilFunc)],false,8⟩ else bif Nat.beq t 278 then ⟨.func,1,[(1,.nilFunc)],false,8⟩ else bif Nat.beq t 279 then ⟨.func,1,[(1,.nilFunc)],false,8⟩ else bif Nat.beq t 280 then ⟨(.struct [(0,250)]),1,[(1,.nilIface)],false,16⟩ else bif Nat.beq t 281 then ⟨(.struct [(0,250)]),1,[(1,.nilIface)],true,16⟩ else bif Nat.beq t 283 then ⟨.func,1,[(1,.nilFunc)],false,8⟩ else bif Nat.beq t 284 then ⟨.func,1,[(1,.nilFunc)],false,8⟩ else bif Nat.beq t 285 then ⟨(.ptr 287),1,[(1,(.pointer none))],false,8⟩ else bif Nat.beq t 286 then ⟨(.struct [(0,110),(1,2),(2,2)]),3,[(1,.nilIface),(2,(.int .i64 0))],false,32⟩ else bif Nat.beq t 287 then ⟨(.struct [(0,110),(1,2),(2,2)]),3,[(1,.nilIface),(2,(.int .i64 0))],true,32⟩ else bad
def tab18 (t : Nat) : TI:=bif Nat.beq t 288 then ⟨(.ptr 25),1,[(1,(.pointer none))],false,8⟩ else bif Nat.beq t 289 then ⟨.func,1,[(1,.nilFunc)],false,8⟩ else bif Nat.beq t 290 then ⟨.func,1,[(1,.nilFunc)],false,8⟩ else bif Nat.beq t 291 then ⟨.func,1,[(1,.nilFunc)],false,8⟩ else bif Nat.beq t 292 then ⟨(.ptr 294),1,[(1,(.pointer none))],false,8⟩ else bif Nat.beq t 293 then ⟨(.struct [(0,9)]),1,[(1,(.string ByteArray.empty))],false,16⟩ else bif Nat.beq t 294 then ⟨(.struct [(0,9)]),1,[(1,(.string ByteArray.empty))],true,16⟩ else bif Nat.beq t 295 then ⟨(.ptr 5),1,[(1,(.pointer none))],false,8⟩ else bif Nat.beq t 297 then ⟨.func,1,[(1,.nilFunc)],false,8⟩ else bif Nat.beq t 298 then ⟨(.ptr 299),1,[(1,(.pointer none))],false,8⟩ else bif Nat.beq t 299 then ⟨(.int .u16),1,[(1,(.int .u16 0))],false,2⟩ else bif Nat.beq t 300 then ⟨(.ptr 35),1,[(1,(.pointer none))],false,8⟩ else bif Nat.beq t 301 then ⟨(.ptr 90),1,[(1,(.pointer none))],false,8⟩ else bif Nat.beq t 302 then ⟨(.ptr 303),1,[(1,(.pointer none))],false,8⟩ else bif Nat.beq t 303 then ⟨(.int .u32),1,[(1,(.int .u32 0))],true,4⟩ else bad
def tab19 (t : Nat) : TI:=bif Nat.beq t 304 then ⟨(.ptr 74),1,[(1,(.pointer none))],false,8⟩ else bif Nat.beq t 305 then ⟨(.ptr 311),1,[(1,(.pointer none))],false,8⟩ else bif Nat.beq t 307 then ⟨.func,1,[(1,.nilFunc)],false,8⟩ else bif Nat.beq t 308 then ⟨(.struct [(0,2),(1,25)]),2,[(1,(.int .i64 0)),(1,(.slice none 0 0))],false,32⟩ else bif Nat.beq t 309 then ⟨(.struct [(0,2),(1,25)]),2,[(1,(.int .i64 0)),(1,(.slice none 0 0))],true,32⟩ else bif Nat.beq t 310 then ⟨(.struct [(0,305),(1,305),(2,222),(3,20)]),4,[(3,(.pointer none)),(1,.nilIface)],false,40⟩ else bif Nat.beq t 311 then ⟨(.struct [(0,305),(1,305),(2,222),(3,20)]),4,[(3,(.pointer none)),(1,.nilIface)],true,40⟩ else bif Nat.beq t 312 then ⟨.ifc,1,[(1,.nilIface)],false,16⟩ else bif Nat.beq t 313 then ⟨.ifc,1,[(1,.nilIface)],true,16⟩ else bif Nat.beq t 314 then ⟨(.ptr 316),1,[(1,(.pointer none))],false,8⟩ else bif Nat.beq t 315 then ⟨(.struct [(0,97),(1,2)]),2,[(1,.nilIface),(1,(.int .i64 0))],false,24⟩ else bif Nat.beq t 316 then ⟨(.struct [(0,97),(1,2)]),2,[(1,.nilIface),(1,(.int .i64 0))],true,24⟩ else bif Nat.beq t 317 then ⟨.func,1,[(1,.nilFunc)],false,8⟩ else bif Nat.beq t 318 then ⟨.func,1,[(1,.nilFunc)],false,8⟩ else bif Nat.beq t 319 then ⟨.func,1,[(1,.nilFunc)],false,8⟩ else bad
def tab20 (t : Nat) : TI:=bif Nat.beq t 320 then ⟨.func,1,[(1,.nilFunc)],false,8⟩ else bif Nat.beq t 321 then ⟨.func,1,[(1,.nilFunc)],false,8⟩ else bif Nat.beq t 323 then ⟨.func,1,[(1,.nilFunc)],false,8⟩ else bif Nat.beq t 324 then ⟨.func,1,[(1,.nilFunc)],false,8⟩ else bif Nat.beq t 326 then ⟨.func,1,[(1,.nilFunc)],false,8⟩ else bif Nat.beq t 327 then ⟨.func,1,[(1,.nilFunc)],false,8⟩ else bif Nat.beq t 328 then ⟨.func,1,[(1,.nilFunc)],false,8⟩ else bif Nat.beq t 329 then ⟨(.arr 24 5),24,[(24,(.int .u8 0))],false,24⟩ else bif Nat.beq t 330 then ⟨.func,1,[(1,.nilFunc)],false,8⟩ else bif Nat.beq t 331 then ⟨.func,1,[(1,.nilFunc)],false,8⟩ else bif Nat.beq t 333 then ⟨.func,1,[(1,.nilFunc)],false,8⟩ else bif Nat.beq t 334 then ⟨.func,1,[(1,.nilFunc)],false,8⟩ else bif Nat.beq t 335 then ⟨(.arr 8 5),8,[(8,(.int .u8 0))],false,8⟩ else bad
def tab21 (t : Nat) : TI:=bif Nat.beq t 336 then ⟨(.struct [(0,311),(4,3)]),5,[(3,(.pointer none)),(1,.nilIface),(1,(.int .i64 0))],false,48⟩ else bif Nat.beq t 337 then ⟨(.struct [(0,311),(4,3)]),5,[(3,(.pointer none)),(1,.nilIface),(1,(.int .i64 0))],true,48⟩ else bif Nat.beq t 338 then ⟨.func,1,[(1,.nilFunc)],false,8⟩ else bif Nat.beq t 339 then ⟨.func,1,[(1,.nilFunc)],false,8⟩ else bif Nat.beq t 341 then ⟨.func,1,[(1,.nilFunc)],false,8⟩ else bif Nat.beq t 343 then ⟨(.ptr 368),1,[(1,(.pointer none))],false,8⟩ else bif Nat.beq t 344 then ⟨.func,1,[(1,.nilFunc)],false,8⟩ else bif Nat.beq t 346 then ⟨.func,1,[(1,.nilFunc)],false,8⟩ else bif Nat.beq t 347 then ⟨.func,1,[(1,.nilFunc)],false,8⟩ else bif Nat.beq t 348 then ⟨.func,1,[(1,.nilFunc)],false,8⟩ else bif Nat.beq t 349 then ⟨(.slc 20),1,[(1,(.slice none 0 0))],false,24⟩ else bif Nat.beq t 350 then ⟨.func,1,[(1,.nilFunc)],false,8⟩ else bif Nat.beq t 351 then ⟨(.arr 20 90),20,[(20,(.int .u64 0))],false,160⟩ else bad
def tab22 (t : Nat) : TI:=bif Nat.beq t 352 then ⟨(.arr 65 5),65,[(65,(.int .u8 0))],false,65⟩ else bif Nat.beq t 353 then ⟨.func,1,[(1,.nilFunc)],false,8⟩ else bif Nat.beq t 354 then ⟨.func,1,[(1,.nilFunc)],false,8⟩ else bif Nat.beq t 355 then ⟨.func,1,[(1,.nilFunc)],false,8⟩ else bif Nat.beq t 356 then ⟨.ifc,1,[(1,.nilIface)],false,16⟩ else bif Nat.beq t 357 then ⟨.ifc,1,[(1,.nilIface)],true,16⟩ else bif Nat.beq t 359 then ⟨.func,1,[(1,.nilFunc)],false,8⟩ else bif Nat.beq t 360 then ⟨.ifc,1,[(1,.nilIface)],false,16⟩ else bif Nat.beq t 361 then ⟨.ifc,1,[(1,.nilIface)],true,16⟩ else bif Nat.beq t 364 then ⟨.func,1,[(1,.nilFunc)],false,8⟩ else bif Nat.beq t 365 then ⟨.ifc,1,[(1,.nilIface)],false,16⟩ else bif Nat.beq t 366 then ⟨.ifc,1,[(1,.nilIface)],true,16⟩ else bif Nat.beq t 367 then ⟨(.struct [(0,262),(1,2),(2,2),(3,2),(4,2)]),5,[(1,.nilIface),(4,(.int .i64 0))],false,48⟩ else bad
def tab23 (t : Nat) : TI:=bif Nat.beq t 368 then ⟨(.struct [(0,262),(1,2),(2,2),(3,2),(4,2)]),5,[(1,.nilIface),(4,(.int .i64 0))],true,48⟩ else bif Nat.beq t 369 then ⟨.func,1,[(1,.nilFunc)],false,8⟩ else bif Nat.beq t 370 then ⟨(.ptr 375),1,[(1,(.pointer none))],false,8⟩ else bif Nat.beq t 371 then ⟨.ifc,1,[(1,.nilIface)],false,16⟩ else bif Nat.beq t 372 then ⟨.ifc,1,[(1,.nilIface)],true,16⟩ else bif Nat.beq t 373 then ⟨(.arr 4 5),4,[(4,(.int .u8 0))],false,4⟩ else bif Nat.beq t 374 then ⟨(.struct [(0,372),(1,250),(2,113),(3,66),(4,373)]),8,[(4,.nilIface),(4,(.int .u8 0))],false,72⟩ else bif Nat.beq t 375 then ⟨(.struct [(0,372),(1,250),(2,113),(3,66),(4,373)]),8,[(4,.nilIface),(4,(.int .u8 0))],true,72⟩ else bif Nat.beq t 376 then ⟨.func,1,[(1,.nilFunc)],false,8⟩ else bif Nat.beq t 377 then ⟨(.arr 32 5),32,[(32,(.int .u8 0))],false,32⟩ else bif Nat.beq t 378 then ⟨(.arr 64 5),64,[(64,(.int .u8 0))],false,64⟩ else bif Nat.beq t 380 then ⟨(.struct []),0,[],true,0⟩ else bif Nat.beq t 381 then ⟨.func,1,[(1,.nilFunc)],false,8⟩ else bif Nat.beq t 382 then ⟨.func,1,[(1,.nilFunc)],false,8⟩ else bif Nat.beq t 383 then ⟨.func,1,[(1,.nilFunc)],false,8⟩ else bad
def tab24 (t : Nat) : TI:=bif Nat.beq t 384 then ⟨.ifc,1,[(1,.nilIface)],false,16⟩ else bif Nat.beq t 385 then ⟨.ifc,1,[(1,.nilIface)],true,16⟩ else bif Nat.beq t 386 then ⟨.func,1,[(1,.nilFunc)],false,8⟩ else bif Nat.beq t 387 then ⟨(.int .u32),1,[(1,(.int .u32 0))],true,4⟩ else bif Nat.beq t 388 then ⟨.func,1,[(1,.nilFunc)],false,8⟩ else bif Nat.beq t 389 then ⟨(.arr 512 35),512,[(512,(.int .u32 0))],false,2048⟩ else bif Nat.beq t 390 then ⟨(.slc 419),1,[(1,(.slice none 0 0))],false,24⟩ else bif Nat.beq t 391 then ⟨(.struct [(0,3),(1,389),(513,390),(514,35)]),515,[(1,(.int .i64 0)),(512,(.int .u32 0)),(1,(.slice none 0 0)),(1,(.int .u32 0))],false,2088⟩ else bif Nat.beq t 392 then ⟨(.struct [(0,3),(1,389),(513,390),(514,35)]),515,[(1,(.int .i64 0)),(512,(.int .u32 0)),(1,(.slice none 0 0)),(1,(.int .u32 0))],true,2088⟩ else bif Nat.beq t 393 then ⟨(.ptr 401),1,[(1,(.pointer none))],false,8⟩ else bif Nat.beq t 394 then ⟨(.ptr 402),1,[(1,(.pointer none))],false,8⟩ else bif Nat.beq t 395 then ⟨(.struct [(0,25),(1,3),(2,3),(3,4)]),4,[(1,(.slice none 0 0)),(2,(.int .i64 0)),(1,(.bool false))],false,48⟩ else bif Nat.beq t 396 then ⟨(.struct [(0,25),(1,3),(2,3),(3,4)]),4,[(1,(.slice none 0 0)),(2,(.int .i64 0)),(1,(.bool false))],true,48⟩ else bif Nat.beq t 397 then ⟨.func,1,[(1,.nilFunc)],false,8⟩ else bif Nat.beq t 398 then ⟨(.ptr 392),1,[(1,(.pointer none))],false,8⟩ else bif Nat.beq t 399 then ⟨(.struct [(0,372),(1,145),(2,2),(3,35),(4,85),(5,392),(520,392),(1035,393),(1036,394),(1037,396),(1041,373),(1045,397),(1046,3),(1047,4),(1048,66),(1049,25),(1050,398),(1051,398),(1052,3),(1053,3)]),1054,[(1,.nilIface),(1,(.pointer none)),(1,(.int .i64 0)),(1,(.int .u32 0)),(1,(.int .u64 0)),(1,(.int .i64 0)),(512,(.int .u32 0)),(1,(.slice none 0 0)),(1,(.int .u32 0)),(1,(.int .i64 0)),(512,(.int .u32 0)),(1,(.slice none 0 0)),(1,(.int .u32 0)),(2,(.pointer none)),(1,(.slice none 0 0)),(2,(.int .i64 0)),(1,(.bool false)),(4,(.int .u8 0)),(1,.nilFunc),(1,(.int .i64 0)),(1,(.bool false)),(1,.nilIface),(1,(.slice none 0 0)),(2,(.pointer none)),(2,(.int .i64 0))],false,4392⟩ else bad
def tab25 (t : Nat) : TI:=bif Nat.beq t 400 then ⟨(.struct [(0,372),(1,145),(2,2),(3,35),(4,85),(5,392),(520,392),(1035,393),(1036,394),(1037,396),(1041,373),(1045,397),(1046,3),(1047,4),(1048,66),(1049,25),(1050,398),(1051,398),(1052,3),(1053,3)]),1054,[(1,.nilIface),(1,(.pointer none)),(1,(.int .i64 0)),(1,(.int .u32 0)),(1,(.int .u64 0)),(1,(.int .i64 0)),(512,(.int .u32 0)),(1,(.slice none 0 0)),(1,(.int .u32 0)),(1,(.int .i64 0)),(512,(.int .u32 0)),(1,(.slice none 0 0)),(1,(.int .u32 0)),(2,(.pointer none)),(1,(.slice none 0 0)),(2,(.int .i64 0)),(1,(.bool false)),(4,(.int .u8 0)),(1,.nilFunc),(1,(.int .i64 0)),(1,(.bool false)),(1,.nilIface),(1,(.slice none 0 0)),(2,(.pointer none)),(2,(.int .i64 0))],true,4392⟩ else bif Nat.beq t 401 then ⟨(.arr 316 3),316,[(316,(.int .i64 0))],false,2528⟩ else bif Nat.beq t 402 then ⟨(.arr 19 3),19,[(19,(.int .i64 0))],false,152⟩ else bif Nat.beq t 403 then ⟨(.ptr 400),1,[(1,(.pointer none))],false,8⟩ else bif Nat.beq t 404 then ⟨.func,1,[(1,.nilFunc)],false,8⟩ else bif Nat.beq t 405 then ⟨(.ptr 387),1,[(1,(.pointer none))],false,8⟩ else bif Nat.beq t 406 then ⟨.func,1,[(1,.nilFunc)],false,8⟩ else bif Nat.beq t 407 then ⟨(.int .i64),1,[(1,(.int .i64 0))],true,8⟩ else bif Nat.beq t 408 then ⟨(.ptr 396),1,[(1,(.pointer none))],false,8⟩ else bif Nat.beq t 409 then ⟨(.arr 288 3),288,[(288,(.int .i64 0))],false,2304⟩ else bif Nat.beq t 410 then ⟨.func,1,[(1,.nilFunc)],false,8⟩ else bif Nat.beq t 411 then ⟨(.slc 3),1,[(1,(.slice none 0 0))],false,24⟩ else bif Nat.beq t 412 then ⟨.func,1,[(1,.nilFunc)],false,8⟩ else bif Nat.beq t 413 then ⟨.func,1,[(1,.nilFunc)],false,8⟩ else bif Nat.beq t 414 then ⟨.func,1,[(1,.nilFunc)],false,8⟩ else bif Nat.beq t 415 then ⟨.func,1,[(1,.nilFunc)],false,8⟩ else bad
def tab26 (t : Nat) : TI:=bif Nat.beq t 416 then ⟨.str,1,[(1,(.string ByteArray.empty))],true,16⟩ else bif Nat.beq t 417 then ⟨(.arr 16 3),16,[(16,(.int .i64 0))],false,128⟩ else bif Nat.beq t 418 then ⟨.func,1,[(1,.nilFunc)],false,8⟩ else bif Nat.beq t 419 then ⟨(.slc 35),1,[(1,(.slice none 0 0))],false,24⟩ else bif Nat.beq t 420 then ⟨(.ptr 460),1,[(1,(.pointer none))],false,8⟩ else bif Nat.beq t 421 then ⟨(.ptr 462),1,[(1,(.pointer none))],false,8⟩ else bif Nat.beq t 422 then ⟨(.struct [(0,17),(1,17),(2,17),(3,9)]),4,[(3,(.pointer none)),(1,(.string ByteArray.empty))],false,40⟩ else bif Nat.beq t 423 then ⟨(.struct [(0,17),(1,17),(2,17),(3,9)]),4,[(3,(.pointer none)),(1,(.string ByteArray.empty))],true,40⟩ else bif Nat.beq t 424 then ⟨(.arr 0 16),0,[],false,0⟩ else bif Nat.beq t 425 then ⟨(.struct [(0,424)]),0,[],false,0⟩ else bif Nat.beq t 426 then ⟨(.struct [(0,424)]),0,[],true,0⟩ else bif Nat.beq t 427 then ⟨.func,1,[(1,.nilFunc)],false,8⟩ else bif Nat.beq t 428 then ⟨(.int .u8),1,[(1,(.int .u8 0))],true,1⟩ else bif Nat.beq t 429 then ⟨(.int .u8),1,[(1,(.int .u8 0))],true,1⟩ else bif Nat.beq t 430 then ⟨.func,1,[(1,.nilFunc)],false,8⟩ else bif Nat.beq t 431 then ⟨(.int .i32),1,[(1,(.int .i32 0))],true,4⟩ else bad
def tab27 (t : Nat) : TI:=bif Nat.beq t 432 then ⟨(.int .i32),1,[(1,(.int .i32 0))],true,4⟩ else bif Nat.beq t 433 then ⟨(.struct [(0,12),(1,12),(2,35),(3,428),(4,5),(5,5),(6,429),(7,430),(8,295),(9,431),(10,432)]),11,[(2,(.int .u64 0)),(1,(.int .u32 0)),(4,(.int .u8 0)),(1,.nilFunc),(1,(.pointer none)),(2,(.int .i32 0))],false,48⟩ else bif Nat.beq t 434 then ⟨(.struct [(0,12),(1,12),(2,35),(3,428),(4,5),(5,5),(6,429),(7,430),(8,295),(9,431),(10,432)]),11,[(2,(.int .u64 0)),(1,(.int .u32 0)),(4,(.int .u8 0)),(1,.nilFunc),(1,(.pointer none)),(2,(.int .i32 0))],true,48⟩ else bif Nat.beq t 435 then ⟨.func,1,[(1,.nilFunc)],false,8⟩ else bif Nat.beq t 436 then ⟨.func,1,[(1,.nilFunc)],false,8⟩ else bif Nat.beq t 437 then ⟨.func,1,[(1,.nilFunc)],false,8⟩ else bif Nat.beq t 438 then ⟨(.ptr 445),1,[(1,(.pointer none))],false,8⟩ else bif Nat.beq t 439 then ⟨.func,1,[(1,.nilFunc)],false,8⟩ else bif Nat.beq t 440 then ⟨(.arr 256 35),256,[(256,(.int .u32 0))],false,1024⟩ else bif Nat.beq t 441 then ⟨(.arr 256 35),256,[(256,(.int .u32 0))],true,1024⟩ else bif Nat.beq t 442 then ⟨.func,1,[(1,.nilFunc)],false,8⟩ else bif Nat.beq t 443 then ⟨(.ptr 441),1,[(1,(.pointer none))],false,8⟩ else bif Nat.beq t 444 then ⟨(.arr 8 441),2048,[(2048,(.int .u32 0))],false,8192⟩ else bif Nat.beq t 445 then ⟨(.arr 8 441),2048,[(2048,(.int .u32 0))],true,8192⟩ else bif Nat.beq t 446 then ⟨.func,1,[(1,.nilFunc)],false,8⟩ else bif Nat.beq t 447 then ⟨.func,1,[(1,.nilFunc)],false,8⟩ else bad
def tab28 (t : Nat) : TI:=bif Nat.beq t 448 then ⟨.func,1,[(1,.nilFunc)],false,8⟩ else bif Nat.beq t 449 then ⟨.func,1,[(1,.nilFunc)],false,8⟩ else bif Nat.beq t 450 then ⟨.func,1,[(1,.nilFunc)],false,8⟩ else bif Nat.beq t 451 then ⟨(.struct [(0,71)]),1,[(1,(.pointer none))],false,8⟩ else bif Nat.beq t 452 then ⟨(.struct [(0,71)]),1,[(1,(.pointer none))],true,8⟩ else bif Nat.beq t 453 then ⟨.func,1,[(1,.nilFunc)],false,8⟩ else bif Nat.beq t 454 then ⟨.func,1,[(1,.nilFunc)],false,8⟩ else bif Nat.beq t 455 then ⟨(.slc 66),1,[(1,(.slice none 0 0))],false,24⟩ else bif Nat.beq t 456 then ⟨(.ptr 458),1,[(1,(.pointer none))],false,8⟩ else bif Nat.beq t 457 then ⟨(.struct [(0,455)]),1,[(1,(.slice none 0 0))],false,24⟩ else bif Nat.beq t 458 then ⟨(.struct [(0,455)]),1,[(1,(.slice none 0 0))],true,24⟩ else bif Nat.beq t 459 then ⟨(.struct [(0,9),(1,66)]),2,[(1,(.string ByteArray.empty)),(1,.nilIface)],false,32⟩ else bif Nat.beq t 460 then ⟨(.struct [(0,9),(1,66)]),2,[(1,(.string ByteArray.empty)),(1,.nilIface)],true,32⟩ else bif Nat.beq t 461 then ⟨(.struct [(0,9),(1,455)]),2,[(1,(.string ByteArray.empty)),(1,(.slice none 0 0))],false,40⟩ else bif Nat.beq t 462 then ⟨(.struct [(0,9),(1,455)]),2,[(1,(.string ByteArray.empty)),(1,(.slice none 0 0))],true,40⟩ else bad
def tab29 (t : Nat) : TI:=bif Nat.beq t 464 then ⟨.ifc,1,[(1,.nilIface)],false,16⟩ else bif Nat.beq t 465 then ⟨.ifc,1,[(1,.nilIface)],true,16⟩ else bif Nat.beq t 466 then ⟨.func,1,[(1,.nilFunc)],false,8⟩ else bif Nat.beq t 467 then ⟨.func,1,[(1,.nilFunc)],false,8⟩ else bif Nat.beq t 468 then ⟨.func,1,[(1,.nilFunc)],false,8⟩ else bad
def tab (t : Nat) : TI:=bif Nat.blt t 469 then (bif Nat.blt t 240 then (bif Nat.blt t 112 then (bif Nat.blt t 48 then (bif Nat.blt t 16 then (tab0 t) else (bif Nat.blt t 32 then (tab1 t) else (tab2 t))) else (bif Nat.blt t 80 then (bif Nat.blt t 64 then (tab3 t) else (tab4 t)) else (bif Nat.blt t 96 then (tab5 t) else (tab6 t)))) else (bif Nat.blt t 176 then (bif Nat.blt t 144 then (bif Nat.blt t 128 then (tab7 t) else (tab8 t)) else (bif Nat.blt t 160 then (tab9 t) else (tab10 t))) else (bif Nat.blt t 208 then (bif Nat.blt t 192 then (tab11 t) else (tab12 t)) else (bif Nat.blt t 224 then (tab13 t) else (tab14 t))))) else (bif Nat.blt t 352 then (bif Nat.blt t 288 then (bif Nat.blt t 256 then (tab15 t) else (bif Nat.blt t 272 then (tab16 t) else (tab17 t))) else (bif Nat.blt t 320 then (bif Nat.blt t 304 then (tab18 t) else (tab19 t)) else (bif Nat.blt t 336 then (tab20 t) else (tab21 t)))) else (bif Nat.blt t 416 then (bif Nat.blt t 384 then (bif Nat.blt t 368 then (tab22 t) else (tab23 t)) else (bif Nat.blt t 400 then (tab24 t) else (tab25 t))) else (bif Nat.blt t 448 then (bif Nat.blt t 432 then (tab26 t) else (tab27 t)) else (bif Nat.blt t 464 then (tab28 t) else (tab29 t)))))) else bad
set_option maxRecDepth 100000 in
theorem tlen : Tryz.prog.types.toList.length = 469:=by kernel_rfl
theorem tab_out (t : Nat) (h : 469 ≤ t) : known (tab t).k = false:=by
 have e : Nat.blt t 469 = false:=by
  cases hb : Nat.blt t 469 with
  | false=>rfl
  | true=>have:=Nat.le_of_ble_eq_true hb; omega
 unfold tab; rw [e]; rfl
theorem tabChk : chkAll tab 0 Tryz.prog.types.toList = true:=by kernel_rfl
theorem tabOK : TabOK Tryz.prog tab:=tab_ok (fun t h=>tab_out t (by rw [tlen] at h; omega)) tabChk
def rotZ (x : Int) (k : Nat) : Int:=w32 (bitZ .or 32 (w32 (x * 2 ^ k)) (x / 2 ^ (32 - k)))
def big32 (a b c d : Int) : Int:=w32 (bitZ .or 32 (w32 (bitZ .or 32 (w32 (bitZ .or 32 (w32 (w32 a * 2 ^ 24)) (w32 (w32 b * 2 ^ 16)))) (w32 (w32 c * 2 ^ 8)))) (w32 d))
structure H5 where
 a : Int
 b : Int
 c : Int
 d : Int
 e : Int
def f1 (b c d : Int) : Int:=w32 (bitZ .or 32 (w32 (bitZ .and 32 b c)) (w32 (bitZ .and 32 (w32 (bitZ .xor 32 4294967295 b)) d)))
def f2 (b c d : Int) : Int:=w32 (bitZ .xor 32 (w32 (bitZ .xor 32 b c)) d)
def f3 (b c d : Int) : Int:=w32 (bitZ .or 32 (w32 (bitZ .or 32 (w32 (bitZ .and 32 b c)) (w32 (bitZ .and 32 b d)))) (w32 (bitZ .and 32 c d)))
def fZ (i : Nat) (b c d : Int) : Int:=if i < 20 then f1 b c d else if i < 40 then f2 b c d else if i < 60 then f3 b c d else f2 b c d
def kZ (i : Nat) : Int:=if i < 20 then 1518500249 else if i < 40 then 1859775393 else if i < 60 then 2400959708 else 3395469782
def rnd (f k w : Int) (s : H5) : H5:=⟨w32 (w32 (w32 (w32 (rotZ s.a 5 + f) + s.e) + k) + w),s.a,rotZ s.b 30,s.c,s.d⟩
def rounds (W : Nat → Int) (s : H5) : Nat → H5
 | 0=>s
 | i + 1=>let r:=rounds W s i; rnd (fZ i r.b r.c r.d) (kZ i) (W i) r
def x4 (p q r t : Int) : Int:=w32 (bitZ .xor 32 (w32 (bitZ .xor 32 (w32 (bitZ .xor 32 p q)) r)) t)
def wS (B : Nat → Int) (i : Nat) : Int :=
 if i < 16 then big32 (B (4 * i)) (B (4 * i + 1)) (B (4 * i + 2)) (B (4 * i + 3)) else rotZ (x4 (wS B (i - 3)) (wS B (i - 8)) (wS B (i - 14)) (wS B (i - 16))) 1
termination_by i
theorem wS_lo (B : Nat → Int) {i : Nat} (h : i < 16) : wS B i = big32 (B (4 * i)) (B (4 * i + 1)) (B (4 * i + 2)) (B (4 * i + 3)):=by rw [wS,if_pos h]
theorem wS_hi (B : Nat → Int) {i : Nat} (h : 16 ≤ i) : wS B i = rotZ (x4 (wS B (i - 3)) (wS B (i - 8)) (wS B (i - 14)) (wS B (i - 16))) 1:=by rw [wS,if_neg (by omega)]
def addH (s r : H5) : H5:=⟨w32 (s.a + r.a),w32 (s.b + r.b),w32 (s.c + r.c),w32 (s.d + r.d),w32 (s.e + r.e)⟩
def compr (B : Nat → Int) (s : H5) : H5:=addH s (rounds (wS B) s 80)
def ini : H5:=⟨1732584193,4023233417,2562383102,271733878,3285377520⟩
def hashN (S : Nat → Int) : Nat → H5
 | 0=>ini
 | m + 1=>compr (fun j=>S (64 * m + j)) (hashN S m)
theorem wS_congr {B B' : Nat → Int} (h : ∀ j,j < 64 → B j = B' j) : ∀ i,wS B i = wS B' i:=by
 intro i
 induction i using Nat.strongRecOn with
 | _ i ih =>
  by_cases hi : i < 16
  ·rw [wS_lo B hi,wS_lo B' hi,h _ (by omega),h _ (by omega),h _ (by omega),h _ (by omega)]
  ·rw [wS_hi B (by omega),wS_hi B' (by omega),ih _ (by omega),ih _ (by omega),ih _ (by omega),ih _ (by omega)]
theorem compr_congr {B B' : Nat → Int} (h : ∀ j,j < 64 → B j = B' j) (s : H5) : compr B s = compr B' s:=by
 unfold compr
 rw [show wS B = wS B' from funext (wS_congr h)]
theorem hashN_congr {S S' : Nat → Int} : ∀ (m : Nat),(∀ j,j < 64 * m → S j = S' j) → hashN S m = hashN S' m
 | 0,_=>rfl
 | m + 1,h=>by
  simp only [hashN]
  rw [hashN_congr m (fun j hj=>h j (by omega)),compr_congr (fun j hj=>h _ (by omega))]
theorem rounds_congr {W W' : Nat → Int} (s : H5) : ∀ (i : Nat),(∀ j,j < i → W j = W' j) → rounds W s i = rounds W' s i
 | 0,_=>rfl
 | i + 1,h=>by simp only [rounds]; rw [rounds_congr s i (fun j hj=>h j (by omega)),h i (by omega)]
def padL (n : Nat) : Nat:=(n + 72) / 64 * 64
def padS (S : Nat → Int) (n : Nat) (i : Nat) : Int:=if i < n then S i else if i = n then 128 else if i + 8 < padL n then 0 else w8 (w64 (w64 n * 8) / 2 ^ (8 * (padL n - 1 - i)))
def sha (S : Nat → Int) (n : Nat) : H5:=hashN (padS S n) (padL n / 64)
def H5.w (s : H5) (k : Nat) : Int:=match k with | 0=>s.a | 1=>s.b | 2=>s.c | 3=>s.d | _=>s.e
def dig (s : H5) (k : Nat) : Int:=w8 (s.w (k / 4) / 2 ^ (24 - 8 * (k % 4)))
theorem sha_congr {S S' : Nat → Int} {n : Nat} (h : ∀ j,j < n → S j = S' j) : sha S n = sha S' n:=by
 unfold sha
 refine hashN_congr _ fun j _=>?_
 unfold padS
 by_cases hj : j < n
 ·rw [if_pos hj,if_pos hj,h j hj]
 ·rw [if_neg hj,if_neg hj]
theorem padS_lt {S : Nat → Int} {n i : Nat} (h : i < n) : padS S n i = S i:=if_pos h
theorem padS_at {S : Nat → Int} {n : Nat} : padS S n n = 128:=by unfold padS; rw [if_neg (Nat.lt_irrefl n),if_pos rfl]
theorem padS_mid {S : Nat → Int} {n i : Nat} (h : n < i) (h2 : i + 8 < padL n) : padS S n i = 0:=by unfold padS; rw [if_neg (by omega),if_neg (by omega),if_pos h2]
theorem padS_len {S : Nat → Int} {n i : Nat} (h : n < i) (h2 : padL n ≤ i + 8) : padS S n i = w8 (w64 (w64 n * 8) / 2 ^ (8 * (padL n - 1 - i))):=by unfold padS; rw [if_neg (by omega),if_neg (by omega),if_neg (by omega)]
section
theorem mixed : Tryz.prog.follows .mixedOrders = true:=by kernel_rfl
theorem upd_at {α : Type} (f : Nat → α) (i : Nat) (x : α) (j : Nat) : upd f i x j = if j = i then x else f j:=by
 unfold upd
 by_cases h : j = i
 ·subst h; rw [beqT,if_pos rfl]; rfl
 ·rw [beqF h,if_neg h]; rfl
theorem offS_lt {cap l o : Nat} (h : l < cap) : offS cap l o 1 = o + l:=by
 unfold offS
 have : Nat.beq cap l = false:=beqF (by omega)
 rw [this]; show o + l * 1 = o + l; omega
variable {X : Ctx}
theorem src_lst {s : S} {y : Operand} {g m m' cap e : Nat} {k : IntKind} {zs : List Int} (hy : ev s.ρ y = .slc g 0 m cap) (hg : gk s.σ g = some (.row ⟨.lst (zs.map fun z=>.v (.int k z)),m',e⟩)) (hl : zs.length = m) (hm : m ≤ m') :
  ∀ β w a,Inv X s β w a → Src X 1 m (fun j=>.v (.int k (zs.getD j 0))) β w (a.eval y):=by
 refine src_slc hy hg (by show 0 + m * 1 ≤ m'; omega) fun j hj=>?_
 show lget (zs.map fun z=>SV.v (.int k z)) (0 + j) = _
 have hj' : j < zs.length:=by omega
 rw [Nat.zero_add]
 refine lget_eq _ _ _ ?_
 rw [List.getElem?_map,List.getElem?_eq_getElem hj',List.getD_eq_getElem?_getD,List.getElem?_eq_getElem hj']
 rfl
theorem fE {μ : Nat → Option Obj} {f : Nat} {fn : Func} {c : Code} (n : Nat) {args : List SV} {σ : GH} {k k2 : Nat} {ι : Type} {I : ι → Prop} {post : ι → Post} (hf : Tryz.prog.funcs[f]? = some fn)
  (h : ∀ w β,GC ⟨Tryz.prog,tab,tabOK,n,mc μ w k k2 β σ⟩ (bodyPost Tryz.prog fn (FPost (mc μ w k k2 β σ) I post)) c ⟨argE 0 args,σ,k2,[]⟩)
  (hb : fn.body = some c:=by exact rfl) (hnm : (fn.name == "runtime.NumGoroutine") = false:=by exact rfl) (hn : fn.ntmps = n:=by exact rfl) (hl : Nat.ble args.length n = true:=by exact rfl) : FunC Tryz.prog μ f args σ k k2 I post :=
 Fun.enter hf hb hnm hn hl h
end
def adA (B : Nat → Int) : Nat → Int
 | 0=>1
 | n + 1=>adA B n + B n
def adB (B : Nat → Int) : Nat → Int
 | 0=>0
 | n + 1=>adB B n + adA B (n + 1)
def tri : Nat → Nat
 | 0=>0
 | k + 1=>tri k + (k + 1)
theorem tri_eq : ∀ k,tri k * 2 = k * (k + 1)
 | 0=>rfl
 | k + 1=>by
  have:=tri_eq k
  have h1 : (k + 1) * (k + 1 + 1) = k * (k + 1) + 2 * (k + 1):=by rw [Nat.mul_comm (k + 1) (k + 1 + 1),← Nat.add_mul]
  rw [tri,h1,Nat.add_mul,this]; omega
theorem tri_le {k : Nat} (h : k ≤ 5552) : tri k ≤ 15415128:=by
 have h1:=tri_eq k
 have h2 : k * (k + 1) ≤ 5552 * 5553:=Nat.mul_le_mul h (by omega)
 omega
structure CI (B : Nat → Int) (m k : Nat) (s1 s2 : Int) : Prop where
 c1 : s1 % 65521 = adA B (m + k) % 65521
 c2 : s2 % 65521 = adB B (m + k) % 65521
 b1 : 0 ≤ s1 ∧ s1 ≤ 65520 + 255 * k
 b2 : 0 ≤ s2 ∧ s2 ≤ 65520 + 65520 * k + 255 * tri k
 hk : k ≤ 5552
theorem CI.step {B : Nat → Int} {m k : Nat} {s1 s2 b : Int} (h : CI B m k s1 s2) (hk : k + 1 ≤ 5552) (hb : b = B (m + k)) (hb2 : 0 ≤ b ∧ b < 256) : CI B m (k + 1) (w32 (s1 + w32 b)) (w32 (s2 + w32 (s1 + w32 b))):=by
 obtain ⟨c1,c2,b1,b2,h0⟩:=h
 have ht:=tri_le hk
 have e1 : w32 (s1 + w32 b) = s1 + b:=by unfold w32; omega
 have e2 : tri (k + 1) = tri k + (k + 1):=rfl
 have e3 : w32 (s2 + w32 (s1 + w32 b)) = s2 + (s1 + b):=by rw [e1]; unfold w32; omega
 have e4 : adA B (m + (k + 1)) = adA B (m + k) + B (m + k):=rfl
 have e5 : adB B (m + (k + 1)) = adB B (m + k) + adA B (m + (k + 1)):=rfl
 rw [e3,e1]
 refine ⟨by rw [e4,← hb]; omega,by rw [e5,e4,← hb]; omega,by omega,by omega,hk⟩
def adl (s1 s2 : Int) : Int:=w32 (bitZ .or 32 (w32 (s2 * 2 ^ 16)) s1)
theorem adl_eq {s1 s2 : Int} (h1 : 0 ≤ s1 ∧ s1 < 65521) (h2 : 0 ≤ s2 ∧ s2 < 65521) : adl s1 s2 = s2 * 65536 + s1:=by
 obtain ⟨n,rfl⟩:=Int.eq_ofNat_of_zero_le h1.1
 obtain ⟨m,rfl⟩:=Int.eq_ofNat_of_zero_le h2.1
 unfold adl
 have e : w32 ((m : Int) * 2 ^ 16) = ((m * 65536 : Nat) : Int):=by unfold w32; omega
 rw [e]
 have h : bitZ .or 32 ((m * 65536 : Nat) : Int) (n : Int) = ((m * 65536 + n : Nat) : Int):=by
  show (((BitVec.ofInt 32 ((m * 65536 : Nat) : Int) ||| BitVec.ofInt 32 (n : Int)).toNat : Nat) : Int) = _
  rw [BitVec.toNat_or,BitVec.toNat_ofInt,BitVec.toNat_ofInt]
  have q1 : ((((m * 65536 : Nat) : Int) % ((2 ^ 32 : Nat) : Int))).toNat = m * 65536:=by omega
  have q2 : (((n : Int) % ((2 ^ 32 : Nat) : Int))).toNat = n:=by omega
  rw [q1,q2]
  have h3:=Nat.shiftLeft_add_eq_or_of_lt (a:=m) (b:=n) (i:=16) (by omega)
  rw [Nat.shiftLeft_eq] at h3
  rw [← h3]
 rw [h]; unfold w32; omega
theorem adl_and {s1 s2 : Int} (h1 : 0 ≤ s1 ∧ s1 < 65521) (h2 : 0 ≤ s2 ∧ s2 < 65521) : w32 (bitZ .and 32 (adl s1 s2) 65535) = s1:=by
 rw [adl_eq h1 h2]
 have h : bitZ .and 32 (s2 * 65536 + s1) 65535 = s1:=by
  show (((BitVec.ofInt 32 (s2 * 65536 + s1) &&& BitVec.ofInt 32 65535).toNat : Nat) : Int) = _
  rw [BitVec.toNat_and,BitVec.toNat_ofInt,BitVec.toNat_ofInt]
  have q2 : ((65535 : Int) % ((2 ^ 32 : Nat) : Int)).toNat = 2 ^ 16 - 1:=by decide
  rw [q2,Nat.and_two_pow_sub_one_eq_mod]
  omega
 rw [h]; unfold w32; omega
def ad (B : Nat → Int) (n : Nat) : Int:=adl (adA B n % 65521) (adB B n % 65521)
def turnZ (x n : Int) : Int:=w32 (bitZ .or 32 (w32 (x * 2 ^ (min n.toNat 32))) (x / 2 ^ (min (w64 (32 - n)).toNat 32)))
theorem f39 (μ) (x n : Int) (h0 : 0 ≤ n) (h1 : n ≤ 32) : Fun Tryz.prog μ 39 [.v (.int .u32 x),.v (.int .u64 n)] [] 0 (fun _ : Unit=>True) (fun _=>⟨.v (.int .u32 (turnZ x n)),[],0⟩):=by
 have h2 : w64 (32 - n) = 32 - n:=by unfold w64; omega
 refine fE 13 Tryz.func39 fun zw zβ=>?_
 refine cF [0,1] ?_
 refine rS [0,1] ?_ (hc:=(by (repeat' first | exact trivial | refine And.intro ?_ ?_) <;> (try rw [h2]) <;> omega))
 refine rS [4] ?_ (hc:=(by (repeat' first | exact trivial | refine And.intro ?_ ?_) <;> (try rw [h2]) <;> omega))
 refine GC.ret ?_
 refine fR (.inl rfl) rfl (by (repeat' first | exact trivial | refine And.intro ?_ ?_) <;> (try rw [h2]) <;> omega) () [] rfl rfl rfl rfl (trivial)
theorem f39_1 (μ) (x : Int) : Fun Tryz.prog μ 39 [.v (.int .u32 x),.v (.int .u64 1)] [] 0 (fun _ : Unit=>True) (fun _=>⟨.v (.int .u32 (rotZ x 1)),[],0⟩):=f39 μ x 1 (by decide) (by decide)
theorem f39_5 (μ) (x : Int) : Fun Tryz.prog μ 39 [.v (.int .u32 x),.v (.int .u64 5)] [] 0 (fun _ : Unit=>True) (fun _=>⟨.v (.int .u32 (rotZ x 5)),[],0⟩):=f39 μ x 5 (by decide) (by decide)
theorem f39_30 (μ) (x : Int) : Fun Tryz.prog μ 39 [.v (.int .u32 x),.v (.int .u64 30)] [] 0 (fun _ : Unit=>True) (fun _=>⟨.v (.int .u32 (rotZ x 30)),[],0⟩):=f39 μ x 30 (by decide) (by decide)
theorem f38 (μ) (F : Nat → Int) (off n cap rn re : Nat) (h4 : 4 ≤ n) (hr : off + n ≤ rn) : Fun Tryz.prog μ 38 [.slc 0 off n cap] [(0,.row ⟨.ints .u8 F,rn,re⟩)] 1 (fun _ : Unit=>True)
  (fun _=>⟨.v (.int .u32 (big32 (F (off + 0)) (F (off + 1)) (F (off + 2)) (F (off + 3)))),[(0,.row ⟨.ints .u8 F,rn,re⟩)],1⟩):=by
 refine fE 25 Tryz.func38 fun zw zβ=>?_
 refine cF [0] ?_
 refine rS [0] ?_
 refine GC.seq (GC.draw [(0,0),(1,0),(5,0),(6,0),(11,0),(12,0),(17,0),(18,0),(2,1),(3,0),(4,0),(7,1),(8,0),(9,0),(10,0),(13,1),(14,0),(15,0),(16,0),(19,1),(20,0),(21,0),(22,0)] mixed (by kernel_rfl) (by rintro _ _ _ _ ⟨_,_,_,_,h,_⟩ _; cases h) ?_)
 refine wF [2] (GK.code ?_)
 refine GC.ret ?_
 refine fR (.inl rfl) rfl (by trivial) () [0] rfl rfl rfl rfl (trivial)
theorem f14 (μ) (x : Int) : Fun Tryz.prog μ 14 [.v (.int .u32 x)] [] 0 (fun _ : Unit=>True)
  (fun _=>⟨.slc 0 0 4 4,[(0,.row ⟨.lst [.v (.int .u8 (w8 (x / 2 ^ 24))),.v (.int .u8 (w8 (x / 2 ^ 16))),.v (.int .u8 (w8 (x / 2 ^ 8))),.v (.int .u8 (w8 x))],4,5⟩)],1⟩):=by
 refine fE 15 Tryz.func14 fun zw zβ=>?_
 refine cF [0] ?_
 refine rS [0] ?_
 refine rS [2] ?_
 refine GC.ret ?_
 refine fR (.inl rfl) rfl (by trivial) () [0] rfl rfl rfl rfl (trivial)
theorem enc_size (n : Int) : 1 ≤ (Utf8.encode n).size ∧ (Utf8.encode n).size ≤ 4:=by
 unfold Utf8.encode
 simp only
 generalize (if Utf8.valid n = true then n.toNat else Utf8.runeError) = c
 split
 ·exact ⟨Nat.le_refl 1,by show 1 ≤ 4; omega⟩
 ·split
  ·exact ⟨by show 1 ≤ 2; omega,by show 2 ≤ 4; omega⟩
  ·split
   ·exact ⟨by show 1 ≤ 3; omega,by show 3 ≤ 4; omega⟩
   ·exact ⟨by show 1 ≤ 4; omega,by show 4 ≤ 4; omega⟩
theorem f36 (μ) : ∀ (k : Nat) (n : Int),k ≤ 17 → 0 ≤ n → n < 10 ^ (k + 1) → n < 1000000000000000000 → Fun Tryz.prog μ 36 [.v (.int .i64 n)] [] 0 (fun t : ByteArray=>1 ≤ t.size ∧ t.size ≤ 4 * (k + 1)) (fun t=>⟨.v (.string t),[],0⟩):=by
 intro k
 induction k with
 | zero =>
  intro n hk h0 h1 h2
  have h1 : n < 10:=by simpa using h1
  refine fE 18 Tryz.func36 fun zw zβ=>?_
  refine cF [0] ?_
  refine rS [0] ?_
  refine GC.seq ?_
  refine rS [0,4] ?_
  refine GC.cond rfl (fun hc=>?_) (fun hc=>?_)
  ·have hc : n < 10:=by simpa using hc
   refine GL.seqR ?_
   refine lK 3 [7] ?_
   refine GL.vstep rfl (VStep.rune rfl rfl rfl rfl) rfl (GL.force [8] rfl ?_)
   refine lF [2] (GK.code ?_)
   refine GC.ret ?_
   refine fR (.inl rfl) rfl (by trivial) _ [] rfl rfl rfl rfl (enc_size _)
  ·have hc : ¬ (n < 10):=by simpa using hc
   exact absurd h1 hc
 | succ k ih =>
  intro n hk h0 h1 h2
  refine fE 18 Tryz.func36 fun zw zβ=>?_
  refine cF [0] ?_
  refine rS [0] ?_
  refine GC.seq ?_
  refine rS [0,4] ?_
  refine GC.cond rfl (fun hc=>?_) (fun hc=>?_)
  ·have hc : n < 10:=by simpa using hc
   refine GL.seqR ?_
   refine lK 3 [7] ?_
   refine GL.vstep rfl (VStep.rune rfl rfl rfl rfl) rfl (GL.force [8] rfl ?_)
   refine lF [2] (GK.code ?_)
   refine GC.ret ?_
   refine fR (.inl rfl) rfl (by trivial) _ [] rfl rfl rfl rfl (⟨(enc_size _).1,Nat.le_trans (enc_size _).2 (by omega)⟩)
  ·have hc : ¬ (n < 10):=by simpa using hc
   refine GC.skip (GK.code (GL.seqR ?_))
   refine lK 2 [0,10] ?_
   refine GL.op rfl (cR rfl (ih (n / 10) (by omega) (by omega) (by rw [Int.pow_succ] at h1; omega) (by omega)) [] rfl rfl rfl rfl fun t ht=>?_)
   refine gF [0,11] rfl ?_
   refine lK 4 [11,15] ?_
   refine GL.vstep rfl (VStep.rune rfl rfl rfl rfl) rfl (GL.force [11,16] rfl ?_)
   have he:=enc_size (48 + n % 10)
   have hs : (t ++ Utf8.encode (48 + n % 10)).size = t.size + (Utf8.encode (48 + n % 10)).size:=ByteArray.size_append
   refine lF [2] (GK.code ?_) (hc:=(by (repeat' first | exact trivial | refine And.intro ?_ ?_) <;> omega))
   refine GC.ret ?_
   refine fR (.inl rfl) rfl (by (repeat' first | exact trivial | refine And.intro ?_ ?_) <;> omega) _ [] rfl rfl rfl rfl (⟨by rw [hs]; omega,by rw [hs]; omega⟩)
end Go.Proofs.YtebadfmnmhmfeaaGreatDoor.T
