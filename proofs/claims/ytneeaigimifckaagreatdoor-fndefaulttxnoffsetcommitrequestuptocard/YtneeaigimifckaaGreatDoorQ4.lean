/- Part of a verified symbolic run of the program's code (no condition of its own). -/
import Derived.Test.YtneeaigimifckaaGreatDoorQ3
import Derived.Laws.Bits64
set_option linter.unusedVariables false
set_option linter.unusedSimpArgs false
noncomputable section
namespace Go.Mx
open Go Go.Dx
def de2:DE:=(.f .ite [.v 1,.f .app [.v 0,.f .mkbytes [.k (.int 1)]],.f .app [.v 0,.f .mkbytes [.k (.int 0)]]])
def ob2:List Ob:=[.when (.v 1) true [.room (.f .app [.v 0,.f .mkbytes [.k (.int 1)]]) 1],.when (.v 1) false [.room (.f .app [.v 0,.f .mkbytes [.k (.int 0)]]) 1]]
def de4:DE:=(.f (.ext 5) [.v 0,.f (.wrap .u16) [.v 1]])
def ob4:List Ob:=[.pre 5 [.v 0,.f (.wrap .u16) [.v 1]]]
def de5:DE:=(.f .app [.v 0,.f .mkbytes [.f (.wrap .u8) [.f (.shr .u16) [.v 1,.k (.int 8)]],.f (.wrap .u8) [.v 1]]])
def ob5:List Ob:=[.room (.f .app [.v 0,.f .mkbytes [.f (.wrap .u8) [.f (.shr .u16) [.v 1,.k (.int 8)]],.f (.wrap .u8) [.v 1]]]) 1]
def de6:DE:=(.f (.ext 30) [.v 0,.f (.wrap .u32) [.v 1]])
def ob6:List Ob:=[.pre 30 [.v 0,.f (.wrap .u32) [.v 1]]]
def de7:DE:=(.f (.ext 29) [.v 0,.f (.wrap .u64) [.v 1]])
def ob7:List Ob:=[.pre 29 [.v 0,.f (.wrap .u64) [.v 1]]]
def de10:DE:=(.f .ite [.f .eqI [.f (.ext 31) [.v 1],.k (.int 5)],.f .app [.v 0,.f .mkbytes [.f (.wrap .u8) [.f (.bor .u32) [.f (.band .u32) [.v 1,.k (.int 127)],.k (.int 128)]],.f (.wrap .u8) [.f (.bor .u32) [.f (.band .u32) [.f (.shr .u32) [.v 1,.k (.int 7)],.k (.int 127)],.k (.int 128)]],.f (.wrap .u8) [.f (.bor .u32) [.f (.band .u32) [.f (.shr .u32) [.v 1,.k (.int 14)],.k (.int 127)],.k (.int 128)]],.f (.wrap .u8) [.f (.bor .u32) [.f (.band .u32) [.f (.shr .u32) [.v 1,.k (.int 21)],.k (.int 127)],.k (.int 128)]],.f (.wrap .u8) [.f (.shr .u32) [.v 1,.k (.int 28)]]]],.f .ite [.f .eqI [.f (.ext 31) [.v 1],.k (.int 4)],.f .app [.v 0,.f .mkbytes [.f (.wrap .u8) [.f (.bor .u32) [.f (.band .u32) [.v 1,.k (.int 127)],.k (.int 128)]],.f (.wrap .u8) [.f (.bor .u32) [.f (.band .u32) [.f (.shr .u32) [.v 1,.k (.int 7)],.k (.int 127)],.k (.int 128)]],.f (.wrap .u8) [.f (.bor .u32) [.f (.band .u32) [.f (.shr .u32) [.v 1,.k (.int 14)],.k (.int 127)],.k (.int 128)]],.f (.wrap .u8) [.f (.shr .u32) [.v 1,.k (.int 21)]]]],.f .ite [.f .eqI [.f (.ext 31) [.v 1],.k (.int 3)],.f .app [.v 0,.f .mkbytes [.f (.wrap .u8) [.f (.bor .u32) [.f (.band .u32) [.v 1,.k (.int 127)],.k (.int 128)]],.f (.wrap .u8) [.f (.bor .u32) [.f (.band .u32) [.f (.shr .u32) [.v 1,.k (.int 7)],.k (.int 127)],.k (.int 128)]],.f (.wrap .u8) [.f (.shr .u32) [.v 1,.k (.int 14)]]]],.f .ite [.f .eqI [.f (.ext 31) [.v 1],.k (.int 2)],.f .app [.v 0,.f .mkbytes [.f (.wrap .u8) [.f (.bor .u32) [.f (.band .u32) [.v 1,.k (.int 127)],.k (.int 128)]],.f (.wrap .u8) [.f (.shr .u32) [.v 1,.k (.int 7)]]]],.f .ite [.f .eqI [.f (.ext 31) [.v 1],.k (.int 1)],.f .app [.v 0,.f .mkbytes [.f (.wrap .u8) [.v 1]]],.v 0]]]]])
def ob10:List Ob:=[.when (.f .eqI [.f (.ext 31) [.v 1],.k (.int 5)]) true [.room (.f .app [.v 0,.f .mkbytes [.f (.wrap .u8) [.f (.bor .u32) [.f (.band .u32) [.v 1,.k (.int 127)],.k (.int 128)]],.f (.wrap .u8) [.f (.bor .u32) [.f (.band .u32) [.f (.shr .u32) [.v 1,.k (.int 7)],.k (.int 127)],.k (.int 128)]],.f (.wrap .u8) [.f (.bor .u32) [.f (.band .u32) [.f (.shr .u32) [.v 1,.k (.int 14)],.k (.int 127)],.k (.int 128)]],.f (.wrap .u8) [.f (.bor .u32) [.f (.band .u32) [.f (.shr .u32) [.v 1,.k (.int 21)],.k (.int 127)],.k (.int 128)]],.f (.wrap .u8) [.f (.shr .u32) [.v 1,.k (.int 28)]]]]) 1],.when (.f .eqI [.f (.ext 31) [.v 1],.k (.int 5)]) false [.when (.f .eqI [.f (.ext 31) [.v 1],.k (.int 4)]) true [.room (.f .app [.v 0,.f .mkbytes [.f (.wrap .u8) [.f (.bor .u32) [.f (.band .u32) [.v 1,.k (.int 127)],.k (.int 128)]],.f (.wrap .u8) [.f (.bor .u32) [.f (.band .u32) [.f (.shr .u32) [.v 1,.k (.int 7)],.k (.int 127)],.k (.int 128)]],.f (.wrap .u8) [.f (.bor .u32) [.f (.band .u32) [.f (.shr .u32) [.v 1,.k (.int 14)],.k (.int 127)],.k (.int 128)]],.f (.wrap .u8) [.f (.shr .u32) [.v 1,.k (.int 21)]]]]) 1],.when (.f .eqI [.f (.ext 31) [.v 1],.k (.int 4)]) false [.when (.f .eqI [.f (.ext 31) [.v 1],.k (.int 3)]) true [.room (.f .app [.v 0,.f .mkbytes [.f (.wrap .u8) [.f (.bor .u32) [.f (.band .u32) [.v 1,.k (.int 127)],.k (.int 128)]],.f (.wrap .u8) [.f (.bor .u32) [.f (.band .u32) [.f (.shr .u32) [.v 1,.k (.int 7)],.k (.int 127)],.k (.int 128)]],.f (.wrap .u8) [.f (.shr .u32) [.v 1,.k (.int 14)]]]]) 1],.when (.f .eqI [.f (.ext 31) [.v 1],.k (.int 3)]) false [.when (.f .eqI [.f (.ext 31) [.v 1],.k (.int 2)]) true [.room (.f .app [.v 0,.f .mkbytes [.f (.wrap .u8) [.f (.bor .u32) [.f (.band .u32) [.v 1,.k (.int 127)],.k (.int 128)]],.f (.wrap .u8) [.f (.shr .u32) [.v 1,.k (.int 7)]]]]) 1],.when (.f .eqI [.f (.ext 31) [.v 1],.k (.int 2)]) false [.when (.f .eqI [.f (.ext 31) [.v 1],.k (.int 1)]) true [.room (.f .app [.v 0,.f .mkbytes [.f (.wrap .u8) [.v 1]]]) 1]]]]],.pre 31 [.v 1]]
def de11:DE:=(.f .app [.f (.ext 4) [.v 0,.f (.wrap .i16) [.f .len [.v 1]]],.v 1])
def ob11:List Ob:=[.room (.f .app [.f (.ext 4) [.v 0,.f (.wrap .i16) [.f .len [.v 1]]],.v 1]) 1,.pre 4 [.v 0,.f (.wrap .i16) [.f .len [.v 1]]]]
def de12:DE:=(.f .app [.f (.ext 10) [.v 0,.f (.add .u32) [.k (.int 1),.f (.wrap .u32) [.f .len [.v 1]]]],.v 1])
def ob12:List Ob:=[.room (.f .app [.f (.ext 10) [.v 0,.f (.add .u32) [.k (.int 1),.f (.wrap .u32) [.f .len [.v 1]]]],.v 1]) 1,.pre 10 [.v 0,.f (.add .u32) [.k (.int 1),.f (.wrap .u32) [.f .len [.v 1]]]]]
def de15:DE:=(.f .app [.f (.ext 6) [.v 0,.f (.wrap .i32) [.f .len [.v 1]]],.v 1])
def ob15:List Ob:=[.room (.f .app [.f (.ext 6) [.v 0,.f (.wrap .i32) [.f .len [.v 1]]],.v 1]) 1,.pre 6 [.v 0,.f (.wrap .i32) [.f .len [.v 1]]]]
def de17:DE:=(.f .ite [.f .isNil [.v 1],.f (.ext 6) [.v 0,.k (.int (-1))],.f (.ext 15) [.v 0,.v 1]])
def ob17:List Ob:=[.when (.f .isNil [.v 1]) true [.pre 6 [.v 0,.k (.int (-1))]],.when (.f .isNil [.v 1]) false [.pre 15 [.v 0,.v 1]]]
def de29:DE:=(.f .app [.v 0,.f .mkbytes [.f (.wrap .u8) [.f (.shr .u64) [.v 1,.k (.int 56)]],.f (.wrap .u8) [.f (.shr .u64) [.v 1,.k (.int 48)]],.f (.wrap .u8) [.f (.shr .u64) [.v 1,.k (.int 40)]],.f (.wrap .u8) [.f (.shr .u64) [.v 1,.k (.int 32)]],.f (.wrap .u8) [.f (.shr .u64) [.v 1,.k (.int 24)]],.f (.wrap .u8) [.f (.shr .u64) [.v 1,.k (.int 16)]],.f (.wrap .u8) [.f (.shr .u64) [.v 1,.k (.int 8)]],.f (.wrap .u8) [.v 1]]])
def ob29:List Ob:=[.room (.f .app [.v 0,.f .mkbytes [.f (.wrap .u8) [.f (.shr .u64) [.v 1,.k (.int 56)]],.f (.wrap .u8) [.f (.shr .u64) [.v 1,.k (.int 48)]],.f (.wrap .u8) [.f (.shr .u64) [.v 1,.k (.int 40)]],.f (.wrap .u8) [.f (.shr .u64) [.v 1,.k (.int 32)]],.f (.wrap .u8) [.f (.shr .u64) [.v 1,.k (.int 24)]],.f (.wrap .u8) [.f (.shr .u64) [.v 1,.k (.int 16)]],.f (.wrap .u8) [.f (.shr .u64) [.v 1,.k (.int 8)]],.f (.wrap .u8) [.v 1]]]) 1]
def de30:DE:=(.f .app [.v 0,.f .mkbytes [.f (.wrap .u8) [.f (.shr .u32) [.v 1,.k (.int 24)]],.f (.wrap .u8) [.f (.shr .u32) [.v 1,.k (.int 16)]],.f (.wrap .u8) [.f (.shr .u32) [.v 1,.k (.int 8)]],.f (.wrap .u8) [.v 1]]])
def ob30:List Ob:=[.room (.f .app [.v 0,.f .mkbytes [.f (.wrap .u8) [.f (.shr .u32) [.v 1,.k (.int 24)]],.f (.wrap .u8) [.f (.shr .u32) [.v 1,.k (.int 16)]],.f (.wrap .u8) [.f (.shr .u32) [.v 1,.k (.int 8)]],.f (.wrap .u8) [.v 1]]]) 1]
def de40:DE:=(.f .ite [.f .ltI [.v 1,.f .len [.f (.get 3) [.v 0]]],.f .at [.f (.get 3) [.v 0],.v 1],.f .mkrow [.k (.int 0),.k .nil,.k (.bool false),.k .nil,.k .nil]])
def ob40:List Ob:=[.when (.f .ltI [.v 1,.f .len [.f (.get 3) [.v 0]]]) true [.idx (.v 1) (.f (.get 3) [.v 0]) true]]
def de41:DE:=(.fold 2 (.f .take [.v 1,.f .imin [.f .len [.v 1],.k (.int 32767)]]) [.k .nil] [.f .ite [.f .ite [.f .ltI [.f (.get 0) [.v 3],.f (.ext 51) [.v 0]],.k (.bool true),.f .ite [.f .ltI [.fold 5 (.f .iota [.wh 5 (.f .ite [.f .ltI [.v 7,.f .len [.v 4]],.f .ltI [.f (.get 0) [.f .at [.v 4,.v 7]],.f (.get 0) [.v 3]],.k (.bool false)]) [.k (.int 0)] [.f (.add .i64) [.v 7,.k (.int 1)]]]) [.k (.int 0)] [.f (.add .i64) [.v 7,.k (.int 1)]] 0,.f .len [.v 4]],.f .eqI [.f (.get 0) [.f .at [.v 4,.fold 5 (.f .iota [.wh 5 (.f .ite [.f .ltI [.v 7,.f .len [.v 4]],.f .ltI [.f (.get 0) [.f .at [.v 4,.v 7]],.f (.get 0) [.v 3]],.k (.bool false)]) [.k (.int 0)] [.f (.add .i64) [.v 7,.k (.int 1)]]]) [.k (.int 0)] [.f (.add .i64) [.v 7,.k (.int 1)]] 0]],.f (.get 0) [.v 3]],.k (.bool false)]],.v 4,.f .setAt [.fold 5 (.f .iota [.wh 5 (.f .ltI [.fold 5 (.f .iota [.wh 5 (.f .ite [.f .ltI [.v 7,.f .len [.v 4]],.f .ltI [.f (.get 0) [.f .at [.v 4,.v 7]],.f (.get 0) [.v 3]],.k (.bool false)]) [.k (.int 0)] [.f (.add .i64) [.v 7,.k (.int 1)]]]) [.k (.int 0)] [.f (.add .i64) [.v 7,.k (.int 1)]] 0,.v 7]) [.f (.sub .i64) [.f .len [.f .app [.v 4,.f .mklist [.f .mkrow [.k (.int 0),.k .nil]]]],.k (.int 1)],.f .app [.v 4,.f .mklist [.f .mkrow [.k (.int 0),.k .nil]]]] [.f (.sub .i64) [.v 7,.k (.int 1)],.f .setAt [.v 8,.v 7,.f .at [.v 8,.f (.sub .i64) [.v 7,.k (.int 1)]]]]]) [.f (.sub .i64) [.f .len [.f .app [.v 4,.f .mklist [.f .mkrow [.k (.int 0),.k .nil]]]],.k (.int 1)],.f .app [.v 4,.f .mklist [.f .mkrow [.k (.int 0),.k .nil]]]] [.f (.sub .i64) [.v 7,.k (.int 1)],.f .setAt [.v 8,.v 7,.f .at [.v 8,.f (.sub .i64) [.v 7,.k (.int 1)]]]] 1,.fold 5 (.f .iota [.wh 5 (.f .ite [.f .ltI [.v 7,.f .len [.v 4]],.f .ltI [.f (.get 0) [.f .at [.v 4,.v 7]],.f (.get 0) [.v 3]],.k (.bool false)]) [.k (.int 0)] [.f (.add .i64) [.v 7,.k (.int 1)]]]) [.k (.int 0)] [.f (.add .i64) [.v 7,.k (.int 1)]] 0,.v 3]]] 0)
def ob41:List Ob:=[.all (.f .take [.v 1,.f .imin [.f .len [.v 1],.k (.int 32767)]]) [.k .nil] [.f .ite [.f .ite [.f .ltI [.f (.get 0) [.v 3],.f (.ext 51) [.v 0]],.k (.bool true),.f .ite [.f .ltI [.fold 5 (.f .iota [.wh 5 (.f .ite [.f .ltI [.v 7,.f .len [.v 4]],.f .ltI [.f (.get 0) [.f .at [.v 4,.v 7]],.f (.get 0) [.v 3]],.k (.bool false)]) [.k (.int 0)] [.f (.add .i64) [.v 7,.k (.int 1)]]]) [.k (.int 0)] [.f (.add .i64) [.v 7,.k (.int 1)]] 0,.f .len [.v 4]],.f .eqI [.f (.get 0) [.f .at [.v 4,.fold 5 (.f .iota [.wh 5 (.f .ite [.f .ltI [.v 7,.f .len [.v 4]],.f .ltI [.f (.get 0) [.f .at [.v 4,.v 7]],.f (.get 0) [.v 3]],.k (.bool false)]) [.k (.int 0)] [.f (.add .i64) [.v 7,.k (.int 1)]]]) [.k (.int 0)] [.f (.add .i64) [.v 7,.k (.int 1)]] 0]],.f (.get 0) [.v 3]],.k (.bool false)]],.v 4,.f .setAt [.fold 5 (.f .iota [.wh 5 (.f .ltI [.fold 5 (.f .iota [.wh 5 (.f .ite [.f .ltI [.v 7,.f .len [.v 4]],.f .ltI [.f (.get 0) [.f .at [.v 4,.v 7]],.f (.get 0) [.v 3]],.k (.bool false)]) [.k (.int 0)] [.f (.add .i64) [.v 7,.k (.int 1)]]]) [.k (.int 0)] [.f (.add .i64) [.v 7,.k (.int 1)]] 0,.v 7]) [.f (.sub .i64) [.f .len [.f .app [.v 4,.f .mklist [.f .mkrow [.k (.int 0),.k .nil]]]],.k (.int 1)],.f .app [.v 4,.f .mklist [.f .mkrow [.k (.int 0),.k .nil]]]] [.f (.sub .i64) [.v 7,.k (.int 1)],.f .setAt [.v 8,.v 7,.f .at [.v 8,.f (.sub .i64) [.v 7,.k (.int 1)]]]]]) [.f (.sub .i64) [.f .len [.f .app [.v 4,.f .mklist [.f .mkrow [.k (.int 0),.k .nil]]]],.k (.int 1)],.f .app [.v 4,.f .mklist [.f .mkrow [.k (.int 0),.k .nil]]]] [.f (.sub .i64) [.v 7,.k (.int 1)],.f .setAt [.v 8,.v 7,.f .at [.v 8,.f (.sub .i64) [.v 7,.k (.int 1)]]]] 1,.fold 5 (.f .iota [.wh 5 (.f .ite [.f .ltI [.v 7,.f .len [.v 4]],.f .ltI [.f (.get 0) [.f .at [.v 4,.v 7]],.f (.get 0) [.v 3]],.k (.bool false)]) [.k (.int 0)] [.f (.add .i64) [.v 7,.k (.int 1)]]]) [.k (.int 0)] [.f (.add .i64) [.v 7,.k (.int 1)]] 0,.v 3]]] [.when (.f .ite [.f .ltI [.f (.get 0) [.v 3],.f (.ext 51) [.v 0]],.k (.bool true),.f .ite [.f .ltI [.fold 5 (.f .iota [.wh 5 (.f .ite [.f .ltI [.v 7,.f .len [.v 4]],.f .ltI [.f (.get 0) [.f .at [.v 4,.v 7]],.f (.get 0) [.v 3]],.k (.bool false)]) [.k (.int 0)] [.f (.add .i64) [.v 7,.k (.int 1)]]]) [.k (.int 0)] [.f (.add .i64) [.v 7,.k (.int 1)]] 0,.f .len [.v 4]],.f .eqI [.f (.get 0) [.f .at [.v 4,.fold 5 (.f .iota [.wh 5 (.f .ite [.f .ltI [.v 7,.f .len [.v 4]],.f .ltI [.f (.get 0) [.f .at [.v 4,.v 7]],.f (.get 0) [.v 3]],.k (.bool false)]) [.k (.int 0)] [.f (.add .i64) [.v 7,.k (.int 1)]]]) [.k (.int 0)] [.f (.add .i64) [.v 7,.k (.int 1)]] 0]],.f (.get 0) [.v 3]],.k (.bool false)]]) false [.idx (.fold 5 (.f .iota [.wh 5 (.f .ite [.f .ltI [.v 7,.f .len [.v 4]],.f .ltI [.f (.get 0) [.f .at [.v 4,.v 7]],.f (.get 0) [.v 3]],.k (.bool false)]) [.k (.int 0)] [.f (.add .i64) [.v 7,.k (.int 1)]]]) [.k (.int 0)] [.f (.add .i64) [.v 7,.k (.int 1)]] 0) (.fold 5 (.f .iota [.wh 5 (.f .ltI [.fold 5 (.f .iota [.wh 5 (.f .ite [.f .ltI [.v 7,.f .len [.v 4]],.f .ltI [.f (.get 0) [.f .at [.v 4,.v 7]],.f (.get 0) [.v 3]],.k (.bool false)]) [.k (.int 0)] [.f (.add .i64) [.v 7,.k (.int 1)]]]) [.k (.int 0)] [.f (.add .i64) [.v 7,.k (.int 1)]] 0,.v 7]) [.f (.sub .i64) [.f .len [.f .app [.v 4,.f .mklist [.f .mkrow [.k (.int 0),.k .nil]]]],.k (.int 1)],.f .app [.v 4,.f .mklist [.f .mkrow [.k (.int 0),.k .nil]]]] [.f (.sub .i64) [.v 7,.k (.int 1)],.f .setAt [.v 8,.v 7,.f .at [.v 8,.f (.sub .i64) [.v 7,.k (.int 1)]]]]]) [.f (.sub .i64) [.f .len [.f .app [.v 4,.f .mklist [.f .mkrow [.k (.int 0),.k .nil]]]],.k (.int 1)],.f .app [.v 4,.f .mklist [.f .mkrow [.k (.int 0),.k .nil]]]] [.f (.sub .i64) [.v 7,.k (.int 1)],.f .setAt [.v 8,.v 7,.f .at [.v 8,.f (.sub .i64) [.v 7,.k (.int 1)]]]] 1) true,.idx (.fold 5 (.f .iota [.wh 5 (.f .ite [.f .ltI [.v 7,.f .len [.v 4]],.f .ltI [.f (.get 0) [.f .at [.v 4,.v 7]],.f (.get 0) [.v 3]],.k (.bool false)]) [.k (.int 0)] [.f (.add .i64) [.v 7,.k (.int 1)]]]) [.k (.int 0)] [.f (.add .i64) [.v 7,.k (.int 1)]] 0) (.fold 5 (.f .iota [.wh 5 (.f .ltI [.fold 5 (.f .iota [.wh 5 (.f .ite [.f .ltI [.v 7,.f .len [.v 4]],.f .ltI [.f (.get 0) [.f .at [.v 4,.v 7]],.f (.get 0) [.v 3]],.k (.bool false)]) [.k (.int 0)] [.f (.add .i64) [.v 7,.k (.int 1)]]]) [.k (.int 0)] [.f (.add .i64) [.v 7,.k (.int 1)]] 0,.v 7]) [.f (.sub .i64) [.f .len [.f .app [.v 4,.f .mklist [.f .mkrow [.k (.int 0),.k .nil]]]],.k (.int 1)],.f .app [.v 4,.f .mklist [.f .mkrow [.k (.int 0),.k .nil]]]] [.f (.sub .i64) [.v 7,.k (.int 1)],.f .setAt [.v 8,.v 7,.f .at [.v 8,.f (.sub .i64) [.v 7,.k (.int 1)]]]]]) [.f (.sub .i64) [.f .len [.f .app [.v 4,.f .mklist [.f .mkrow [.k (.int 0),.k .nil]]]],.k (.int 1)],.f .app [.v 4,.f .mklist [.f .mkrow [.k (.int 0),.k .nil]]]] [.f (.sub .i64) [.v 7,.k (.int 1)],.f .setAt [.v 8,.v 7,.f .at [.v 8,.f (.sub .i64) [.v 7,.k (.int 1)]]]] 1) true,(.term 5 (.f .ltI [.fold 5 (.f .iota [.wh 5 (.f .ite [.f .ltI [.v 7,.f .len [.v 4]],.f .ltI [.f (.get 0) [.f .at [.v 4,.v 7]],.f (.get 0) [.v 3]],.k (.bool false)]) [.k (.int 0)] [.f (.add .i64) [.v 7,.k (.int 1)]]]) [.k (.int 0)] [.f (.add .i64) [.v 7,.k (.int 1)]] 0,.v 7]) [.f (.sub .i64) [.f .len [.f .app [.v 4,.f .mklist [.f .mkrow [.k (.int 0),.k .nil]]]],.k (.int 1)],.f .app [.v 4,.f .mklist [.f .mkrow [.k (.int 0),.k .nil]]]] [.f (.sub .i64) [.v 7,.k (.int 1)],.f .setAt [.v 8,.v 7,.f .at [.v 8,.f (.sub .i64) [.v 7,.k (.int 1)]]]]),.all (.f .iotaS [.wh 5 (.f .ltI [.fold 5 (.f .iota [.wh 5 (.f .ite [.f .ltI [.v 7,.f .len [.v 4]],.f .ltI [.f (.get 0) [.f .at [.v 4,.v 7]],.f (.get 0) [.v 3]],.k (.bool false)]) [.k (.int 0)] [.f (.add .i64) [.v 7,.k (.int 1)]]]) [.k (.int 0)] [.f (.add .i64) [.v 7,.k (.int 1)]] 0,.v 7]) [.f (.sub .i64) [.f .len [.f .app [.v 4,.f .mklist [.f .mkrow [.k (.int 0),.k .nil]]]],.k (.int 1)],.f .app [.v 4,.f .mklist [.f .mkrow [.k (.int 0),.k .nil]]]] [.f (.sub .i64) [.v 7,.k (.int 1)],.f .setAt [.v 8,.v 7,.f .at [.v 8,.f (.sub .i64) [.v 7,.k (.int 1)]]]]]) [.f (.sub .i64) [.f .len [.f .app [.v 4,.f .mklist [.f .mkrow [.k (.int 0),.k .nil]]]],.k (.int 1)],.f .app [.v 4,.f .mklist [.f .mkrow [.k (.int 0),.k .nil]]]] [.f (.sub .i64) [.v 7,.k (.int 1)],.f .setAt [.v 8,.v 7,.f .at [.v 8,.f (.sub .i64) [.v 7,.k (.int 1)]]]] [.when (.f .ltI [.fold 5 (.f .iota [.wh 5 (.f .ite [.f .ltI [.v 7,.f .len [.v 4]],.f .ltI [.f (.get 0) [.f .at [.v 4,.v 7]],.f (.get 0) [.v 3]],.k (.bool false)]) [.k (.int 0)] [.f (.add .i64) [.v 7,.k (.int 1)]]]) [.k (.int 0)] [.f (.add .i64) [.v 7,.k (.int 1)]] 0,.v 7]) true [.idx (.v 7) (.v 8) true,.idx (.v 7) (.v 8) true,.idx (.f (.sub .i64) [.v 7,.k (.int 1)]) (.v 8) true,.idx (.f (.sub .i64) [.v 7,.k (.int 1)]) (.v 8) true]],.room (.f .app [.v 4,.f .mklist [.f .mkrow [.k (.int 0),.k .nil]]]) 32],.when (.f .ltI [.f (.get 0) [.v 3],.f (.ext 51) [.v 0]]) false [.when (.f .ltI [.fold 5 (.f .iota [.wh 5 (.f .ite [.f .ltI [.v 7,.f .len [.v 4]],.f .ltI [.f (.get 0) [.f .at [.v 4,.v 7]],.f (.get 0) [.v 3]],.k (.bool false)]) [.k (.int 0)] [.f (.add .i64) [.v 7,.k (.int 1)]]]) [.k (.int 0)] [.f (.add .i64) [.v 7,.k (.int 1)]] 0,.f .len [.v 4]]) true [.idx (.fold 5 (.f .iota [.wh 5 (.f .ite [.f .ltI [.v 7,.f .len [.v 4]],.f .ltI [.f (.get 0) [.f .at [.v 4,.v 7]],.f (.get 0) [.v 3]],.k (.bool false)]) [.k (.int 0)] [.f (.add .i64) [.v 7,.k (.int 1)]]]) [.k (.int 0)] [.f (.add .i64) [.v 7,.k (.int 1)]] 0) (.v 4) true,.idx (.fold 5 (.f .iota [.wh 5 (.f .ite [.f .ltI [.v 7,.f .len [.v 4]],.f .ltI [.f (.get 0) [.f .at [.v 4,.v 7]],.f (.get 0) [.v 3]],.k (.bool false)]) [.k (.int 0)] [.f (.add .i64) [.v 7,.k (.int 1)]]]) [.k (.int 0)] [.f (.add .i64) [.v 7,.k (.int 1)]] 0) (.v 4) true]],(.term 5 (.f .ite [.f .ltI [.v 7,.f .len [.v 4]],.f .ltI [.f (.get 0) [.f .at [.v 4,.v 7]],.f (.get 0) [.v 3]],.k (.bool false)]) [.k (.int 0)] [.f (.add .i64) [.v 7,.k (.int 1)]]),.all (.f .iotaS [.wh 5 (.f .ite [.f .ltI [.v 7,.f .len [.v 4]],.f .ltI [.f (.get 0) [.f .at [.v 4,.v 7]],.f (.get 0) [.v 3]],.k (.bool false)]) [.k (.int 0)] [.f (.add .i64) [.v 7,.k (.int 1)]]]) [.k (.int 0)] [.f (.add .i64) [.v 7,.k (.int 1)]] [.when (.f .ltI [.v 7,.f .len [.v 4]]) true [.idx (.v 7) (.v 4) true,.idx (.v 7) (.v 4) true]]],.idx (.f .imin [.f .len [.v 1],.k (.int 32767)]) (.v 1) false,.pre 51 [.v 0]]
def de44:DE:=(.f .mkrow [.f (.get 0) [.v 0],.f (.get 1) [.v 0],.f (.get 2) [.v 0],.fold 1 (.f (.get 3) [.v 0]) [.k .nil] [.f .app [.v 3,.f .mklist [.f (.ext 44) [.v 2]]]] 0,.fold 1 (.f (.get 4) [.v 0]) [.k .nil] [.f .app [.v 3,.f .mklist [.f .mkrow [.f (.get 0) [.v 2],.f (.get 1) [.v 2]]]]] 0])
def ob44:List Ob:=[.all (.f (.get 4) [.v 0]) [.k .nil] [.f .app [.v 3,.f .mklist [.f .mkrow [.f (.get 0) [.v 2],.f (.get 1) [.v 2]]]]] [.room (.f .app [.v 3,.f .mklist [.f .mkrow [.f (.get 0) [.v 2],.f (.get 1) [.v 2]]]]) 32],.all (.f (.get 3) [.v 0]) [.k .nil] [.f .app [.v 3,.f .mklist [.f (.ext 44) [.v 2]]]] [.room (.f .app [.v 3,.f .mklist [.f (.ext 44) [.v 2]]]) 88,.pre 44 [.v 2]]]
def de45:DE:=(.fold 2 (.f .iota [.wh 2 (.f .leI [.k (.int 0),.v 4]) [.f (.sub .i64) [.v 1,.k (.int 1)],.k .nil] [.f (.sub .i64) [.v 4,.k (.int 1)],.f .app [.v 5,.f .mkbytes [.f (.wrap .u8) [.f (.shr .i64) [.v 0,.f (.mul .i64) [.k (.int 8),.v 4]]]]]]]) [.f (.sub .i64) [.v 1,.k (.int 1)],.k .nil] [.f (.sub .i64) [.v 4,.k (.int 1)],.f .app [.v 5,.f .mkbytes [.f (.wrap .u8) [.f (.shr .i64) [.v 0,.f (.mul .i64) [.k (.int 8),.v 4]]]]]] 1)
def ob45:List Ob:=[(.term 2 (.f .leI [.k (.int 0),.v 4]) [.f (.sub .i64) [.v 1,.k (.int 1)],.k .nil] [.f (.sub .i64) [.v 4,.k (.int 1)],.f .app [.v 5,.f .mkbytes [.f (.wrap .u8) [.f (.shr .i64) [.v 0,.f (.mul .i64) [.k (.int 8),.v 4]]]]]]),.all (.f .iotaS [.wh 2 (.f .leI [.k (.int 0),.v 4]) [.f (.sub .i64) [.v 1,.k (.int 1)],.k .nil] [.f (.sub .i64) [.v 4,.k (.int 1)],.f .app [.v 5,.f .mkbytes [.f (.wrap .u8) [.f (.shr .i64) [.v 0,.f (.mul .i64) [.k (.int 8),.v 4]]]]]]]) [.f (.sub .i64) [.v 1,.k (.int 1)],.k .nil] [.f (.sub .i64) [.v 4,.k (.int 1)],.f .app [.v 5,.f .mkbytes [.f (.wrap .u8) [.f (.shr .i64) [.v 0,.f (.mul .i64) [.k (.int 8),.v 4]]]]]] [.when (.f .leI [.k (.int 0),.v 4]) true [.room (.f .app [.v 5,.f .mkbytes [.f (.wrap .u8) [.f (.shr .i64) [.v 0,.f (.mul .i64) [.k (.int 8),.v 4]]]]]) 1,(.ge0 (.f (.mul .i64) [.k (.int 8),.v 4]))]]]
def de46:DE:=(.f .app [.fold 1 (.f .iota [.wh 1 (.f .ltI [.k (.int 127),.v 4]) [.k .nil,.v 0] [.f .app [.v 3,.f .mkbytes [.f (.bor .u8) [.f (.wrap .u8) [.f (.band .u64) [.v 4,.k (.int 127)]],.k (.int 128)]]],.f (.shr .u64) [.v 4,.k (.int 7)]]]) [.k .nil,.v 0] [.f .app [.v 3,.f .mkbytes [.f (.bor .u8) [.f (.wrap .u8) [.f (.band .u64) [.v 4,.k (.int 127)]],.k (.int 128)]]],.f (.shr .u64) [.v 4,.k (.int 7)]] 0,.f .mkbytes [.f (.wrap .u8) [.fold 1 (.f .iota [.wh 1 (.f .ltI [.k (.int 127),.v 4]) [.k .nil,.v 0] [.f .app [.v 3,.f .mkbytes [.f (.bor .u8) [.f (.wrap .u8) [.f (.band .u64) [.v 4,.k (.int 127)]],.k (.int 128)]]],.f (.shr .u64) [.v 4,.k (.int 7)]]]) [.k .nil,.v 0] [.f .app [.v 3,.f .mkbytes [.f (.bor .u8) [.f (.wrap .u8) [.f (.band .u64) [.v 4,.k (.int 127)]],.k (.int 128)]]],.f (.shr .u64) [.v 4,.k (.int 7)]] 1]]])
def ob46:List Ob:=[.room (.f .app [.fold 1 (.f .iota [.wh 1 (.f .ltI [.k (.int 127),.v 4]) [.k .nil,.v 0] [.f .app [.v 3,.f .mkbytes [.f (.bor .u8) [.f (.wrap .u8) [.f (.band .u64) [.v 4,.k (.int 127)]],.k (.int 128)]]],.f (.shr .u64) [.v 4,.k (.int 7)]]]) [.k .nil,.v 0] [.f .app [.v 3,.f .mkbytes [.f (.bor .u8) [.f (.wrap .u8) [.f (.band .u64) [.v 4,.k (.int 127)]],.k (.int 128)]]],.f (.shr .u64) [.v 4,.k (.int 7)]] 0,.f .mkbytes [.f (.wrap .u8) [.fold 1 (.f .iota [.wh 1 (.f .ltI [.k (.int 127),.v 4]) [.k .nil,.v 0] [.f .app [.v 3,.f .mkbytes [.f (.bor .u8) [.f (.wrap .u8) [.f (.band .u64) [.v 4,.k (.int 127)]],.k (.int 128)]]],.f (.shr .u64) [.v 4,.k (.int 7)]]]) [.k .nil,.v 0] [.f .app [.v 3,.f .mkbytes [.f (.bor .u8) [.f (.wrap .u8) [.f (.band .u64) [.v 4,.k (.int 127)]],.k (.int 128)]]],.f (.shr .u64) [.v 4,.k (.int 7)]] 1]]]) 1,(.term 1 (.f .ltI [.k (.int 127),.v 4]) [.k .nil,.v 0] [.f .app [.v 3,.f .mkbytes [.f (.bor .u8) [.f (.wrap .u8) [.f (.band .u64) [.v 4,.k (.int 127)]],.k (.int 128)]]],.f (.shr .u64) [.v 4,.k (.int 7)]]),.all (.f .iotaS [.wh 1 (.f .ltI [.k (.int 127),.v 4]) [.k .nil,.v 0] [.f .app [.v 3,.f .mkbytes [.f (.bor .u8) [.f (.wrap .u8) [.f (.band .u64) [.v 4,.k (.int 127)]],.k (.int 128)]]],.f (.shr .u64) [.v 4,.k (.int 7)]]]) [.k .nil,.v 0] [.f .app [.v 3,.f .mkbytes [.f (.bor .u8) [.f (.wrap .u8) [.f (.band .u64) [.v 4,.k (.int 127)]],.k (.int 128)]]],.f (.shr .u64) [.v 4,.k (.int 7)]] [.when (.f .ltI [.k (.int 127),.v 4]) true [.room (.f .app [.v 3,.f .mkbytes [.f (.bor .u8) [.f (.wrap .u8) [.f (.band .u64) [.v 4,.k (.int 127)]],.k (.int 128)]]]) 1]]]
def de47:DE:=(.f .ite [.f .not [.v 2],.fold 4 (.v 0) [.k .nil] [.f .ite [.f .ite [.f .ltI [.f (.get 4) [.v 5],.k (.int 0)],.f (.ext 57) [.v 5,.v 1],.k (.bool false)],.f .app [.v 6,.f (.ext 49) [.v 5,.v 1,.v 2,.f (.ext 40) [.v 3,.v 4]]],.v 6]] 0,.f .app [.f .app [.fold 4 (.v 0) [.k .nil] [.f .ite [.f .ite [.f .ltI [.f (.get 4) [.v 5],.k (.int 0)],.f (.ext 57) [.v 5,.v 1],.k (.bool false)],.f .app [.v 6,.f (.ext 49) [.v 5,.v 1,.v 2,.f (.ext 40) [.v 3,.v 4]]],.v 6]] 0,.f (.ext 46) [.f (.wrap .u64) [.fold 4 (.f (.ext 41) [.v 0,.f (.get 4) [.v 3]]) [.fold 4 (.f .iota [.f (.wrap .i64) [.f (.ext 51) [.v 0]]]) [.k (.int 0),.k .nil] [.fold 8 (.v 0) [.v 7,.v 6] [.f .ite [.f .ite [.f .eqI [.f (.get 4) [.v 9],.v 4],.f .not [.f (.ext 50) [.v 9,.f (.ext 40) [.v 3,.v 8]]],.k (.bool false)],.f .app [.f .app [.f .app [.v 10,.f (.ext 46) [.f (.wrap .u64) [.v 4]]],.f (.ext 46) [.f (.wrap .u64) [.f .len [.f (.ext 49) [.v 9,.v 1,.v 2,.f (.ext 40) [.v 3,.v 8]]]]]],.f (.ext 49) [.v 9,.v 1,.v 2,.f (.ext 40) [.v 3,.v 8]]],.v 10],.f .ite [.f .ite [.f .eqI [.f (.get 4) [.v 9],.v 4],.f .not [.f (.ext 50) [.v 9,.f (.ext 40) [.v 3,.v 8]]],.k (.bool false)],.f (.add .i64) [.v 11,.k (.int 1)],.v 11]] 1,.fold 8 (.v 0) [.v 7,.v 6] [.f .ite [.f .ite [.f .eqI [.f (.get 4) [.v 9],.v 4],.f .not [.f (.ext 50) [.v 9,.f (.ext 40) [.v 3,.v 8]]],.k (.bool false)],.f .app [.f .app [.f .app [.v 10,.f (.ext 46) [.f (.wrap .u64) [.v 4]]],.f (.ext 46) [.f (.wrap .u64) [.f .len [.f (.ext 49) [.v 9,.v 1,.v 2,.f (.ext 40) [.v 3,.v 8]]]]]],.f (.ext 49) [.v 9,.v 1,.v 2,.f (.ext 40) [.v 3,.v 8]]],.v 10],.f .ite [.f .ite [.f .eqI [.f (.get 4) [.v 9],.v 4],.f .not [.f (.ext 50) [.v 9,.f (.ext 40) [.v 3,.v 8]]],.k (.bool false)],.f (.add .i64) [.v 11,.k (.int 1)],.v 11]] 0] 1,.fold 4 (.f .iota [.f (.wrap .i64) [.f (.ext 51) [.v 0]]]) [.k (.int 0),.k .nil] [.fold 8 (.v 0) [.v 7,.v 6] [.f .ite [.f .ite [.f .eqI [.f (.get 4) [.v 9],.v 4],.f .not [.f (.ext 50) [.v 9,.f (.ext 40) [.v 3,.v 8]]],.k (.bool false)],.f .app [.f .app [.f .app [.v 10,.f (.ext 46) [.f (.wrap .u64) [.v 4]]],.f (.ext 46) [.f (.wrap .u64) [.f .len [.f (.ext 49) [.v 9,.v 1,.v 2,.f (.ext 40) [.v 3,.v 8]]]]]],.f (.ext 49) [.v 9,.v 1,.v 2,.f (.ext 40) [.v 3,.v 8]]],.v 10],.f .ite [.f .ite [.f .eqI [.f (.get 4) [.v 9],.v 4],.f .not [.f (.ext 50) [.v 9,.f (.ext 40) [.v 3,.v 8]]],.k (.bool false)],.f (.add .i64) [.v 11,.k (.int 1)],.v 11]] 1,.fold 8 (.v 0) [.v 7,.v 6] [.f .ite [.f .ite [.f .eqI [.f (.get 4) [.v 9],.v 4],.f .not [.f (.ext 50) [.v 9,.f (.ext 40) [.v 3,.v 8]]],.k (.bool false)],.f .app [.f .app [.f .app [.v 10,.f (.ext 46) [.f (.wrap .u64) [.v 4]]],.f (.ext 46) [.f (.wrap .u64) [.f .len [.f (.ext 49) [.v 9,.v 1,.v 2,.f (.ext 40) [.v 3,.v 8]]]]]],.f (.ext 49) [.v 9,.v 1,.v 2,.f (.ext 40) [.v 3,.v 8]]],.v 10],.f .ite [.f .ite [.f .eqI [.f (.get 4) [.v 9],.v 4],.f .not [.f (.ext 50) [.v 9,.f (.ext 40) [.v 3,.v 8]]],.k (.bool false)],.f (.add .i64) [.v 11,.k (.int 1)],.v 11]] 0] 0] [.f .app [.f .app [.f .app [.v 6,.f (.ext 46) [.f (.wrap .u64) [.f (.get 0) [.v 5]]]],.f (.ext 46) [.f (.wrap .u64) [.f .len [.f .take [.f (.get 1) [.v 5],.f .imin [.f .len [.f (.get 1) [.v 5]],.k (.int 32767)]]]]]],.f .take [.f (.get 1) [.v 5],.f .imin [.f .len [.f (.get 1) [.v 5]],.k (.int 32767)]]],.f (.add .i64) [.v 7,.k (.int 1)]] 1]]],.fold 4 (.f (.ext 41) [.v 0,.f (.get 4) [.v 3]]) [.fold 4 (.f .iota [.f (.wrap .i64) [.f (.ext 51) [.v 0]]]) [.k (.int 0),.k .nil] [.fold 8 (.v 0) [.v 7,.v 6] [.f .ite [.f .ite [.f .eqI [.f (.get 4) [.v 9],.v 4],.f .not [.f (.ext 50) [.v 9,.f (.ext 40) [.v 3,.v 8]]],.k (.bool false)],.f .app [.f .app [.f .app [.v 10,.f (.ext 46) [.f (.wrap .u64) [.v 4]]],.f (.ext 46) [.f (.wrap .u64) [.f .len [.f (.ext 49) [.v 9,.v 1,.v 2,.f (.ext 40) [.v 3,.v 8]]]]]],.f (.ext 49) [.v 9,.v 1,.v 2,.f (.ext 40) [.v 3,.v 8]]],.v 10],.f .ite [.f .ite [.f .eqI [.f (.get 4) [.v 9],.v 4],.f .not [.f (.ext 50) [.v 9,.f (.ext 40) [.v 3,.v 8]]],.k (.bool false)],.f (.add .i64) [.v 11,.k (.int 1)],.v 11]] 1,.fold 8 (.v 0) [.v 7,.v 6] [.f .ite [.f .ite [.f .eqI [.f (.get 4) [.v 9],.v 4],.f .not [.f (.ext 50) [.v 9,.f (.ext 40) [.v 3,.v 8]]],.k (.bool false)],.f .app [.f .app [.f .app [.v 10,.f (.ext 46) [.f (.wrap .u64) [.v 4]]],.f (.ext 46) [.f (.wrap .u64) [.f .len [.f (.ext 49) [.v 9,.v 1,.v 2,.f (.ext 40) [.v 3,.v 8]]]]]],.f (.ext 49) [.v 9,.v 1,.v 2,.f (.ext 40) [.v 3,.v 8]]],.v 10],.f .ite [.f .ite [.f .eqI [.f (.get 4) [.v 9],.v 4],.f .not [.f (.ext 50) [.v 9,.f (.ext 40) [.v 3,.v 8]]],.k (.bool false)],.f (.add .i64) [.v 11,.k (.int 1)],.v 11]] 0] 1,.fold 4 (.f .iota [.f (.wrap .i64) [.f (.ext 51) [.v 0]]]) [.k (.int 0),.k .nil] [.fold 8 (.v 0) [.v 7,.v 6] [.f .ite [.f .ite [.f .eqI [.f (.get 4) [.v 9],.v 4],.f .not [.f (.ext 50) [.v 9,.f (.ext 40) [.v 3,.v 8]]],.k (.bool false)],.f .app [.f .app [.f .app [.v 10,.f (.ext 46) [.f (.wrap .u64) [.v 4]]],.f (.ext 46) [.f (.wrap .u64) [.f .len [.f (.ext 49) [.v 9,.v 1,.v 2,.f (.ext 40) [.v 3,.v 8]]]]]],.f (.ext 49) [.v 9,.v 1,.v 2,.f (.ext 40) [.v 3,.v 8]]],.v 10],.f .ite [.f .ite [.f .eqI [.f (.get 4) [.v 9],.v 4],.f .not [.f (.ext 50) [.v 9,.f (.ext 40) [.v 3,.v 8]]],.k (.bool false)],.f (.add .i64) [.v 11,.k (.int 1)],.v 11]] 1,.fold 8 (.v 0) [.v 7,.v 6] [.f .ite [.f .ite [.f .eqI [.f (.get 4) [.v 9],.v 4],.f .not [.f (.ext 50) [.v 9,.f (.ext 40) [.v 3,.v 8]]],.k (.bool false)],.f .app [.f .app [.f .app [.v 10,.f (.ext 46) [.f (.wrap .u64) [.v 4]]],.f (.ext 46) [.f (.wrap .u64) [.f .len [.f (.ext 49) [.v 9,.v 1,.v 2,.f (.ext 40) [.v 3,.v 8]]]]]],.f (.ext 49) [.v 9,.v 1,.v 2,.f (.ext 40) [.v 3,.v 8]]],.v 10],.f .ite [.f .ite [.f .eqI [.f (.get 4) [.v 9],.v 4],.f .not [.f (.ext 50) [.v 9,.f (.ext 40) [.v 3,.v 8]]],.k (.bool false)],.f (.add .i64) [.v 11,.k (.int 1)],.v 11]] 0] 0] [.f .app [.f .app [.f .app [.v 6,.f (.ext 46) [.f (.wrap .u64) [.f (.get 0) [.v 5]]]],.f (.ext 46) [.f (.wrap .u64) [.f .len [.f .take [.f (.get 1) [.v 5],.f .imin [.f .len [.f (.get 1) [.v 5]],.k (.int 32767)]]]]]],.f .take [.f (.get 1) [.v 5],.f .imin [.f .len [.f (.get 1) [.v 5]],.k (.int 32767)]]],.f (.add .i64) [.v 7,.k (.int 1)]] 0]])
def ob47:List Ob:=[.when (.f .not [.v 2]) false [.room (.f .app [.f .app [.fold 4 (.v 0) [.k .nil] [.f .ite [.f .ite [.f .ltI [.f (.get 4) [.v 5],.k (.int 0)],.f (.ext 57) [.v 5,.v 1],.k (.bool false)],.f .app [.v 6,.f (.ext 49) [.v 5,.v 1,.v 2,.f (.ext 40) [.v 3,.v 4]]],.v 6]] 0,.f (.ext 46) [.f (.wrap .u64) [.fold 4 (.f (.ext 41) [.v 0,.f (.get 4) [.v 3]]) [.fold 4 (.f .iota [.f (.wrap .i64) [.f (.ext 51) [.v 0]]]) [.k (.int 0),.k .nil] [.fold 8 (.v 0) [.v 7,.v 6] [.f .ite [.f .ite [.f .eqI [.f (.get 4) [.v 9],.v 4],.f .not [.f (.ext 50) [.v 9,.f (.ext 40) [.v 3,.v 8]]],.k (.bool false)],.f .app [.f .app [.f .app [.v 10,.f (.ext 46) [.f (.wrap .u64) [.v 4]]],.f (.ext 46) [.f (.wrap .u64) [.f .len [.f (.ext 49) [.v 9,.v 1,.v 2,.f (.ext 40) [.v 3,.v 8]]]]]],.f (.ext 49) [.v 9,.v 1,.v 2,.f (.ext 40) [.v 3,.v 8]]],.v 10],.f .ite [.f .ite [.f .eqI [.f (.get 4) [.v 9],.v 4],.f .not [.f (.ext 50) [.v 9,.f (.ext 40) [.v 3,.v 8]]],.k (.bool false)],.f (.add .i64) [.v 11,.k (.int 1)],.v 11]] 1,.fold 8 (.v 0) [.v 7,.v 6] [.f .ite [.f .ite [.f .eqI [.f (.get 4) [.v 9],.v 4],.f .not [.f (.ext 50) [.v 9,.f (.ext 40) [.v 3,.v 8]]],.k (.bool false)],.f .app [.f .app [.f .app [.v 10,.f (.ext 46) [.f (.wrap .u64) [.v 4]]],.f (.ext 46) [.f (.wrap .u64) [.f .len [.f (.ext 49) [.v 9,.v 1,.v 2,.f (.ext 40) [.v 3,.v 8]]]]]],.f (.ext 49) [.v 9,.v 1,.v 2,.f (.ext 40) [.v 3,.v 8]]],.v 10],.f .ite [.f .ite [.f .eqI [.f (.get 4) [.v 9],.v 4],.f .not [.f (.ext 50) [.v 9,.f (.ext 40) [.v 3,.v 8]]],.k (.bool false)],.f (.add .i64) [.v 11,.k (.int 1)],.v 11]] 0] 1,.fold 4 (.f .iota [.f (.wrap .i64) [.f (.ext 51) [.v 0]]]) [.k (.int 0),.k .nil] [.fold 8 (.v 0) [.v 7,.v 6] [.f .ite [.f .ite [.f .eqI [.f (.get 4) [.v 9],.v 4],.f .not [.f (.ext 50) [.v 9,.f (.ext 40) [.v 3,.v 8]]],.k (.bool false)],.f .app [.f .app [.f .app [.v 10,.f (.ext 46) [.f (.wrap .u64) [.v 4]]],.f (.ext 46) [.f (.wrap .u64) [.f .len [.f (.ext 49) [.v 9,.v 1,.v 2,.f (.ext 40) [.v 3,.v 8]]]]]],.f (.ext 49) [.v 9,.v 1,.v 2,.f (.ext 40) [.v 3,.v 8]]],.v 10],.f .ite [.f .ite [.f .eqI [.f (.get 4) [.v 9],.v 4],.f .not [.f (.ext 50) [.v 9,.f (.ext 40) [.v 3,.v 8]]],.k (.bool false)],.f (.add .i64) [.v 11,.k (.int 1)],.v 11]] 1,.fold 8 (.v 0) [.v 7,.v 6] [.f .ite [.f .ite [.f .eqI [.f (.get 4) [.v 9],.v 4],.f .not [.f (.ext 50) [.v 9,.f (.ext 40) [.v 3,.v 8]]],.k (.bool false)],.f .app [.f .app [.f .app [.v 10,.f (.ext 46) [.f (.wrap .u64) [.v 4]]],.f (.ext 46) [.f (.wrap .u64) [.f .len [.f (.ext 49) [.v 9,.v 1,.v 2,.f (.ext 40) [.v 3,.v 8]]]]]],.f (.ext 49) [.v 9,.v 1,.v 2,.f (.ext 40) [.v 3,.v 8]]],.v 10],.f .ite [.f .ite [.f .eqI [.f (.get 4) [.v 9],.v 4],.f .not [.f (.ext 50) [.v 9,.f (.ext 40) [.v 3,.v 8]]],.k (.bool false)],.f (.add .i64) [.v 11,.k (.int 1)],.v 11]] 0] 0] [.f .app [.f .app [.f .app [.v 6,.f (.ext 46) [.f (.wrap .u64) [.f (.get 0) [.v 5]]]],.f (.ext 46) [.f (.wrap .u64) [.f .len [.f .take [.f (.get 1) [.v 5],.f .imin [.f .len [.f (.get 1) [.v 5]],.k (.int 32767)]]]]]],.f .take [.f (.get 1) [.v 5],.f .imin [.f .len [.f (.get 1) [.v 5]],.k (.int 32767)]]],.f (.add .i64) [.v 7,.k (.int 1)]] 1]]],.fold 4 (.f (.ext 41) [.v 0,.f (.get 4) [.v 3]]) [.fold 4 (.f .iota [.f (.wrap .i64) [.f (.ext 51) [.v 0]]]) [.k (.int 0),.k .nil] [.fold 8 (.v 0) [.v 7,.v 6] [.f .ite [.f .ite [.f .eqI [.f (.get 4) [.v 9],.v 4],.f .not [.f (.ext 50) [.v 9,.f (.ext 40) [.v 3,.v 8]]],.k (.bool false)],.f .app [.f .app [.f .app [.v 10,.f (.ext 46) [.f (.wrap .u64) [.v 4]]],.f (.ext 46) [.f (.wrap .u64) [.f .len [.f (.ext 49) [.v 9,.v 1,.v 2,.f (.ext 40) [.v 3,.v 8]]]]]],.f (.ext 49) [.v 9,.v 1,.v 2,.f (.ext 40) [.v 3,.v 8]]],.v 10],.f .ite [.f .ite [.f .eqI [.f (.get 4) [.v 9],.v 4],.f .not [.f (.ext 50) [.v 9,.f (.ext 40) [.v 3,.v 8]]],.k (.bool false)],.f (.add .i64) [.v 11,.k (.int 1)],.v 11]] 1,.fold 8 (.v 0) [.v 7,.v 6] [.f .ite [.f .ite [.f .eqI [.f (.get 4) [.v 9],.v 4],.f .not [.f (.ext 50) [.v 9,.f (.ext 40) [.v 3,.v 8]]],.k (.bool false)],.f .app [.f .app [.f .app [.v 10,.f (.ext 46) [.f (.wrap .u64) [.v 4]]],.f (.ext 46) [.f (.wrap .u64) [.f .len [.f (.ext 49) [.v 9,.v 1,.v 2,.f (.ext 40) [.v 3,.v 8]]]]]],.f (.ext 49) [.v 9,.v 1,.v 2,.f (.ext 40) [.v 3,.v 8]]],.v 10],.f .ite [.f .ite [.f .eqI [.f (.get 4) [.v 9],.v 4],.f .not [.f (.ext 50) [.v 9,.f (.ext 40) [.v 3,.v 8]]],.k (.bool false)],.f (.add .i64) [.v 11,.k (.int 1)],.v 11]] 0] 1,.fold 4 (.f .iota [.f (.wrap .i64) [.f (.ext 51) [.v 0]]]) [.k (.int 0),.k .nil] [.fold 8 (.v 0) [.v 7,.v 6] [.f .ite [.f .ite [.f .eqI [.f (.get 4) [.v 9],.v 4],.f .not [.f (.ext 50) [.v 9,.f (.ext 40) [.v 3,.v 8]]],.k (.bool false)],.f .app [.f .app [.f .app [.v 10,.f (.ext 46) [.f (.wrap .u64) [.v 4]]],.f (.ext 46) [.f (.wrap .u64) [.f .len [.f (.ext 49) [.v 9,.v 1,.v 2,.f (.ext 40) [.v 3,.v 8]]]]]],.f (.ext 49) [.v 9,.v 1,.v 2,.f (.ext 40) [.v 3,.v 8]]],.v 10],.f .ite [.f .ite [.f .eqI [.f (.get 4) [.v 9],.v 4],.f .not [.f (.ext 50) [.v 9,.f (.ext 40) [.v 3,.v 8]]],.k (.bool false)],.f (.add .i64) [.v 11,.k (.int 1)],.v 11]] 1,.fold 8 (.v 0) [.v 7,.v 6] [.f .ite [.f .ite [.f .eqI [.f (.get 4) [.v 9],.v 4],.f .not [.f (.ext 50) [.v 9,.f (.ext 40) [.v 3,.v 8]]],.k (.bool false)],.f .app [.f .app [.f .app [.v 10,.f (.ext 46) [.f (.wrap .u64) [.v 4]]],.f (.ext 46) [.f (.wrap .u64) [.f .len [.f (.ext 49) [.v 9,.v 1,.v 2,.f (.ext 40) [.v 3,.v 8]]]]]],.f (.ext 49) [.v 9,.v 1,.v 2,.f (.ext 40) [.v 3,.v 8]]],.v 10],.f .ite [.f .ite [.f .eqI [.f (.get 4) [.v 9],.v 4],.f .not [.f (.ext 50) [.v 9,.f (.ext 40) [.v 3,.v 8]]],.k (.bool false)],.f (.add .i64) [.v 11,.k (.int 1)],.v 11]] 0] 0] [.f .app [.f .app [.f .app [.v 6,.f (.ext 46) [.f (.wrap .u64) [.f (.get 0) [.v 5]]]],.f (.ext 46) [.f (.wrap .u64) [.f .len [.f .take [.f (.get 1) [.v 5],.f .imin [.f .len [.f (.get 1) [.v 5]],.k (.int 32767)]]]]]],.f .take [.f (.get 1) [.v 5],.f .imin [.f .len [.f (.get 1) [.v 5]],.k (.int 32767)]]],.f (.add .i64) [.v 7,.k (.int 1)]] 0]) 1,.room (.f .app [.fold 4 (.v 0) [.k .nil] [.f .ite [.f .ite [.f .ltI [.f (.get 4) [.v 5],.k (.int 0)],.f (.ext 57) [.v 5,.v 1],.k (.bool false)],.f .app [.v 6,.f (.ext 49) [.v 5,.v 1,.v 2,.f (.ext 40) [.v 3,.v 4]]],.v 6]] 0,.f (.ext 46) [.f (.wrap .u64) [.fold 4 (.f (.ext 41) [.v 0,.f (.get 4) [.v 3]]) [.fold 4 (.f .iota [.f (.wrap .i64) [.f (.ext 51) [.v 0]]]) [.k (.int 0),.k .nil] [.fold 8 (.v 0) [.v 7,.v 6] [.f .ite [.f .ite [.f .eqI [.f (.get 4) [.v 9],.v 4],.f .not [.f (.ext 50) [.v 9,.f (.ext 40) [.v 3,.v 8]]],.k (.bool false)],.f .app [.f .app [.f .app [.v 10,.f (.ext 46) [.f (.wrap .u64) [.v 4]]],.f (.ext 46) [.f (.wrap .u64) [.f .len [.f (.ext 49) [.v 9,.v 1,.v 2,.f (.ext 40) [.v 3,.v 8]]]]]],.f (.ext 49) [.v 9,.v 1,.v 2,.f (.ext 40) [.v 3,.v 8]]],.v 10],.f .ite [.f .ite [.f .eqI [.f (.get 4) [.v 9],.v 4],.f .not [.f (.ext 50) [.v 9,.f (.ext 40) [.v 3,.v 8]]],.k (.bool false)],.f (.add .i64) [.v 11,.k (.int 1)],.v 11]] 1,.fold 8 (.v 0) [.v 7,.v 6] [.f .ite [.f .ite [.f .eqI [.f (.get 4) [.v 9],.v 4],.f .not [.f (.ext 50) [.v 9,.f (.ext 40) [.v 3,.v 8]]],.k (.bool false)],.f .app [.f .app [.f .app [.v 10,.f (.ext 46) [.f (.wrap .u64) [.v 4]]],.f (.ext 46) [.f (.wrap .u64) [.f .len [.f (.ext 49) [.v 9,.v 1,.v 2,.f (.ext 40) [.v 3,.v 8]]]]]],.f (.ext 49) [.v 9,.v 1,.v 2,.f (.ext 40) [.v 3,.v 8]]],.v 10],.f .ite [.f .ite [.f .eqI [.f (.get 4) [.v 9],.v 4],.f .not [.f (.ext 50) [.v 9,.f (.ext 40) [.v 3,.v 8]]],.k (.bool false)],.f (.add .i64) [.v 11,.k (.int 1)],.v 11]] 0] 1,.fold 4 (.f .iota [.f (.wrap .i64) [.f (.ext 51) [.v 0]]]) [.k (.int 0),.k .nil] [.fold 8 (.v 0) [.v 7,.v 6] [.f .ite [.f .ite [.f .eqI [.f (.get 4) [.v 9],.v 4],.f .not [.f (.ext 50) [.v 9,.f (.ext 40) [.v 3,.v 8]]],.k (.bool false)],.f .app [.f .app [.f .app [.v 10,.f (.ext 46) [.f (.wrap .u64) [.v 4]]],.f (.ext 46) [.f (.wrap .u64) [.f .len [.f (.ext 49) [.v 9,.v 1,.v 2,.f (.ext 40) [.v 3,.v 8]]]]]],.f (.ext 49) [.v 9,.v 1,.v 2,.f (.ext 40) [.v 3,.v 8]]],.v 10],.f .ite [.f .ite [.f .eqI [.f (.get 4) [.v 9],.v 4],.f .not [.f (.ext 50) [.v 9,.f (.ext 40) [.v 3,.v 8]]],.k (.bool false)],.f (.add .i64) [.v 11,.k (.int 1)],.v 11]] 1,.fold 8 (.v 0) [.v 7,.v 6] [.f .ite [.f .ite [.f .eqI [.f (.get 4) [.v 9],.v 4],.f .not [.f (.ext 50) [.v 9,.f (.ext 40) [.v 3,.v 8]]],.k (.bool false)],.f .app [.f .app [.f .app [.v 10,.f (.ext 46) [.f (.wrap .u64) [.v 4]]],.f (.ext 46) [.f (.wrap .u64) [.f .len [.f (.ext 49) [.v 9,.v 1,.v 2,.f (.ext 40) [.v 3,.v 8]]]]]],.f (.ext 49) [.v 9,.v 1,.v 2,.f (.ext 40) [.v 3,.v 8]]],.v 10],.f .ite [.f .ite [.f .eqI [.f (.get 4) [.v 9],.v 4],.f .not [.f (.ext 50) [.v 9,.f (.ext 40) [.v 3,.v 8]]],.k (.bool false)],.f (.add .i64) [.v 11,.k (.int 1)],.v 11]] 0] 0] [.f .app [.f .app [.f .app [.v 6,.f (.ext 46) [.f (.wrap .u64) [.f (.get 0) [.v 5]]]],.f (.ext 46) [.f (.wrap .u64) [.f .len [.f .take [.f (.get 1) [.v 5],.f .imin [.f .len [.f (.get 1) [.v 5]],.k (.int 32767)]]]]]],.f .take [.f (.get 1) [.v 5],.f .imin [.f .len [.f (.get 1) [.v 5]],.k (.int 32767)]]],.f (.add .i64) [.v 7,.k (.int 1)]] 1]]]) 1,.pre 46 [.f (.wrap .u64) [.fold 4 (.f (.ext 41) [.v 0,.f (.get 4) [.v 3]]) [.fold 4 (.f .iota [.f (.wrap .i64) [.f (.ext 51) [.v 0]]]) [.k (.int 0),.k .nil] [.fold 8 (.v 0) [.v 7,.v 6] [.f .ite [.f .ite [.f .eqI [.f (.get 4) [.v 9],.v 4],.f .not [.f (.ext 50) [.v 9,.f (.ext 40) [.v 3,.v 8]]],.k (.bool false)],.f .app [.f .app [.f .app [.v 10,.f (.ext 46) [.f (.wrap .u64) [.v 4]]],.f (.ext 46) [.f (.wrap .u64) [.f .len [.f (.ext 49) [.v 9,.v 1,.v 2,.f (.ext 40) [.v 3,.v 8]]]]]],.f (.ext 49) [.v 9,.v 1,.v 2,.f (.ext 40) [.v 3,.v 8]]],.v 10],.f .ite [.f .ite [.f .eqI [.f (.get 4) [.v 9],.v 4],.f .not [.f (.ext 50) [.v 9,.f (.ext 40) [.v 3,.v 8]]],.k (.bool false)],.f (.add .i64) [.v 11,.k (.int 1)],.v 11]] 1,.fold 8 (.v 0) [.v 7,.v 6] [.f .ite [.f .ite [.f .eqI [.f (.get 4) [.v 9],.v 4],.f .not [.f (.ext 50) [.v 9,.f (.ext 40) [.v 3,.v 8]]],.k (.bool false)],.f .app [.f .app [.f .app [.v 10,.f (.ext 46) [.f (.wrap .u64) [.v 4]]],.f (.ext 46) [.f (.wrap .u64) [.f .len [.f (.ext 49) [.v 9,.v 1,.v 2,.f (.ext 40) [.v 3,.v 8]]]]]],.f (.ext 49) [.v 9,.v 1,.v 2,.f (.ext 40) [.v 3,.v 8]]],.v 10],.f .ite [.f .ite [.f .eqI [.f (.get 4) [.v 9],.v 4],.f .not [.f (.ext 50) [.v 9,.f (.ext 40) [.v 3,.v 8]]],.k (.bool false)],.f (.add .i64) [.v 11,.k (.int 1)],.v 11]] 0] 1,.fold 4 (.f .iota [.f (.wrap .i64) [.f (.ext 51) [.v 0]]]) [.k (.int 0),.k .nil] [.fold 8 (.v 0) [.v 7,.v 6] [.f .ite [.f .ite [.f .eqI [.f (.get 4) [.v 9],.v 4],.f .not [.f (.ext 50) [.v 9,.f (.ext 40) [.v 3,.v 8]]],.k (.bool false)],.f .app [.f .app [.f .app [.v 10,.f (.ext 46) [.f (.wrap .u64) [.v 4]]],.f (.ext 46) [.f (.wrap .u64) [.f .len [.f (.ext 49) [.v 9,.v 1,.v 2,.f (.ext 40) [.v 3,.v 8]]]]]],.f (.ext 49) [.v 9,.v 1,.v 2,.f (.ext 40) [.v 3,.v 8]]],.v 10],.f .ite [.f .ite [.f .eqI [.f (.get 4) [.v 9],.v 4],.f .not [.f (.ext 50) [.v 9,.f (.ext 40) [.v 3,.v 8]]],.k (.bool false)],.f (.add .i64) [.v 11,.k (.int 1)],.v 11]] 1,.fold 8 (.v 0) [.v 7,.v 6] [.f .ite [.f .ite [.f .eqI [.f (.get 4) [.v 9],.v 4],.f .not [.f (.ext 50) [.v 9,.f (.ext 40) [.v 3,.v 8]]],.k (.bool false)],.f .app [.f .app [.f .app [.v 10,.f (.ext 46) [.f (.wrap .u64) [.v 4]]],.f (.ext 46) [.f (.wrap .u64) [.f .len [.f (.ext 49) [.v 9,.v 1,.v 2,.f (.ext 40) [.v 3,.v 8]]]]]],.f (.ext 49) [.v 9,.v 1,.v 2,.f (.ext 40) [.v 3,.v 8]]],.v 10],.f .ite [.f .ite [.f .eqI [.f (.get 4) [.v 9],.v 4],.f .not [.f (.ext 50) [.v 9,.f (.ext 40) [.v 3,.v 8]]],.k (.bool false)],.f (.add .i64) [.v 11,.k (.int 1)],.v 11]] 0] 0] [.f .app [.f .app [.f .app [.v 6,.f (.ext 46) [.f (.wrap .u64) [.f (.get 0) [.v 5]]]],.f (.ext 46) [.f (.wrap .u64) [.f .len [.f .take [.f (.get 1) [.v 5],.f .imin [.f .len [.f (.get 1) [.v 5]],.k (.int 32767)]]]]]],.f .take [.f (.get 1) [.v 5],.f .imin [.f .len [.f (.get 1) [.v 5]],.k (.int 32767)]]],.f (.add .i64) [.v 7,.k (.int 1)]] 1]],.all (.f (.ext 41) [.v 0,.f (.get 4) [.v 3]]) [.fold 4 (.f .iota [.f (.wrap .i64) [.f (.ext 51) [.v 0]]]) [.k (.int 0),.k .nil] [.fold 8 (.v 0) [.v 7,.v 6] [.f .ite [.f .ite [.f .eqI [.f (.get 4) [.v 9],.v 4],.f .not [.f (.ext 50) [.v 9,.f (.ext 40) [.v 3,.v 8]]],.k (.bool false)],.f .app [.f .app [.f .app [.v 10,.f (.ext 46) [.f (.wrap .u64) [.v 4]]],.f (.ext 46) [.f (.wrap .u64) [.f .len [.f (.ext 49) [.v 9,.v 1,.v 2,.f (.ext 40) [.v 3,.v 8]]]]]],.f (.ext 49) [.v 9,.v 1,.v 2,.f (.ext 40) [.v 3,.v 8]]],.v 10],.f .ite [.f .ite [.f .eqI [.f (.get 4) [.v 9],.v 4],.f .not [.f (.ext 50) [.v 9,.f (.ext 40) [.v 3,.v 8]]],.k (.bool false)],.f (.add .i64) [.v 11,.k (.int 1)],.v 11]] 1,.fold 8 (.v 0) [.v 7,.v 6] [.f .ite [.f .ite [.f .eqI [.f (.get 4) [.v 9],.v 4],.f .not [.f (.ext 50) [.v 9,.f (.ext 40) [.v 3,.v 8]]],.k (.bool false)],.f .app [.f .app [.f .app [.v 10,.f (.ext 46) [.f (.wrap .u64) [.v 4]]],.f (.ext 46) [.f (.wrap .u64) [.f .len [.f (.ext 49) [.v 9,.v 1,.v 2,.f (.ext 40) [.v 3,.v 8]]]]]],.f (.ext 49) [.v 9,.v 1,.v 2,.f (.ext 40) [.v 3,.v 8]]],.v 10],.f .ite [.f .ite [.f .eqI [.f (.get 4) [.v 9],.v 4],.f .not [.f (.ext 50) [.v 9,.f (.ext 40) [.v 3,.v 8]]],.k (.bool false)],.f (.add .i64) [.v 11,.k (.int 1)],.v 11]] 0] 1,.fold 4 (.f .iota [.f (.wrap .i64) [.f (.ext 51) [.v 0]]]) [.k (.int 0),.k .nil] [.fold 8 (.v 0) [.v 7,.v 6] [.f .ite [.f .ite [.f .eqI [.f (.get 4) [.v 9],.v 4],.f .not [.f (.ext 50) [.v 9,.f (.ext 40) [.v 3,.v 8]]],.k (.bool false)],.f .app [.f .app [.f .app [.v 10,.f (.ext 46) [.f (.wrap .u64) [.v 4]]],.f (.ext 46) [.f (.wrap .u64) [.f .len [.f (.ext 49) [.v 9,.v 1,.v 2,.f (.ext 40) [.v 3,.v 8]]]]]],.f (.ext 49) [.v 9,.v 1,.v 2,.f (.ext 40) [.v 3,.v 8]]],.v 10],.f .ite [.f .ite [.f .eqI [.f (.get 4) [.v 9],.v 4],.f .not [.f (.ext 50) [.v 9,.f (.ext 40) [.v 3,.v 8]]],.k (.bool false)],.f (.add .i64) [.v 11,.k (.int 1)],.v 11]] 1,.fold 8 (.v 0) [.v 7,.v 6] [.f .ite [.f .ite [.f .eqI [.f (.get 4) [.v 9],.v 4],.f .not [.f (.ext 50) [.v 9,.f (.ext 40) [.v 3,.v 8]]],.k (.bool false)],.f .app [.f .app [.f .app [.v 10,.f (.ext 46) [.f (.wrap .u64) [.v 4]]],.f (.ext 46) [.f (.wrap .u64) [.f .len [.f (.ext 49) [.v 9,.v 1,.v 2,.f (.ext 40) [.v 3,.v 8]]]]]],.f (.ext 49) [.v 9,.v 1,.v 2,.f (.ext 40) [.v 3,.v 8]]],.v 10],.f .ite [.f .ite [.f .eqI [.f (.get 4) [.v 9],.v 4],.f .not [.f (.ext 50) [.v 9,.f (.ext 40) [.v 3,.v 8]]],.k (.bool false)],.f (.add .i64) [.v 11,.k (.int 1)],.v 11]] 0] 0] [.f .app [.f .app [.f .app [.v 6,.f (.ext 46) [.f (.wrap .u64) [.f (.get 0) [.v 5]]]],.f (.ext 46) [.f (.wrap .u64) [.f .len [.f .take [.f (.get 1) [.v 5],.f .imin [.f .len [.f (.get 1) [.v 5]],.k (.int 32767)]]]]]],.f .take [.f (.get 1) [.v 5],.f .imin [.f .len [.f (.get 1) [.v 5]],.k (.int 32767)]]],.f (.add .i64) [.v 7,.k (.int 1)]] [.room (.f .app [.f .app [.f .app [.v 6,.f (.ext 46) [.f (.wrap .u64) [.f (.get 0) [.v 5]]]],.f (.ext 46) [.f (.wrap .u64) [.f .len [.f .take [.f (.get 1) [.v 5],.f .imin [.f .len [.f (.get 1) [.v 5]],.k (.int 32767)]]]]]],.f .take [.f (.get 1) [.v 5],.f .imin [.f .len [.f (.get 1) [.v 5]],.k (.int 32767)]]]) 1,.room (.f .app [.f .app [.v 6,.f (.ext 46) [.f (.wrap .u64) [.f (.get 0) [.v 5]]]],.f (.ext 46) [.f (.wrap .u64) [.f .len [.f .take [.f (.get 1) [.v 5],.f .imin [.f .len [.f (.get 1) [.v 5]],.k (.int 32767)]]]]]]) 1,.pre 46 [.f (.wrap .u64) [.f .len [.f .take [.f (.get 1) [.v 5],.f .imin [.f .len [.f (.get 1) [.v 5]],.k (.int 32767)]]]]],.room (.f .app [.v 6,.f (.ext 46) [.f (.wrap .u64) [.f (.get 0) [.v 5]]]]) 1,.pre 46 [.f (.wrap .u64) [.f (.get 0) [.v 5]]],.idx (.f .imin [.f .len [.f (.get 1) [.v 5]],.k (.int 32767)]) (.f (.get 1) [.v 5]) false],.pre 41 [.v 0,.f (.get 4) [.v 3]],.all (.f .iota [.f (.wrap .i64) [.f (.ext 51) [.v 0]]]) [.k (.int 0),.k .nil] [.fold 8 (.v 0) [.v 7,.v 6] [.f .ite [.f .ite [.f .eqI [.f (.get 4) [.v 9],.v 4],.f .not [.f (.ext 50) [.v 9,.f (.ext 40) [.v 3,.v 8]]],.k (.bool false)],.f .app [.f .app [.f .app [.v 10,.f (.ext 46) [.f (.wrap .u64) [.v 4]]],.f (.ext 46) [.f (.wrap .u64) [.f .len [.f (.ext 49) [.v 9,.v 1,.v 2,.f (.ext 40) [.v 3,.v 8]]]]]],.f (.ext 49) [.v 9,.v 1,.v 2,.f (.ext 40) [.v 3,.v 8]]],.v 10],.f .ite [.f .ite [.f .eqI [.f (.get 4) [.v 9],.v 4],.f .not [.f (.ext 50) [.v 9,.f (.ext 40) [.v 3,.v 8]]],.k (.bool false)],.f (.add .i64) [.v 11,.k (.int 1)],.v 11]] 1,.fold 8 (.v 0) [.v 7,.v 6] [.f .ite [.f .ite [.f .eqI [.f (.get 4) [.v 9],.v 4],.f .not [.f (.ext 50) [.v 9,.f (.ext 40) [.v 3,.v 8]]],.k (.bool false)],.f .app [.f .app [.f .app [.v 10,.f (.ext 46) [.f (.wrap .u64) [.v 4]]],.f (.ext 46) [.f (.wrap .u64) [.f .len [.f (.ext 49) [.v 9,.v 1,.v 2,.f (.ext 40) [.v 3,.v 8]]]]]],.f (.ext 49) [.v 9,.v 1,.v 2,.f (.ext 40) [.v 3,.v 8]]],.v 10],.f .ite [.f .ite [.f .eqI [.f (.get 4) [.v 9],.v 4],.f .not [.f (.ext 50) [.v 9,.f (.ext 40) [.v 3,.v 8]]],.k (.bool false)],.f (.add .i64) [.v 11,.k (.int 1)],.v 11]] 0] [.all (.v 0) [.v 7,.v 6] [.f .ite [.f .ite [.f .eqI [.f (.get 4) [.v 9],.v 4],.f .not [.f (.ext 50) [.v 9,.f (.ext 40) [.v 3,.v 8]]],.k (.bool false)],.f .app [.f .app [.f .app [.v 10,.f (.ext 46) [.f (.wrap .u64) [.v 4]]],.f (.ext 46) [.f (.wrap .u64) [.f .len [.f (.ext 49) [.v 9,.v 1,.v 2,.f (.ext 40) [.v 3,.v 8]]]]]],.f (.ext 49) [.v 9,.v 1,.v 2,.f (.ext 40) [.v 3,.v 8]]],.v 10],.f .ite [.f .ite [.f .eqI [.f (.get 4) [.v 9],.v 4],.f .not [.f (.ext 50) [.v 9,.f (.ext 40) [.v 3,.v 8]]],.k (.bool false)],.f (.add .i64) [.v 11,.k (.int 1)],.v 11]] [.when (.f .ite [.f .eqI [.f (.get 4) [.v 9],.v 4],.f .not [.f (.ext 50) [.v 9,.f (.ext 40) [.v 3,.v 8]]],.k (.bool false)]) true [.room (.f .app [.f .app [.f .app [.v 10,.f (.ext 46) [.f (.wrap .u64) [.v 4]]],.f (.ext 46) [.f (.wrap .u64) [.f .len [.f (.ext 49) [.v 9,.v 1,.v 2,.f (.ext 40) [.v 3,.v 8]]]]]],.f (.ext 49) [.v 9,.v 1,.v 2,.f (.ext 40) [.v 3,.v 8]]]) 1,.room (.f .app [.f .app [.v 10,.f (.ext 46) [.f (.wrap .u64) [.v 4]]],.f (.ext 46) [.f (.wrap .u64) [.f .len [.f (.ext 49) [.v 9,.v 1,.v 2,.f (.ext 40) [.v 3,.v 8]]]]]]) 1,.pre 46 [.f (.wrap .u64) [.f .len [.f (.ext 49) [.v 9,.v 1,.v 2,.f (.ext 40) [.v 3,.v 8]]]]],.room (.f .app [.v 10,.f (.ext 46) [.f (.wrap .u64) [.v 4]]]) 1,.pre 46 [.f (.wrap .u64) [.v 4]],.pre 49 [.v 9,.v 1,.v 2,.f (.ext 40) [.v 3,.v 8]],.pre 40 [.v 3,.v 8]],.when (.f .eqI [.f (.get 4) [.v 9],.v 4]) true [.pre 50 [.v 9,.f (.ext 40) [.v 3,.v 8]],.pre 40 [.v 3,.v 8]]]],.pre 51 [.v 0]],.all (.v 0) [.k .nil] [.f .ite [.f .ite [.f .ltI [.f (.get 4) [.v 5],.k (.int 0)],.f (.ext 57) [.v 5,.v 1],.k (.bool false)],.f .app [.v 6,.f (.ext 49) [.v 5,.v 1,.v 2,.f (.ext 40) [.v 3,.v 4]]],.v 6]] [.when (.f .ite [.f .ltI [.f (.get 4) [.v 5],.k (.int 0)],.f (.ext 57) [.v 5,.v 1],.k (.bool false)]) true [.room (.f .app [.v 6,.f (.ext 49) [.v 5,.v 1,.v 2,.f (.ext 40) [.v 3,.v 4]]]) 1,.pre 49 [.v 5,.v 1,.v 2,.f (.ext 40) [.v 3,.v 4]],.pre 40 [.v 3,.v 4]],.when (.f .ltI [.f (.get 4) [.v 5],.k (.int 0)]) true [.pre 57 [.v 5,.v 1]]]]
def de48:DE:=(.f .ite [.f .eqI [.v 0,.k (.int 0)],.f .mkbytes [.f (.wrap .u8) [.f (.band .i64) [.f (.get 0) [.v 5],.k (.int 1)]]],.f .ite [.f .eqI [.v 0,.k (.int 7)],.f .copy [.f .zeros [.k (.int 16)],.f (.get 1) [.v 5]],.f .ite [.f .eqI [.v 0,.k (.int 8)],.f .app [.f (.ext 53) [.v 4,.v 2,.f .len [.f .ite [.v 2,.k .nil,.f .take [.f (.get 1) [.v 5],.f .imin [.f .len [.f (.get 1) [.v 5]],.k (.int 32767)]]]],.k (.int 2)],.f .ite [.v 2,.k .nil,.f .take [.f (.get 1) [.v 5],.f .imin [.f .len [.f (.get 1) [.v 5]],.k (.int 32767)]]]],.f .ite [.f .eqI [.v 0,.k (.int 9)],.f .app [.f (.ext 53) [.v 4,.v 2,.f .len [.f .ite [.v 2,.k .nil,.f .take [.f (.get 1) [.v 5],.f .imin [.f .len [.f (.get 1) [.v 5]],.k (.int 32767)]]]],.k (.int 4)],.f .ite [.v 2,.k .nil,.f .take [.f (.get 1) [.v 5],.f .imin [.f .len [.f (.get 1) [.v 5]],.k (.int 32767)]]]],.f .ite [.f .eqI [.v 0,.k (.int 10)],.f (.ext 47) [.v 1,.v 3,.v 4,.v 5],.f (.ext 45) [.f (.get 0) [.v 5],.f (.ext 55) [.v 0]]]]]]])
def ob48:List Ob:=[.when (.f .eqI [.v 0,.k (.int 0)]) false [.when (.f .eqI [.v 0,.k (.int 7)]) true [.cap (.k (.int 16)) 1],.when (.f .eqI [.v 0,.k (.int 7)]) false [.when (.f .eqI [.v 0,.k (.int 8)]) true [.room (.f .app [.f (.ext 53) [.v 4,.v 2,.f .len [.f .ite [.v 2,.k .nil,.f .take [.f (.get 1) [.v 5],.f .imin [.f .len [.f (.get 1) [.v 5]],.k (.int 32767)]]]],.k (.int 2)],.f .ite [.v 2,.k .nil,.f .take [.f (.get 1) [.v 5],.f .imin [.f .len [.f (.get 1) [.v 5]],.k (.int 32767)]]]]) 1,.pre 53 [.v 4,.v 2,.f .len [.f .ite [.v 2,.k .nil,.f .take [.f (.get 1) [.v 5],.f .imin [.f .len [.f (.get 1) [.v 5]],.k (.int 32767)]]]],.k (.int 2)],.idx (.f .imin [.f .len [.f (.get 1) [.v 5]],.k (.int 32767)]) (.f (.get 1) [.v 5]) false],.when (.f .eqI [.v 0,.k (.int 8)]) false [.when (.f .eqI [.v 0,.k (.int 9)]) true [.room (.f .app [.f (.ext 53) [.v 4,.v 2,.f .len [.f .ite [.v 2,.k .nil,.f .take [.f (.get 1) [.v 5],.f .imin [.f .len [.f (.get 1) [.v 5]],.k (.int 32767)]]]],.k (.int 4)],.f .ite [.v 2,.k .nil,.f .take [.f (.get 1) [.v 5],.f .imin [.f .len [.f (.get 1) [.v 5]],.k (.int 32767)]]]]) 1,.pre 53 [.v 4,.v 2,.f .len [.f .ite [.v 2,.k .nil,.f .take [.f (.get 1) [.v 5],.f .imin [.f .len [.f (.get 1) [.v 5]],.k (.int 32767)]]]],.k (.int 4)],.idx (.f .imin [.f .len [.f (.get 1) [.v 5]],.k (.int 32767)]) (.f (.get 1) [.v 5]) false],.when (.f .eqI [.v 0,.k (.int 9)]) false [.when (.f .eqI [.v 0,.k (.int 10)]) true [.pre 47 [.v 1,.v 3,.v 4,.v 5]],.when (.f .eqI [.v 0,.k (.int 10)]) false [.pre 45 [.f (.get 0) [.v 5],.f (.ext 55) [.v 0]],.pre 55 [.v 0]]]]]]]
def de49:DE:=(.f .ite [.f .eqI [.f (.get 0) [.v 0],.k (.int 11)],.fold 4 (.f .ite [.f (.ext 56) [.v 0,.v 1,.v 3],.k .nil,.f .take [.f (.get 3) [.v 3],.f .imin [.f .len [.f (.get 3) [.v 3]],.k (.int 32767)]]]) [.f (.ext 53) [.v 2,.f (.ext 56) [.v 0,.v 1,.v 3],.f .len [.f .ite [.f (.ext 56) [.v 0,.v 1,.v 3],.k .nil,.f .take [.f (.get 3) [.v 3],.f .imin [.f .len [.f (.get 3) [.v 3]],.k (.int 32767)]]]],.k (.int 4)]] [.f .app [.v 6,.f (.ext 48) [.f (.get 6) [.v 0],.f (.get 7) [.v 0],.k (.bool false),.v 1,.v 2,.v 5]]] 0,.f .ite [.f .ite [.f .eqI [.f (.get 0) [.v 0],.k (.int 10)],.f .leI [.k (.int 0),.f (.get 3) [.v 0]],.k (.bool false)],.f .ite [.f (.ext 56) [.v 0,.v 1,.v 3],.f (.ext 45) [.k (.int (-1)),.k (.int 1)],.f .app [.f (.ext 45) [.k (.int 1),.k (.int 1)],.f (.ext 47) [.f (.get 7) [.v 0],.v 1,.v 2,.v 3]]],.f (.ext 48) [.f (.get 0) [.v 0],.f (.get 7) [.v 0],.f (.ext 56) [.v 0,.v 1,.v 3],.v 1,.v 2,.v 3]]])
def ob49:List Ob:=[.when (.f .eqI [.f (.get 0) [.v 0],.k (.int 11)]) true [.all (.f .ite [.f (.ext 56) [.v 0,.v 1,.v 3],.k .nil,.f .take [.f (.get 3) [.v 3],.f .imin [.f .len [.f (.get 3) [.v 3]],.k (.int 32767)]]]) [.f (.ext 53) [.v 2,.f (.ext 56) [.v 0,.v 1,.v 3],.f .len [.f .ite [.f (.ext 56) [.v 0,.v 1,.v 3],.k .nil,.f .take [.f (.get 3) [.v 3],.f .imin [.f .len [.f (.get 3) [.v 3]],.k (.int 32767)]]]],.k (.int 4)]] [.f .app [.v 6,.f (.ext 48) [.f (.get 6) [.v 0],.f (.get 7) [.v 0],.k (.bool false),.v 1,.v 2,.v 5]]] [.room (.f .app [.v 6,.f (.ext 48) [.f (.get 6) [.v 0],.f (.get 7) [.v 0],.k (.bool false),.v 1,.v 2,.v 5]]) 1,.pre 48 [.f (.get 6) [.v 0],.f (.get 7) [.v 0],.k (.bool false),.v 1,.v 2,.v 5]],.pre 53 [.v 2,.f (.ext 56) [.v 0,.v 1,.v 3],.f .len [.f .ite [.f (.ext 56) [.v 0,.v 1,.v 3],.k .nil,.f .take [.f (.get 3) [.v 3],.f .imin [.f .len [.f (.get 3) [.v 3]],.k (.int 32767)]]]],.k (.int 4)],.idx (.f .imin [.f .len [.f (.get 3) [.v 3]],.k (.int 32767)]) (.f (.get 3) [.v 3]) false],.when (.f .eqI [.f (.get 0) [.v 0],.k (.int 11)]) false [.when (.f .ite [.f .eqI [.f (.get 0) [.v 0],.k (.int 10)],.f .leI [.k (.int 0),.f (.get 3) [.v 0]],.k (.bool false)]) true [.when (.f (.ext 56) [.v 0,.v 1,.v 3]) true [.pre 45 [.k (.int (-1)),.k (.int 1)]],.when (.f (.ext 56) [.v 0,.v 1,.v 3]) false [.room (.f .app [.f (.ext 45) [.k (.int 1),.k (.int 1)],.f (.ext 47) [.f (.get 7) [.v 0],.v 1,.v 2,.v 3]]) 1,.pre 47 [.f (.get 7) [.v 0],.v 1,.v 2,.v 3],.pre 45 [.k (.int 1),.k (.int 1)]]],.when (.f .ite [.f .eqI [.f (.get 0) [.v 0],.k (.int 10)],.f .leI [.k (.int 0),.f (.get 3) [.v 0]],.k (.bool false)]) false [.pre 48 [.f (.get 0) [.v 0],.f (.get 7) [.v 0],.f (.ext 56) [.v 0,.v 1,.v 3],.v 1,.v 2,.v 3]]],.pre 56 [.v 0,.v 1,.v 3]]
def de50:DE:=(.f .ite [.f .eqI [.f (.get 0) [.v 0],.k (.int 0)],.f .eqI [.f (.band .i64) [.f (.get 0) [.v 1],.k (.int 1)],.f (.get 5) [.v 0]],.f .ite [.f .eqI [.f (.get 0) [.v 0],.k (.int 7)],.f .ite [.fold 2 (.f (.get 1) [.v 1]) [.k (.bool false)] [.f .ite [.v 4,.k (.bool true),.f .ite [.f .ltI [.v 2,.k (.int 16)],.f .neI [.f (.get 0) [.v 3],.k (.int 0)],.k (.bool false)]]] 0,.k (.bool false),.k (.bool true)],.f .ite [.f .ite [.f .eqI [.f (.get 0) [.v 0],.k (.int 8)],.f .eqI [.f (.get 0) [.v 0],.k (.int 8)],.f .eqI [.f (.get 0) [.v 0],.k (.int 9)]],.f .ite [.f .leI [.k (.int 0),.f (.get 3) [.v 0]],.f (.get 2) [.v 1],.f .eqI [.f .len [.f (.get 1) [.v 1]],.k (.int 0)]],.f .ite [.f .eqI [.f (.get 0) [.v 0],.k (.int 11)],.f .eqI [.f .len [.f (.get 3) [.v 1]],.k (.int 0)],.f .ite [.f .eqI [.f (.get 0) [.v 0],.k (.int 10)],.f .ite [.fold 2 (.f (.get 7) [.v 0]) [.k (.bool false)] [.f .ite [.v 4,.k (.bool true),.f .not [.f (.ext 50) [.v 3,.f (.ext 40) [.v 1,.v 2]]]]] 0,.k (.bool false),.f .eqI [.f .len [.f (.ext 41) [.f (.get 7) [.v 0],.f (.get 4) [.v 1]]],.k (.int 0)]],.f (.ext 52) [.f (.ext 45) [.f (.get 0) [.v 1],.f (.ext 55) [.f (.get 0) [.v 0]]],.f (.ext 45) [.f (.get 5) [.v 0],.f (.ext 55) [.f (.get 0) [.v 0]]]]]]]]])
def ob50:List Ob:=[.when (.f .eqI [.f (.get 0) [.v 0],.k (.int 0)]) false [.when (.f .eqI [.f (.get 0) [.v 0],.k (.int 7)]) true [.all (.f (.get 1) [.v 1]) [.k (.bool false)] [.f .ite [.v 4,.k (.bool true),.f .ite [.f .ltI [.v 2,.k (.int 16)],.f .neI [.f (.get 0) [.v 3],.k (.int 0)],.k (.bool false)]]] [.when (.v 4) false []]],.when (.f .eqI [.f (.get 0) [.v 0],.k (.int 7)]) false [.when (.f .ite [.f .eqI [.f (.get 0) [.v 0],.k (.int 8)],.f .eqI [.f (.get 0) [.v 0],.k (.int 8)],.f .eqI [.f (.get 0) [.v 0],.k (.int 9)]]) false [.when (.f .eqI [.f (.get 0) [.v 0],.k (.int 11)]) false [.when (.f .eqI [.f (.get 0) [.v 0],.k (.int 10)]) true [.when (.fold 2 (.f (.get 7) [.v 0]) [.k (.bool false)] [.f .ite [.v 4,.k (.bool true),.f .not [.f (.ext 50) [.v 3,.f (.ext 40) [.v 1,.v 2]]]]] 0) false [.pre 41 [.f (.get 7) [.v 0],.f (.get 4) [.v 1]]],.all (.f (.get 7) [.v 0]) [.k (.bool false)] [.f .ite [.v 4,.k (.bool true),.f .not [.f (.ext 50) [.v 3,.f (.ext 40) [.v 1,.v 2]]]]] [.when (.v 4) false [.pre 50 [.v 3,.f (.ext 40) [.v 1,.v 2]],.pre 40 [.v 1,.v 2]]]],.when (.f .eqI [.f (.get 0) [.v 0],.k (.int 10)]) false [.pre 52 [.f (.ext 45) [.f (.get 0) [.v 1],.f (.ext 55) [.f (.get 0) [.v 0]]],.f (.ext 45) [.f (.get 5) [.v 0],.f (.ext 55) [.f (.get 0) [.v 0]]]],.pre 45 [.f (.get 5) [.v 0],.f (.ext 55) [.f (.get 0) [.v 0]]],.pre 55 [.f (.get 0) [.v 0]],.pre 45 [.f (.get 0) [.v 1],.f (.ext 55) [.f (.get 0) [.v 0]]],.pre 55 [.f (.get 0) [.v 0]]]]]]]]
def de51:DE:=(.fold 1 (.v 0) [.k (.int 0)] [.f .ite [.f .leI [.k (.int 0),.f (.get 4) [.v 2]],.f .imax [.v 3,.f (.add .u32) [.f (.wrap .u32) [.f (.get 4) [.v 2]],.k (.int 1)]],.v 3]] 0)
def ob51:List Ob:=[.all (.v 0) [.k (.int 0)] [.f .ite [.f .leI [.k (.int 0),.f (.get 4) [.v 2]],.f .imax [.v 3,.f (.add .u32) [.f (.wrap .u32) [.f (.get 4) [.v 2]],.k (.int 1)]],.v 3]] []]
def de52:DE:=(.f .ite [.f .neI [.f .len [.v 0],.f .len [.v 1]],.k (.bool false),.f .ite [.fold 2 (.v 0) [.k (.bool false)] [.f .ite [.v 4,.k (.bool true),.f .neI [.f (.get 0) [.v 3],.f (.get 0) [.f .at [.v 1,.v 2]]]]] 0,.k (.bool false),.k (.bool true)]])
def ob52:List Ob:=[.when (.f .neI [.f .len [.v 0],.f .len [.v 1]]) false [.all (.v 0) [.k (.bool false)] [.f .ite [.v 4,.k (.bool true),.f .neI [.f (.get 0) [.v 3],.f (.get 0) [.f .at [.v 1,.v 2]]]]] [.when (.v 4) false [.idx (.v 2) (.v 1) true]]]]
def de53:DE:=(.f .ite [.f .ite [.v 0,.v 1,.k (.bool false)],.f .mkbytes [.k (.int 0)],.f .ite [.f .ite [.v 0,.k (.bool true),.k (.bool false)],.f (.ext 46) [.f (.add .u64) [.f (.wrap .u64) [.v 2],.k (.int 1)]],.f .ite [.v 1,.f (.ext 45) [.k (.int (-1)),.v 3],.f (.ext 45) [.v 2,.v 3]]]])
def ob53:List Ob:=[.when (.f .ite [.v 0,.v 1,.k (.bool false)]) false [.when (.f .ite [.v 0,.k (.bool true),.k (.bool false)]) true [.pre 46 [.f (.add .u64) [.f (.wrap .u64) [.v 2],.k (.int 1)]]],.when (.f .ite [.v 0,.k (.bool true),.k (.bool false)]) false [.when (.v 1) true [.pre 45 [.k (.int (-1)),.v 3]],.when (.v 1) false [.pre 45 [.v 2,.v 3]]]]]
def de54:DE:=(.f .ite [.f .ltI [.k (.int 2147483647),.f .len [.f (.get 1) [.v 0]]],.k (.bool false),.f .ite [.f .ltI [.k (.int 2147483647),.f .len [.f (.get 3) [.v 0]]],.k (.bool false),.f .ite [.f .not [.f .ite [.f .ltI [.k (.int 2147483647),.f .len [.f (.get 4) [.v 0]]],.k (.bool false),.f .ite [.fold 1 (.f (.get 4) [.v 0]) [.k (.bool false)] [.f .ite [.v 3,.k (.bool true),.f .not [.f .ite [.f .ltI [.k (.int 2147483647),.f .len [.f (.get 1) [.v 2]]],.k (.bool false),.k (.bool true)]]]] 0,.k (.bool false),.k (.bool true)]]],.k (.bool false),.k (.bool true)]]])
def ob54:List Ob:=[.when (.f .ltI [.k (.int 2147483647),.f .len [.f (.get 1) [.v 0]]]) false [.when (.f .ltI [.k (.int 2147483647),.f .len [.f (.get 3) [.v 0]]]) false [.when (.f .ltI [.k (.int 2147483647),.f .len [.f (.get 4) [.v 0]]]) false [.all (.f (.get 4) [.v 0]) [.k (.bool false)] [.f .ite [.v 3,.k (.bool true),.f .not [.f .ite [.f .ltI [.k (.int 2147483647),.f .len [.f (.get 1) [.v 2]]],.k (.bool false),.k (.bool true)]]]] [.when (.v 3) false []]]]]]
def de55:DE:=(.f .ite [.f .eqI [.v 0,.k (.int 1)],.k (.int 1),.f .ite [.f .ite [.f .eqI [.v 0,.k (.int 2)],.f .eqI [.v 0,.k (.int 2)],.f .eqI [.v 0,.k (.int 5)]],.k (.int 2),.f .ite [.f .eqI [.v 0,.k (.int 3)],.k (.int 4),.k (.int 8)]]])
def ob55:List Ob:=[]
def de56:DE:=(.f .ite [.f (.get 2) [.v 2],.f .ite [.f .leI [.k (.int 0),.f (.get 3) [.v 0]],.f .leI [.f (.get 3) [.v 0],.v 1],.k (.bool false)],.k (.bool false)])
def ob56:List Ob:=[]
def de57:DE:=(.f .ite [.f .leI [.f (.get 1) [.v 0],.v 1],.f .ite [.f .ltI [.f (.get 2) [.v 0],.k (.int 0)],.k (.bool true),.f .leI [.v 1,.f (.get 2) [.v 0]]],.k (.bool false)])
def ob57:List Ob:=[]
def de58:DE:=(.f .tmod [.f (.wrap .i64) [.v 0],.f (.add .i64) [.v 1,.k (.int 1)]])
def ob58:List Ob:=[(.nz (.f (.add .i64) [.v 1,.k (.int 1)]))]
def de59:DE:=(.f .ite [.f .leI [.k (.int 0),.f (.get 1) [.v 0]],.f (.ext 47) [.f (.get 0) [.v 0],.v 1,.f .leI [.f (.get 1) [.v 0],.v 1],.v 2],.f (.ext 47) [.f (.get 0) [.v 0],.v 1,.k (.bool false),.v 2]])
def ob59:List Ob:=[.when (.f .leI [.k (.int 0),.f (.get 1) [.v 0]]) true [.pre 47 [.f (.get 0) [.v 0],.v 1,.f .leI [.f (.get 1) [.v 0],.v 1],.v 2]],.when (.f .leI [.k (.int 0),.f (.get 1) [.v 0]]) false [.pre 47 [.f (.get 0) [.v 0],.v 1,.k (.bool false),.v 2]]]
end Go.Mx
namespace Go.Mx
open Go Go.Dx
mutual
def wF:Fl->Nat
 | .mk k _ _ _ _ _ _ s=>wFs s+1+(if k=11 then 1 else 0)
def wFs:Option (List Fl)->Nat
 | none=>0
 | some l=>wFl l+1
def wFl:List Fl->Nat
 | []=>0
 | f::r=>wF f+wFl r
end
mutual
def wfF:Fl->Bool
 | .mk k _ _ _ g _ o s=>decide (g<=1000)&&(decide (k≠11) || decide (o≠11))&&wfFs s
def wfFs:Option (List Fl)->Bool
 | none=>true
 | some l=>decide (l.length<=1000)&&wfFl l
def wfFl:List Fl->Bool
 | []=>true
 | f::r=>wfF f&&wfFl r
end
mutual
def wT:T->Nat
 | .mk _ _ _ l _=>wTo l+1
def wTo:Option (List T)->Nat
 | none=>0
 | some l=>wTl l
def wTl:List T->Nat
 | []=>0
 | t::r=>wT t+wTl r
end
mutual
def smT:T->Bool
 | .mk _ _ _ l u=>smTo l&&decide ((u.getD []).length<=40000)
def smTo:Option (List T)->Bool
 | none=>true
 | some l=>decide (l.length<=40000)&&smTl l
def smTl:List T->Bool
 | []=>true
 | t::r=>smT t&&smTl r
end
theorem wF_mem:∀ {l:List Fl} {f:Fl},f∈l->wF f<=wFl l
 | g::r,f,h=>by
  simp only[wFl];rcases List.mem_cons.1 h with rfl|h
  ·omega
  ·have:=wF_mem h;omega
theorem zAI(f:Fl):wFs f.sub<wF f:=by cases f;simp only[Fl.sub,wF];omega
theorem qQF{f:Fl}(h:wfF f=true):wfFs f.sub=true:=by
 cases f;simp only[wfF,baZ] at h;exact h.2
theorem zIH:∀ {l:List Fl},wfFl l=true -> ∀f∈l,wfF f=true
 | [],_,f,h=>by cases h
 | g::r,hw,f,h=>by
  simp only[wfFl,baZ] at hw;rcases List.mem_cons.1 h with rfl|h
  ·exact hw.1
  ·exact zIH hw.2 f h
theorem wT_mem:∀ {l:List T} {t:T},t∈l->wT t<=wTl l
 | g::r,f,h=>by
  simp only[wTl];rcases List.mem_cons.1 h with rfl|h
  ·omega
  ·have:=wT_mem h;omega
theorem xAJ:∀ {l:List T},smTl l=true -> ∀f∈l,smT f=true
 | [],_,f,h=>by cases h
 | g::r,hw,f,h=>by
  simp only[smTl,baZ] at hw;rcases List.mem_cons.1 h with rfl|h
  ·exact hw.1
  ·exact xAJ hw.2 f h
def lim:Nat:=1099511627776
def meas:Nat->List D->Nat
 | 42,[f,_,_]=>wF (toF f)
 | 43,[fs,_,_]=>wFs (decF fs)
 | 44,[t]=>wT (toT t)
 | 47,[fs,_,_,_]=>3*wFs (decF fs)
 | 48,[_,fs,_,_,_,_]=>3*wFs (decF fs)+1
 | 49,[f,_,_,_]=>3*wFs (toF f).sub+2
 | 50,[f,_]=>wF (toF f)
 | _,_=>0
def yRA(k:Nat):Bool:=k==42 || k==43 || k==44 || k==47 || k==48 || k==49 || k==50
def side:Nat->List D->Prop
 | 1,[_,i]=>0<=i.asInt
 | 40,[_,i]=>0<=i.asInt
 | 12,[o,s]=>s.len<2147483648/\o.asStr.length+s.len+5<=lim
 | 16,[o,s]=>s.len<2147483648/\o.asStr.length+s.len+5<=lim
 | 14,[o,s]=>s.deref.len<2147483648/\o.asStr.length+s.deref.len+5<=lim
 | 18,[o,s]=>s.len<2147483648/\o.asStr.length+s.len+5<=lim
 | 20,[o,n]=>0<=n.asInt/\n.asInt<2147483648/\o.asStr.length+5<=lim
 | 22,[o,n,_]=>0<=n.asInt/\n.asInt<2147483648/\o.asStr.length+5<=lim
 | 41,[fs,_]=>wfFs (decF fs)=true
 | 51,[fs]=>wfFs (decF fs)=true
 | 42,[f,_,_]=>wfF (toF f)=true
 | 43,[fs,_,_]=>wfFs (decF fs)=true
 | 44,[t]=>smT (toT t)=true
 | 45,[_,n]=>0<=n.asInt/\n.asInt<=8
 | 47,[fs,v,x,t]=>wfFs (decF fs)=true/\(yPA (decF fs) v.asInt x.asBool (toT t)).length<=lim
 | 48,[k,fs,b,v,x,t]=>wfFs (decF fs)=true/\(yZA k.asInt b.asBool x.asBool (toT t) (yPA (decF fs) v.asInt x.asBool (toT t))).length<=lim
 | 49,[f,v,x,t]=>wfF (toF f)=true/\(field (toF f) v.asInt x.asBool (toT t)).length<=lim
 | 50,[f,_]=>wfF (toF f)=true
 | 53,[_,_,n,s]=>0<=n.asInt/\n.asInt<=40000/\(s.asInt=2∨s.asInt=4)
 | 58,[n,m]=>0<=n.asInt/\0<=m.asInt/\m.asInt<=1000
 | 59,[.row [fs,fx],v,t]=>wfFs (decF fs)=true/\(yPA (decF fs) v.asInt (zRA fx.asInt v.asInt) (toT t)).length<=lim
 | 60,[.row [fs,fx],v,t]=>wfFs (decF fs)=true/\(yPA (decF fs) v.asInt (zRA fx.asInt v.asInt) (toT t)).length+2<=lim
 | 100,[v,t]=>(0<=v.asInt/\v.asInt<=1)/\(X 100 [v,t]).len<=lim
 | 300,[m,u]=>u = .nil/\(mapL m).length<=100000 /\ ∀x∈mapL m,x.2.len<=lim
 | 301,[u]=>(u.rows.map fun r=>(r.cells.getD 0 .nil).asInt).Pairwise (· < ·)/\u.rows.length<=100000
 | 303,[fs,_,_,_,_]=>wfFs (decF fs)=true
 | 304,[f,_,_,_,_]=>wfF (toF f)=true
 | 25,[m,o]=>(X 25 [m,o]).len<=lim /\ ∀x∈mapL m,x.2.len<4294967296
 | 61,[s]=>∃b,s = .bytes b/\1<=b.length
 | 62,[s]=>∃b,s = .bytes b/\1<=b.length
 | 63,[s]=>∃b,s = .bytes b/\2<=b.length
 | 64,[s]=>∃b,s = .bytes b/\2<=b.length
 | 65,[s]=>∃b,s = .bytes b/\4<=b.length
 | 66,[s]=>∃b,s = .bytes b/\8<=b.length
 | 67,[s]=>∃b,s = .bytes b/\16<=b.length
 | 68,[s]=>∃b,s = .bytes b/\4<=b.length
 | 69,[s]=>∃b,s = .bytes b/\8<=b.length
 | 70,[s]=>∃n r,s = .bytes (zEA n++r)/\n<4294967296
 | 71,[s,l]=>∃b,s = .bytes b/\0<=l.asInt/\l.asInt.toNat<=b.length
 | 72,[s]=>∃v r,s = .bytes (zMA (v.length:Nat) 2++(v++r))/\v.length<=Most
 | 73,[s]=>∃v r,s = .bytes (zEA (v.length+1)++(v++r))/\v.length<=Most
 | 74,[s]=>(∃r,s = .bytes (zMA (-1) 2++r)) ∨ ∃v r,s = .bytes (zMA (v.length:Nat) 2++(v++r))/\v.length<=Most
 | 75,[s]=>(∃r,s = .bytes (zEA 0++r)) ∨ ∃v r,s = .bytes (zEA (v.length+1)++(v++r))/\v.length<=Most
 | 76,[s]=>∃v r,s = .bytes (zMA (v.length:Nat) 4++(v++r))/\v.length<=Most
 | 77,[s]=>∃v r,s = .bytes (zEA (v.length+1)++(v++r))/\v.length<=Most
 | 78,[s]=>(∃r,s = .bytes (zMA (-1) 4++r)) ∨ ∃v r,s = .bytes (zMA (v.length:Nat) 4++(v++r))/\v.length<=Most
 | 79,[s]=>(∃r,s = .bytes (zEA 0++r)) ∨ ∃v r,s = .bytes (zEA (v.length+1)++(v++r))/\v.length<=Most
 | 80,[s]=>∃n r,s = .bytes (zMA n 4++r) /\ -1<=n/\n<=(r.length:Nat)/\n<2147483648
 | 81,[s]=>∃n r,s = .bytes (zEA n++r)/\(n:Int)-1<=(r.length:Nat)/\n<2147483648
 | 82,[s]=>∃u r,s = .bytes (zEA u.length++((u.map fun x:Tg=>tagB x.key.toNat (x.val.getD [])).flatten++r))/\zRB u
 | 86,[_,s]=>∃b,s = .bytes b/\8<=b.length
 | 87,[_,s]=>∃b,s = .bytes b/\4<=b.length
 | 401,[t]=>ptS S401 t
 | 402,[t]=>ptS S402 t
 | 144,[v,sd]=>xHG M144 v .nil sd
 | 146,[v,sd]=>xHG M146 v .nil sd
 | 147,[v,sd]=>xHG M147 v .nil sd
 | 309,[_,_,_,_,i,_,b]=>i.asStr.length+b.asStr.length+100<=lim
 | 24,_=>True
 | 26,_=>True
 | 28,_=>True
 | 31,_=>True
 | 46,_=>True
 | 52,_=>True
 | 54,_=>True
 | 55,_=>True
 | 56,_=>True
 | 305,_=>True
 | 306,_=>True
 | 307,_=>True
 | 308,_=>True
 | 57,_=>True
 | k,ds=>(X k ds).len<=lim
def Pre(n k:Nat)(ds:List D):Prop:=(yRA k=true->meas k ds<n)/\side k ds
theorem zFL(t:D):meas 44 [t]=(wT (toT t)):=rfl
theorem yQF(fs y1 y2 y3:D):meas 47 [fs,y1,y2,y3]=(3*wFs (decF fs)):=rfl
theorem yWI(y1 fs y2 y3 y4 y5:D):meas 48 [y1,fs,y2,y3,y4,y5]=(3*wFs (decF fs)+1):=rfl
theorem yXI(f y1 y2 y3:D):meas 49 [f,y1,y2,y3]=(3*wFs (toF f).sub+2):=rfl
theorem yYI(f y1:D):meas 50 [f,y1]=(wF (toF f)):=rfl
theorem side_61(s:D):side 61 [s]=(∃b,s = .bytes b/\1<=b.length):=rfl
theorem side_62(s:D):side 62 [s]=(∃b,s = .bytes b/\1<=b.length):=rfl
theorem side_63(s:D):side 63 [s]=(∃b,s = .bytes b/\2<=b.length):=rfl
theorem side_65(s:D):side 65 [s]=(∃b,s = .bytes b/\4<=b.length):=rfl
theorem side_66(s:D):side 66 [s]=(∃b,s = .bytes b/\8<=b.length):=rfl
theorem side_67(s:D):side 67 [s]=(∃b,s = .bytes b/\16<=b.length):=rfl
theorem side_69(s:D):side 69 [s]=(∃b,s = .bytes b/\8<=b.length):=rfl
theorem side_70(s:D):side 70 [s]=(∃n r,s = .bytes (zEA n++r)/\n<4294967296):=rfl
theorem side_71(s l:D):side 71 [s,l]=(∃b,s = .bytes b/\0<=l.asInt/\l.asInt.toNat<=b.length):=rfl
theorem side_72(s:D):side 72 [s]=(∃v r,s = .bytes (zMA (v.length:Nat) 2++(v++r))/\v.length<=Most):=rfl
theorem side_73(s:D):side 73 [s]=(∃v r,s = .bytes (zEA (v.length+1)++(v++r))/\v.length<=Most):=rfl
theorem side_74(s:D):side 74 [s]=((∃r,s = .bytes (zMA (-1) 2++r)) ∨ ∃v r,s = .bytes (zMA (v.length:Nat) 2++(v++r))/\v.length<=Most):=rfl
theorem side_75(s:D):side 75 [s]=((∃r,s = .bytes (zEA 0++r)) ∨ ∃v r,s = .bytes (zEA (v.length+1)++(v++r))/\v.length<=Most):=rfl
theorem side_80(s:D):side 80 [s]=(∃n r,s = .bytes (zMA n 4++r) /\ -1<=n/\n<=(r.length:Nat)/\n<2147483648):=rfl
theorem side_81(s:D):side 81 [s]=(∃n r,s = .bytes (zEA n++r)/\(n:Int)-1<=(r.length:Nat)/\n<2147483648):=rfl
theorem side_82(s:D):side 82 [s]=(∃u r,s = .bytes (zEA u.length++((u.map fun x:Tg=>tagB x.key.toNat (x.val.getD [])).flatten++r))/\zRB u):=rfl
theorem xZF(y1 i:D):side 40 [y1,i]=(0<=i.asInt):=rfl
theorem xAL(o s:D):side 12 [o,s]=(s.len<2147483648/\o.asStr.length+s.len+5<=lim):=rfl
theorem side_14(o s:D):side 14 [o,s]=(s.deref.len<2147483648/\o.asStr.length+s.deref.len+5<=lim):=rfl
theorem side_20(o n:D):side 20 [o,n]=(0<=n.asInt/\n.asInt<2147483648/\o.asStr.length+5<=lim):=rfl
theorem side_22(o n y1:D):side 22 [o,n,y1]=(0<=n.asInt/\n.asInt<2147483648/\o.asStr.length+5<=lim):=rfl
theorem qXG(fs y1:D):side 41 [fs,y1]=(wfFs (decF fs)=true):=rfl
theorem qDI(fs:D):side 51 [fs]=(wfFs (decF fs)=true):=rfl
theorem qAI(t:D):side 44 [t]=(smT (toT t)=true):=rfl
theorem zSD(y1 n:D):side 45 [y1,n]=(0<=n.asInt/\n.asInt<=8):=rfl
theorem qAF(fs v x t:D):side 47 [fs,v,x,t]=(wfFs (decF fs)=true/\(yPA (decF fs) v.asInt x.asBool (toT t)).length<=lim):=rfl
theorem qBI(k fs b v x t:D):side 48 [k,fs,b,v,x,t]=(wfFs (decF fs)=true/\(yZA k.asInt b.asBool x.asBool (toT t) (yPA (decF fs) v.asInt x.asBool (toT t))).length<=lim):=rfl
theorem qCI(f v x t:D):side 49 [f,v,x,t]=(wfF (toF f)=true/\(field (toF f) v.asInt x.asBool (toT t)).length<=lim):=rfl
theorem qBF(f y1:D):side 50 [f,y1]=(wfF (toF f)=true):=rfl
theorem xKE(y1 y2 n s:D):side 53 [y1,y2,n,s]=(0<=n.asInt/\n.asInt<=40000/\(s.asInt=2∨s.asInt=4)):=rfl
theorem qEI(n m:D):side 58 [n,m]=(0<=n.asInt/\0<=m.asInt/\m.asInt<=1000):=rfl
theorem xBL(fs fx v t:D):side 59 [.row [fs,fx],v,t]=(wfFs (decF fs)=true/\(yPA (decF fs) v.asInt (zRA fx.asInt v.asInt) (toT t)).length<=lim):=rfl
theorem zero_d:T.zero.d = .row [.int 0,.nil,.bool false,.nil,.nil]:=by simp[T.zero,T.d,encB,encT,encU]
theorem at_encT(l:Option (List T))(i:Nat)(h:i<(l.getD []).length):(encT l).rows.getD i .nil=((l.getD []).getD i T.zero).d:=by
 rw[zPD];simp[List.getD_eq_getElem?_getD,h]
theorem ev40(t:T)(i:Int)(hi:0<=i)(n:Nat):zCA X (Pre n) ob40 [t.d,.int i]/\de40.eval X [t.d,.int i]=X 40 [t.d,.int i]:=by
 have e:(t.l.getD [])=t.L:=rfl;constructor
 ·simp only[ob40,zCA,Ob.holds,DE.eval,zDA,Fn.eval,gzZ,gsZ,yBA,D.asInt,D.asBool,xXA,e,if_true];refine⟨fun h=>⟨⟨hi,?_⟩,trivial⟩,trivial⟩
  have:=of_decide_eq_true h
  omega
 ·simp only[de40,X_40,yTA,DE.eval,zDA,Fn.eval,gzZ,gsZ,yBA,D.asInt,D.asBool,xXA,at',e];by_cases h:i<(t.L.length:Int)
  ·simp only[h,decide_true,if_true];exact at_encT t.l i.toNat (by show _<t.L.length;omega)
  ·simp only[h,decide_false,if_false,zero_d,bfZ]
theorem ev56(f:Fl)(v:Int)(t:T):de56.eval X [f.d,.int v,t.d]=X 56 [f.d,.int v,t.d]:=by
 simp only[de56,X_56,yTA,qNA,DE.eval,zDA,Fn.eval,gzZ,gsZ,yBA,yKA,D.asInt,D.asBool,Mx.null];cases t.null <;> by_cases h:0<=f.null <;> by_cases h2:f.null<=v <;> simp[h,h2]
theorem ev57(f:Fl)(v:Int):de57.eval X [f.d,.int v]=X 57 [f.d,.int v]:=by
 simp only[de57,X_57,qNA,DE.eval,zDA,Fn.eval,gzZ,gsZ,yKA,D.asInt,D.asBool,has];by_cases h:f.frm<=v <;> by_cases h2:f.to<0 <;> by_cases h3:v<=f.to <;> simp[h,h2,h3]
theorem ev55(k:Int):de55.eval X [.int k]=X 55 [.int k]:=by
 simp only[de55,X_55,DE.eval,zDA,Fn.eval,gzZ,D.asInt,D.asBool,yUD];by_cases h1:k=1 <;> by_cases h2:k=2 <;> by_cases h5:k=5 <;> by_cases h3:k=3 <;> simp[h1,h2,h5,h3]
end Go.Mx
namespace Go.Mx
open Go Go.Dx
section
variable {X:Nat->List D->D} {P:Nat->List D->Prop} {J:List D} {lv:Nat} {go:DE} {is bs:List DE}
theorem zJE(st:Nat->List D)(step:Nat->D->List D->List D):∀k,(∀i,i<k->step i (.int (i:Nat)) (st i)=st (i+1))->yIA step 0 (yWB k) (st 0)=st k
 | 0,_=>rfl
 | k+1,h=>by
  rw[zZG,zHB,zBD,Nat.zero_add,zJE st step k (fun i hi=>h i (by omega))];exact h k (by omega)
structure Runs (X:Nat->List D->D) (J:List D) (lv:Nat) (go:DE) (is bs:List DE) (N:Nat) (st:Nat->List D):Prop where
 lv:J.take lv=J
 h0:zDA X is J=st 0
 hs:∀k:Nat,k<N->zDA X bs (J++(.int k :: .int k::st k))=st (k+1)
 hg:∀k:Nat,k<N->(go.eval X (J++(.int k :: .int k::st k))).asBool=true
 hN:(go.eval X (J++(.int N :: .int N::st N))).asBool=false
theorem Runs.rows{N:Nat}{st:Nat->List D}(h:Runs X J lv go is bs N st){k:Nat}(hk:k<=N):yIA (fun i r acc=>zDA X bs (J++(.int i::r::acc))) 0 (yWB k) (zDA X is J)=st k:=by
 rw[h.h0];exact zJE st _ k (fun i hi=>h.hs i (by omega))
theorem Runs.wh{N:Nat}{st:Nat->List D}(h:Runs X J lv go is bs N st):(DE.wh lv go is bs).eval X J = .int (N:Nat):=by
 simp only[DE.eval,h.lv]
 congr 1
 congr 1
 refine qXK ?_ (fun m hm=>?_)
 ·rw[h.rows (Nat.le_refl _)];exact h.hN
 ·rw[h.rows (by omega),h.hg m hm];simp
theorem Runs.fold{N:Nat}{st:Nat->List D}(h:Runs X J lv go is bs N st)(j:Nat):(DE.fold lv (.f .iota [.wh lv go is bs]) is bs j).eval X J=(st N).getD j .nil:=by
 have e:((DE.f .iota [.wh lv go is bs]).eval X J).rows=yWB N:=by
  show (Fn.eval X .iota (zDA X [.wh lv go is bs] J)).rows=_;rw[qVC,h.wh];simp[Fn.eval,D.rows,D.asInt,yWB]
 show (yIA (fun i r acc=>zDA X bs (J.take lv++(.int i::r::acc))) 0 ((DE.f .iota [.wh lv go is bs]).eval X J).rows (zDA X is J)).getD j .nil=_;rw[e,h.lv,h.rows (Nat.le_refl _)]
theorem Runs.term{N:Nat}{st:Nat->List D}(h:Runs X J lv go is bs N st):(Ob.term lv go is bs).holds X P J:=by
 simp only[Ob.holds,h.lv];exact⟨N,by rw[h.rows (Nat.le_refl _)];exact h.hN⟩
theorem Runs.all{N:Nat}{st:Nat->List D}(h:Runs X J lv go is bs N st){os:List Ob}(ho:∀k:Nat,k<=N->zCA X P os (J++(.int k :: .int k::st k))):(Ob.all (.f .iotaS [.wh lv go is bs]) is bs os).holds X P J:=by
 have e:((DE.f .iotaS [.wh lv go is bs]).eval X J).rows=yWB (N+1):=by
  show (Fn.eval X .iotaS (zDA X [.wh lv go is bs] J)).rows=_;rw[qVC,h.wh];simp[Fn.eval,D.rows,D.asInt,yWB]
 simp only[Ob.holds];rw[e];intro k hk;rw[zBD] at hk;rw[yFF _ _ (by omega),yWE _ _ (by omega),h.rows (by omega)];exact ho k (by omega)
structure Folds {A S:Type} (X:Nat->List D->D) (J:List D) (lv:Nat) (src:DE) (is bs:List DE) (ea:A->D) (es:S->List D) (f:Nat->A->S->S) (l:List A) (s0:S):Prop where
 lv:J.take lv=J
 src:(src.eval X J).rows=l.map ea
 h0:zDA X is J=es s0
 hs:∀(i:Nat) (a:A) (s:S),l[i]? = some a->s=xKA f 0 (l.take i) s0->zDA X bs (J++(.int i::ea a::es s))=es (f i a s)
theorem zSG{A S:Type}(f:Nat->A->S->S):∀(l:List A) (i:Nat) (a:A) (s:S),xKA f i (l++[a]) s=f (i+l.length) a (xKA f i l s)
 | [],i,a,s=>rfl
 | x::l,i,a,s=>by
  simp only[List.cons_append,xKA,List.length_cons];rw[zSG f l (i+1)]
  congr 1;omega
variable {A S:Type} {src:DE} {ea:A->D} {es:S->List D} {f:Nat->A->S->S} {l:List A} {s0:S}
theorem yTC{α:Type}{l:List α}{k:Nat}{a:α}(h:l[k]? = some a):l.take (k+1)=l.take k++[a]:=by
 rw[List.take_add_one,h];rfl
theorem Folds.rows(h:Folds X J lv src is bs ea es f l s0):∀ {k:Nat},k<=l.length->yIA (fun i r acc=>zDA X bs (J++(.int i::r::acc))) 0 ((l.map ea).take k) (zDA X is J)=es (xKA f 0 (l.take k) s0)
 | 0,_=>by simp[yIA,xKA,h.h0]
 | k+1,hk=>by
  have hk':l[k]? = some l[k]:=List.getElem?_eq_getElem (by omega);have hm:(l.map ea)[k]? = some (ea l[k]):=by rw[List.getElem?_map,hk'];rfl
  rw[yTC hm,zHB,h.rows (k:=k) (by omega),yTC hk',zSG];have e:0+((l.map ea).take k).length=k:=by simp;omega
  have e2:0+(l.take k).length=k:=by simp;omega
  rw[e,e2];exact h.hs k _ _ hk' rfl
theorem Folds.fold(h:Folds X J lv src is bs ea es f l s0)(j:Nat):(DE.fold lv src is bs j).eval X J=(es (xKA f 0 l s0)).getD j .nil:=by
 have:=h.rows (k:=l.length) (Nat.le_refl _)
 rw[List.take_of_length_le (by simp),List.take_of_length_le (Nat.le_refl _)] at this;simp only[DE.eval,h.lv,h.src,this]
theorem Folds.all(h:Folds X J lv src is bs ea es f l s0){os:List Ob}(ho:∀(k:Nat) (a:A),l[k]? = some a->zCA X P os (J++(.int k::ea a::es (xKA f 0 (l.take k) s0)))):(Ob.all src is bs os).holds X P J:=by
 simp only[Ob.holds];rw[h.src];intro k hk;have hk2:k<l.length:=by simpa using hk
 have hk':l[k]? = some l[k]:=List.getElem?_eq_getElem hk2;have hm:(l.map ea).getD k .nil=ea l[k]:=by simp[List.getD_eq_getElem?_getD,hk']
 rw[hm,h.rows (by omega)];exact ho k _ hk'
end
end Go.Mx
namespace Go.Mx
open Go Go.Dx
theorem qUF{x:Int}(h1:-9223372036854775808<=x)(h2:x<=9223372036854775807):IntKind.i64.wrap x=x:=by
 rw[IntKind.wrap_i64];omega
theorem ev45(n s:Int)(k:Nat)(h0:0<=s)(h8:s<=8):zCA X (Pre k) ob45 [.int n,.int s]/\de45.eval X [.int n,.int s]=X 45 [.int n,.int s]:=by
 obtain⟨m,rfl⟩:=Int.eq_ofNat_of_zero_le h0;have hm:m<=8:=by omega
 let st:Nat->List D:=fun k=>[.int ((m:Int)-1-k),encN (((List.range m).reverse.take k).map (xZA n))]
 have hlen:(List.range m).reverse.length=m:=by simp
 have hrun:Runs X [.int n,.int (m:Nat)] 2 (.f .leI [.k (.int 0),.v 4]) [.f (.sub .i64) [.v 1,.k (.int 1)],.k .nil] [.f (.sub .i64) [.v 4,.k (.int 1)],.f .app [.v 5,.f .mkbytes [.f (.wrap .u8) [.f (.shr .i64) [.v 0,.f (.mul .i64) [.k (.int 8),.v 4]]]]]] m st:=by
  refine⟨rfl,?_,fun k hk=>?_,fun k hk=>?_,?_⟩
  ·simp only[zDA,DE.eval,Fn.eval,D.asInt,gsZ,gzZ,st];rw[qUF (by omega) (by omega)];simp[encN]
  ·simp only[zDA,DE.eval,Fn.eval,D.asInt,List.cons_append,List.nil_append,gsZ,gzZ,st,List.map_cons,List.map_nil];rw[qUF (by omega) (by omega),qUF (x:=8*_) (by omega) (by omega)];have hk':(List.range m).reverse[k]? = some (m-1-k):=by
    rw[List.getElem?_reverse (by simpa using hk)];simp only[List.length_range,List.getElem?_range (show m-1-k<m by omega)]
   have hb:UInt8.ofNat (IntKind.u8.wrap (shrI n (8*((m:Int)-1-k)) .i64)).toNat=xZA n (m-1-k):=by
    simp only[xZA,shrI,IntKind.bits]
    congr 5
    omega
   rw[yTC hk',List.map_append,hb,xLB _ _ (.inr ⟨_,.inl rfl⟩)];simp only[D.asStr,List.map_cons,List.map_nil,List.cons.injEq,D.int.injEq,and_true];omega
  ·simp only[DE.eval,zDA,Fn.eval,D.asInt,D.asBool,List.cons_append,List.nil_append,gsZ,gzZ,st];exact decide_eq_true (by omega)
  ·simp only[DE.eval,zDA,Fn.eval,D.asInt,D.asBool,List.cons_append,List.nil_append,gsZ,gzZ,st];exact decide_eq_false (by omega)
 have hfin:(st m).getD 1 .nil=encN (zMA n m):=by
  simp only[st,gsZ,gzZ,zMA];rw[List.take_of_length_le (by simp)]
 refine⟨⟨hrun.term,hrun.all (fun q hq=>?_),trivial⟩,?_⟩
 ·have hl:((List.range m).reverse.take q).length<=8:=by rw[List.length_take];omega
  simp only[zCA,zWB,Ob.holds,zDA,DE.eval,Fn.eval,D.asInt,D.asBool,List.cons_append,List.nil_append,gsZ,gzZ,st,List.map_cons,List.map_nil];refine⟨fun hc=>⟨?_,?_,trivial⟩,trivial⟩
  ·rw[xLB _ _ (.inr ⟨_,.inl rfl⟩),xQA];simp only[D.asStr,List.length_append,List.length_map,List.length_cons,List.length_nil];exact⟨by simp only[LIM];omega,by simp only[maxLen];omega⟩
  ·have:=of_decide_eq_true hc
   rw[qUF (by omega) (by omega)];omega
 ·rw[X_45];simp only[D.asInt,Int.toNat_natCast];rw[<- hfin];exact hrun.fold 1
end Go.Mx
namespace Go.Mx
open Go Go.Dx
theorem zLH{x:Int}(h1:0<=x)(h2:x<18446744073709551616):IntKind.u64.wrap x=x:=by
 rw[IntKind.wrap_u64];omega
theorem qVF{x:Int}(h1:0<=x)(h2:x<256):IntKind.u8.wrap x=x:=by
 rw[IntKind.wrap_u8];omega
def uvN(n:Nat):Nat:=if 127<n then uvN (n / 128)+1 else 0
 termination_by n
 decreasing_by omega
def uvP(n k:Nat):List UInt8:=(List.range k).map fun i=>UInt8.ofNat (n / 128 ^ i%128+128)
theorem xQJ(n k:Nat):uvP n (k+1)=uvP n k++[UInt8.ofNat (n / 128 ^ k%128+128)]:=by simp[uvP,List.range_succ]
theorem uvP_cons(n k:Nat):uvP n (k+1)=UInt8.ofNat (n%128+128)::uvP (n / 128) k:=by
 simp only[uvP,List.range_succ_eq_map,List.map_cons,List.map_map,Nat.pow_zero,Nat.div_one]
 congr 1
 apply List.map_congr_left;intro i _;simp only[Function.comp];rw[Nat.pow_succ',Nat.div_div_eq_div_mul]
theorem uv_eq:∀n:Nat,zEA n=uvP n (uvN n)++[UInt8.ofNat (n / 128 ^ uvN n)]:=by
 intro n
 induction n using Nat.strongRecOn with
 | ind n ih =>
  rw[zEA,uvN];split
  ·rw[ih (n / 128) (by omega),uvP_cons];simp only[List.cons_append]
   congr 3
   rw[Nat.pow_succ',Nat.div_div_eq_div_mul]
  ·simp[uvP]
theorem uvN_go:∀(n k:Nat),k<uvN n->127<n / 128 ^ k:=by
 intro n
 induction n using Nat.strongRecOn with
 | ind n ih =>
  intro k hk;rw[uvN] at hk;split at hk
  ·rename_i h;cases k with
   | zero=>simpa using h
   | succ k =>
    have:=ih (n / 128) (by omega) k (by omega)
    rw[Nat.pow_succ',<- Nat.div_div_eq_div_mul];exact this
  ·omega
theorem zGH:∀n:Nat,¬127<n / 128 ^ uvN n:=by
 intro n
 induction n using Nat.strongRecOn with
 | ind n ih =>
  rw[uvN];split
  ·have:=ih (n / 128) (by omega)
   rw[Nat.pow_succ',<- Nat.div_div_eq_div_mul];exact this
  ·simp;omega
theorem qYH:∀(b n:Nat),n<128 ^ b->uvN n<=b-1
 | 0,n,h=>by
  have:n=0:=by simpa using h
  subst this;rw[uvN];simp
 | b+1,n,h=>by
  rw[uvN];split
  ·rename_i h1;have h2:n / 128<128 ^ b:=by rw[Nat.div_lt_iff_lt_mul (by omega),<- Nat.pow_succ];exact h
   have:=qYH b (n / 128) h2
   have hb:b≠0:=fun e=>by subst e;simp at h;omega
   omega
  ·omega
theorem band127(n:Nat)(h:n<18446744073709551616):IntKind.u64.wrap ((BitVec.ofInt IntKind.u64.bits (n:Int) &&& BitVec.ofInt IntKind.u64.bits 127).toNat:Nat)=((n%128:Nat):Int):=by
 have e:(BitVec.ofInt IntKind.u64.bits (n:Int) &&& BitVec.ofInt IntKind.u64.bits 127).toNat=n%128:=by
  rw[BitVec.toNat_and];have e1:(BitVec.ofInt IntKind.u64.bits (n:Int)).toNat=n:=by simp[IntKind.bits,BitVec.toNat_ofInt];omega
  have e2:(BitVec.ofInt IntKind.u64.bits 127).toNat=2 ^ 7-1:=rfl;rw[e1,e2,Nat.and_two_pow_sub_one_eq_mod]
 rw[e,zLH (by omega) (by omega)]
theorem bor128(n:Nat)(h:n<128):IntKind.u8.wrap ((BitVec.ofInt IntKind.u8.bits (n:Int) ||| BitVec.ofInt IntKind.u8.bits 128).toNat:Nat)=((n+128:Nat):Int):=by
 have:∀n:Fin 128,IntKind.u8.wrap ((BitVec.ofInt IntKind.u8.bits (n.1:Int) ||| BitVec.ofInt IntKind.u8.bits 128).toNat:Nat)=((n.1+128:Nat):Int):=by decide
 exact this ⟨n,h⟩
theorem shr7(n:Nat):shrI (n:Int) 7 .u64=((n / 128:Nat):Int):=by
 simp only[shrI,IntKind.bits];show (n:Int).fdiv (2 ^ 7)=_;rw[Int.fdiv_eq_ediv_of_nonneg _ (by decide)];rfl
theorem uv_run(n:Nat)(h:n<18446744073709551616):Runs X [.int (n:Nat)] 1 (.f .ltI [.k (.int 127),.v 4]) [.k .nil,.v 0] [.f .app [.v 3,.f .mkbytes [.f (.bor .u8) [.f (.wrap .u8) [.f (.band .u64) [.v 4,.k (.int 127)]],.k (.int 128)]]],.f (.shr .u64) [.v 4,.k (.int 7)]] (uvN n) (fun k=>[encN (uvP n k),.int ((n / 128 ^ k:Nat):Int)]):=by
 have hlt:∀k,n / 128 ^ k<18446744073709551616:=fun k=>Nat.lt_of_le_of_lt (Nat.div_le_self _ _) h
 refine⟨rfl,by simp[zDA,DE.eval,uvP,encN],fun k hk=>?_,fun k hk=>?_,?_⟩
 ·simp only[zDA,DE.eval,Fn.eval,D.asInt,List.cons_append,List.nil_append,gsZ,gzZ,List.map_cons,List.map_nil];rw[band127 _ (hlt k),qVF (x:=((n / 128 ^ k%128:Nat):Int)) (by omega) (by omega),bor128 _ (by omega),shr7,xLB _ _ (.inr ⟨_,.inl rfl⟩),xQJ];simp only[D.asStr,Int.toNat_natCast];rw[Nat.pow_succ,Nat.div_div_eq_div_mul]
 ·simp only[DE.eval,zDA,Fn.eval,D.asInt,D.asBool,List.cons_append,List.nil_append,gsZ,gzZ]
  have:=uvN_go n k hk
  exact decide_eq_true (by omega)
 ·simp only[DE.eval,zDA,Fn.eval,D.asInt,D.asBool,List.cons_append,List.nil_append,gsZ,gzZ]
  have:=zGH n
  exact decide_eq_false (by omega)
theorem ev46(n:Int)(h0:0<=n)(h1:n<18446744073709551616)(k:Nat):zCA X (Pre k) ob46 [.int n]/\de46.eval X [.int n]=X 46 [.int n]:=by
 obtain⟨m,rfl⟩:=Int.eq_ofNat_of_zero_le h0;have hm:m<18446744073709551616:=by omega
 have hrun:=uv_run m hm;have hN:uvN m<=9:=by
  have:=qYH 10 m (Nat.lt_of_lt_of_le hm (by decide))
  omega
 have hP:∀k,k<=uvN m->(uvP m k).length<=9:=fun k hk=>by simp[uvP];omega
 have hfin:=zGH m;have main:de46.eval X [.int (m:Nat)]=encN (zEA m):=by
  simp only[de46,DE.eval.eq_3,zDA];rw[hrun.fold 0,hrun.fold 1];simp only[gsZ,gzZ,Fn.eval,D.asInt,List.map_cons,List.map_nil];rw[qVF (x:=((m / 128 ^ uvN m:Nat):Int)) (by generalize m / 128 ^ uvN m=q at *;omega) (by generalize m / 128 ^ uvN m=q at *;omega),xLB _ _ (.inr ⟨_,.inl rfl⟩),uv_eq];simp only[D.asStr,Int.toNat_natCast]
 refine⟨⟨?_,hrun.term,hrun.all (fun q hq=>?_),trivial⟩,?_⟩
 ·have e:(DE.eval X de46 [.int (m:Nat)]).len<=10:=by
   rw[main,xQA,uv_eq]
   have:=hP (uvN m) (Nat.le_refl _)
   simp;omega
  refine⟨?_,?_⟩
  ·show (DE.eval X de46 [.int (m:Nat)]).len*1<=LIM;simp only[LIM];omega
  ·show (DE.eval X de46 [.int (m:Nat)]).len<=maxLen;simp only[maxLen];omega
 ·simp only[zCA,Ob.holds,zDA,DE.eval,Fn.eval,D.asInt,D.asBool,List.cons_append,List.nil_append,gsZ,gzZ,List.map_cons,List.map_nil];refine⟨fun hc=>⟨?_,trivial⟩,trivial⟩;rw[xLB _ _ (.inr ⟨_,.inl rfl⟩),xQA]
  have:=hP q hq
  simp only[D.asStr,List.length_append,List.length_cons,List.length_nil];exact⟨by simp only[LIM];omega,by simp only[maxLen];omega⟩
 ·rw[main,X_46];rfl
end Go.Mx
namespace Go.Mx
open Go Go.Dx
theorem ev53(x b:Bool)(n s:Int)(k:Nat)(h0:0<=n)(h1:n<=40000)(hs:s=2∨s=4):zCA X (Pre k) ob53 [.bool x,.bool b,.int n,.int s]/\de53.eval X [.bool x,.bool b,.int n,.int s]=X 53 [.bool x,.bool b,.int n,.int s]:=by
 have e:IntKind.u64.wrap (IntKind.u64.wrap n+1)=n+1:=by rw[zLH (x:=n) h0 (by omega),zLH (by omega) (by omega)]
 have hp:∀m:Int,Pre k 45 [.int m,.int s]:=fun m=>⟨fun h=>by simp[yRA] at h,by rw[zSD];simp only[D.asInt];omega⟩
 constructor
 ·simp only[ob53,zCA,Ob.holds,DE.eval,zDA,Fn.eval,gzZ,gsZ,D.asInt,D.asBool,e];refine⟨fun _=>⟨fun _=>⟨⟨fun h=>by simp[yRA] at h,trivial⟩,trivial⟩,fun _=>⟨fun _=>⟨hp _,trivial⟩,fun _=>⟨hp _,trivial⟩,trivial⟩,trivial⟩,trivial⟩
 ·simp only[de53,X_53,X_46,X_45,DE.eval,zDA,Fn.eval,gzZ,gsZ,D.asInt,D.asBool,e,counted,List.map_cons,List.map_nil];have e2:(n+1).toNat=n.toNat+1:=by omega
  have e3:((n.toNat:Nat):Int)=n:=by omega
  cases x <;> cases b <;> simp[encN,e2,e3]
theorem zZJ:∀(l:List Fl) (a:Nat),wfFl l=true->a<=1001->l.foldl (fun n f=>if 0<=f.tag then max n (f.tag.toNat+1) else n) a<=1001
 | [],a,_,h=>h
 | f::r,a,hw,h=>by
  simp only[wfFl,baZ] at hw;refine zZJ r _ hw.2 ?_
  have:f.tag<=1000:=by
   have:=hw.1
   cases f;simp only[wfF,baZ,dtZ] at this
   exact this.1.1
  show (if 0<=f.tag then max a (f.tag.toNat+1) else a)<=1001;by_cases h0:0<=f.tag
  ·rw[if_pos h0];omega
  ·rw[if_neg h0];exact h
theorem ev51(fs:Option (List Fl))(hw:wfFs fs=true)(k:Nat):zCA X (Pre k) ob51 [encF fs]/\de51.eval X [encF fs]=X 51 [encF fs]:=by
 have hw':wfFl (fs.getD [])=true:=by
  cases fs with
  | none=>rfl
  | some l=>simp only[wfFs,baZ] at hw;exact hw.2
 have hfold:Folds X [encF fs] 1 (.v 0) [.k (.int 0)] [.f .ite [.f .leI [.k (.int 0),.f (.get 4) [.v 2]],.f .imax [.v 3,.f (.add .u32) [.f (.wrap .u32) [.f (.get 4) [.v 2]],.k (.int 1)]],.v 3]] Fl.d (fun n:Nat=>[.int (n:Int)]) (fun _ f n=>if 0<=f.tag then max n (f.tag.toNat+1) else n) (fs.getD []) 0:=by
  refine⟨rfl,by simp[DE.eval,qYB],rfl,fun i f n hf _=>?_⟩;have hm:f∈fs.getD []:=List.mem_of_getElem? hf;have ht:f.tag<=1000:=by
   have:=zIH hw' f hm
   cases f;simp only[wfF,baZ,dtZ] at this
   exact this.1.1
  simp only[zAA,zBA,ev_v,ev_k,ev_f,List.cons_append,List.nil_append,gsZ,gzZ,zPA,yKA,qRB,zQA,yYD,fe_imax,zXA];by_cases h:0<=f.tag
  ·simp only[h,decide_true,if_true];rw[IntKind.wrap_u32,IntKind.wrap_u32]
   congr 2
   omega
  ·simp only[h,decide_false,if_false,bfZ]
 refine⟨⟨hfold.all (fun _ _ _=>trivial),trivial⟩,?_⟩;rw[X_51,zLA];show (DE.fold _ _ _ _ _).eval X _=_;rw[hfold.fold 0];simp only[xUD,gzZ,qBA]
theorem xLC{fs:Option (List Fl)}(hw:wfFs fs=true):qBA (fs.getD [])<=1001:=by
 cases fs with
 | none=>simp[qBA]
 | some l=>simp only[wfFs,baZ] at hw;exact zZJ l 0 hw.2 (by omega)
theorem ev58(n m:Int)(k:Nat)(h0:0<=n)(h1:n<256)(h2:0<=m)(h3:m<=1000):zCA X (Pre k) ob58 [.int n,.int m]/\de58.eval X [.int n,.int m]=X 58 [.int n,.int m]:=by
 constructor
 ·simp only[ob58,zCA,Ob.holds,DE.eval,zDA,Fn.eval,gzZ,gsZ,D.asInt];rw[qUF (by omega) (by omega)];exact⟨by omega,trivial⟩
 ·simp only[de58,X_58,DE.eval,zDA,Fn.eval,gzZ,gsZ,D.asInt];rw[qUF (x:=n) (by omega) (by omega),qUF (by omega) (by omega),Int.tmod_eq_emod_of_nonneg h0]
end Go.Mx
namespace Go.Mx
open Go Go.Dx
def neqI(y:List UInt8)(i:Nat)(x:UInt8)(s:Bool):Bool:=if s then true else ((x.toNat:Int) != ((y.getD i 0).toNat:Int))
theorem yYH(y:List UInt8):∀(l:List UInt8) (i:Nat) (s:Bool),i+l.length<=y.length->xKA (neqI y) i l s=(s || !(l==(y.drop i).take l.length))
 | [],i,s,_=>by simp[xKA]
 | x::l,i,s,h=>by
  simp only[List.length_cons] at h;simp only[xKA];rw[yYH y l (i+1) _ (by omega)];have hi:i<y.length:=by omega
  have e:(y.drop i).take (x::l).length=y[i]::(y.drop (i+1)).take l.length:=by
   rw[List.drop_eq_getElem_cons hi];rfl
  rw[e];have e2:y.getD i 0=y[i]:=by simp[List.getD_eq_getElem?_getD,hi]
  simp only[neqI,e2];cases s
  ·by_cases hx:x=y[i]
   ·subst hx;have h1:((y[i].toNat:Int) != (y[i].toNat:Int))=false:=by simp
    simp[h1]
   ·have h1:((x.toNat:Int) != (y[i].toNat:Int))=true:=by
     simp only[bne_iff_ne,ne_eq];intro h2;exact hx (UInt8.toNat_inj.1 (by omega))
    simp[h1,hx]
  ·simp
theorem ev52(a b:Option (List UInt8))(k:Nat):zCA X (Pre k) ob52 [encB a,encB b]/\de52.eval X [encB a,encB b]=X 52 [encB a,encB b]:=by
 have hfold:(a.getD []).length=(b.getD []).length->Folds X [encB a,encB b] 2 (.v 0) [.k (.bool false)] [.f .ite [.v 4,.k (.bool true),.f .neI [.f (.get 0) [.v 3],.f (.get 0) [.f .at [.v 1,.v 2]]]]] (fun x:UInt8=>.int (x.toNat:Int)) (fun s:Bool=>[.bool s]) (neqI (b.getD [])) (a.getD []) false:=fun hl=>by
  refine⟨rfl,by simp[ev_v,xQF],rfl,fun i x s hx _=>?_⟩;have hi:i<(b.getD []).length:=by rw[<- hl];exact(List.getElem?_eq_some_iff.1 hx).1
  have e:(encB b).rows.getD i .nil = .int (((b.getD []).getD i 0).toNat:Int):=by
   rw[xQF];simp[List.getD_eq_getElem?_getD,hi]
  simp only[zAA,zBA,ev_v,ev_k,ev_f,List.cons_append,List.nil_append,gsZ,gzZ,zVF,Int.toNat_natCast,e,zPA,D.cells,qWC,zXA,neqI];cases s <;> rfl
 constructor
 ·refine⟨fun hc=>⟨?_,trivial⟩,trivial⟩;have hl:(a.getD []).length=(b.getD []).length:=by
   simp only[ev_f,zAA,zBA,ev_v,gzZ,gsZ,yAA,qWC,zVA,yWA] at hc;simp only[bne_eq_false_iff_eq] at hc;omega
  refine(hfold hl).all (fun i x hx=>⟨fun _=>⟨?_,trivial⟩,trivial⟩);have hi:i<(b.getD []).length:=by rw[<- hl];exact(List.getElem?_eq_some_iff.1 hx).1
  simp only[Ob.holds,ev_v,List.cons_append,List.nil_append,gsZ,gzZ,if_true,zNA,yWA,Int.toNat_natCast];exact⟨by omega,hi⟩
 ·rw[X_52,qOA,qOA];simp only[de52,ev_f,zAA,zBA,ev_v,ev_k,gzZ,gsZ,yAA,qWC,yWA,zXA];by_cases hl:(a.getD []).length=(b.getD []).length
  ·rw[(hfold hl).fold 0];rw[yYH _ _ _ _ (by omega)];have h1:(((a.getD []).length:Int) != ((b.getD []).length:Int))=false:=by simp[hl]
   simp only[h1,gzZ,zXA,Bool.false_or,List.drop_zero,bfZ,if_false];rw[hl,List.take_length];cases (a.getD []==b.getD []) <;> rfl
  ·have h1:(((a.getD []).length:Int) != ((b.getD []).length:Int))=true:=by
    simp only[bne_iff_ne,ne_eq];omega
   simp only[h1,if_true]
   congr 1
   symm;simp only[beq_eq_false_iff_ne,ne_eq];intro h;exact hl (by rw[h])
theorem anyI(p:Tg->Bool):∀(l:List Tg) (i:Nat) (s:Bool),xKA (fun _ x s=>if s then true else !p x) i l s=(s || !(l.all p))
 | [],i,s=>by simp[xKA]
 | x::l,i,s=>by
  simp only[xKA];rw[anyI p l (i+1)];cases s <;> cases h:p x <;> simp[h]
theorem ev54(t:T)(k:Nat):zCA X (Pre k) ob54 [t.d]/\de54.eval X [t.d]=X 54 [t.d]:=by
 have hfold:Folds X [t.d] 1 (.f (.get 4) [.v 0]) [.k (.bool false)] [.f .ite [.v 3,.k (.bool true),.f .not [.f .ite [.f .ltI [.k (.int 2147483647),.f .len [.f (.get 1) [.v 2]]],.k (.bool false),.k (.bool true)]]]] Tg.d (fun s:Bool=>[.bool s]) (fun _ x s=>if s then true else !(decide ((x.val.getD []).length<=2147483647))) t.U false:=by
  refine⟨rfl,?_,rfl,fun i x s hx _=>?_⟩
  ·simp only[ev_f,zAA,zBA,ev_v,gzZ,gsZ,zPA,yBA,qZB];rfl
  ·simp only[zAA,zBA,ev_v,ev_k,ev_f,List.cons_append,List.nil_append,gsZ,gzZ,zPA,zUB,yAA,yWA,qKA,zXA];by_cases h:(x.val.getD []).length<=2147483647
   ·have h2:¬((2147483647:Int)<((x.val.getD []).length:Int)):=by omega
    simp only[h,h2,decide_false,decide_true,bfZ,if_false,yNC];cases s <;> rfl
   ·have h2:((2147483647:Int)<((x.val.getD []).length:Int)):=by omega
    simp only[h,h2,decide_false,decide_true,if_true,yNC];cases s <;> rfl
 constructor
 ·exact⟨fun _=>⟨fun _=>⟨fun _=>⟨hfold.all (fun _ _ _=>⟨fun _=>trivial,trivial⟩),trivial⟩,trivial⟩,trivial⟩,trivial⟩
 ·rw[X_54,yTA];simp only[de54,ev_f,zAA,zBA,ev_v,ev_k,gzZ,gsZ,zPA,yBA,yAA,yWA,xXA,xIA,qKA,zXA];rw[hfold.fold 0,anyI];have e1:(t.s.getD [])=t.S:=rfl;have e2:(t.l.getD [])=t.L:=rfl;have e3:(t.u.getD [])=t.U:=rfl;simp only[e1,e2,e3,gzZ,zXA,Bool.false_or,xAD];have c:∀n:Nat,decide ((2147483647:Int)<(n:Int)) = !decide (n<=2147483647):=fun n=>by
   by_cases h:n<=2147483647
   ·have:¬((2147483647:Int)<(n:Int)):=by omega
    simp[h,this]
   ·have:((2147483647:Int)<(n:Int)):=by omega
    simp[h,this]
  rw[c,c,c];cases decide (t.S.length<=2147483647) <;> cases decide (t.L.length<=2147483647) <;> cases decide (t.U.length<=2147483647) <;> cases (t.U.all fun x=>decide ((x.val.getD []).length<=2147483647)) <;> rfl
end Go.Mx
namespace Go.Mx
open Go Go.Dx
def mapI{A B:Type}(g:Nat->A->B):Nat->List A->List B
 | _,[]=>[]
 | i,a::r=>g i a::mapI g (i+1) r
theorem xNB{A B:Type}(g:Nat->A->B):∀(l:List A) (i:Nat) (s:List B),xKA (fun i a s=>s++[g i a]) i l s=s++mapI g i l
 | [],i,s=>by simp[xKA,mapI]
 | a::l,i,s=>by simp only[xKA,mapI];rw[xNB g l (i+1)];simp
theorem xPA{A B:Type}(g:A->B):∀(l:List A) (i:Nat),mapI (fun _ a=>g a) i l=l.map g
 | [],_=>rfl
 | a::l,i=>by simp[mapI,xPA g l (i+1)]
theorem yBJ{A B:Type}(g:Nat->A->B):∀(l:List A) (i:Nat),(mapI g i l).length=l.length
 | [],_=>rfl
 | a::l,i=>by simp[mapI,yBJ g l (i+1)]
theorem appd_T(a:List T)(x:T):(encT (nz a)).appd (.list [x.d])=encT (nz (a++[x])):=by
 cases a with
 | nil=>simp[nz,encT,D.appd,tds]
 | cons y a=>simp[nz,encT,D.appd,yBC]
theorem xAK(a:List Tg)(x:Tg):(encU (nz a)).appd (.list [x.d])=encU (nz (a++[x])):=by
 cases a with
 | nil=>simp[nz,encU,D.appd]
 | cons y a=>simp[nz,encU,D.appd]
theorem xSI{l b:Nat}(h:l<=50000)(hb:b<=4096):l*b<=LIM/\l<=maxLen:=by
 have:l*b<=50000*4096:=Nat.mul_le_mul h hb
 exact⟨by simp only[LIM];omega,by simp only[maxLen];omega⟩
theorem yXA{α:Type}(l:List α):(nz l).getD []=l:=by cases l <;> rfl
theorem smT_l{t:T}(h:smT t=true):t.L.length<=40000/\t.U.length<=40000 /\ ∀x∈t.L,smT x=true:=by
 cases t with
 | mk n s b l u =>
  simp only[smT,baZ,dtZ] at h;refine⟨?_,h.2,?_⟩
  ·cases l with
   | none=>simp[T.L,T.l]
   | some l=>simp only[smTo,baZ,dtZ] at h;exact h.1.1
  ·cases l with
   | none=>intro x hx;simp[T.L,T.l] at hx
   | some l=>simp only[smTo,baZ,dtZ] at h;exact xAJ h.1.2
theorem wT_L{t x:T}(h:x∈t.L):wT x<wT t:=by
 cases t with
 | mk n s b l u =>
  cases l with
  | none=>simp[T.L,T.l] at h
  | some l =>
   have:=wT_mem (l:=l) (t:=x) h
   simp only[wT,wTo];omega
theorem given_d(t:T):(given t).d = .row [.int t.n,encB t.s,.bool t.null,encT (nz (t.L.map given)),encU (nz t.U)]:=by
 cases t with
 | mk n s b l u =>
  simp only[given,T.d,T.n,T.s,T.null,T.U,T.u,T.L,T.l];cases l with
  | none=>simp[xUE,nz]
  | some l=>simp[xUE,yGD]
theorem ev44(t:T)(n:Nat)(h:Pre (n+1) 44 [t.d]):zCA X (Pre n) ob44 [t.d]/\de44.eval X [t.d]=X 44 [t.d]:=by
 obtain⟨hm,hs⟩:=h;have hm:=hm rfl;rw[zFL,yTA] at hm;rw[qAI,yTA] at hs;obtain⟨s1,s2,s3⟩:=smT_l hs;have f1:Folds X [t.d] 1 (.f (.get 3) [.v 0]) [.k .nil] [.f .app [.v 3,.f .mklist [.f (.ext 44) [.v 2]]]] T.d (fun a:List T=>[encT (nz a)]) (fun _ x a=>a++[given x]) t.L []:=by
  refine⟨rfl,?_,rfl,fun i x a hx _=>?_⟩
  ·simp only[ev_f,zAA,zBA,ev_v,gzZ,gsZ,zPA,yBA,zPD];rfl
  ·simp only[zAA,zBA,ev_v,ev_k,ev_f,List.cons_append,List.nil_append,gsZ,gzZ,zOA,X_44,yTA,yMC,yVA,appd_T]
 have f2:Folds X [t.d] 1 (.f (.get 4) [.v 0]) [.k .nil] [.f .app [.v 3,.f .mklist [.f .mkrow [.f (.get 0) [.v 2],.f (.get 1) [.v 2]]]]] Tg.d (fun a:List Tg=>[encU (nz a)]) (fun _ x a=>a++[x]) t.U []:=by
  refine⟨rfl,?_,rfl,fun i x a hx _=>?_⟩
  ·simp only[ev_f,zAA,zBA,ev_v,gzZ,gsZ,zPA,yBA,qZB];rfl
  ·simp only[zAA,zBA,ev_v,ev_k,ev_f,List.cons_append,List.nil_append,gsZ,gzZ,zPA,zUB,qTA,yMC,yVA];rw[<- xAK];rfl
 constructor
 ·refine⟨f2.all (fun k x hx=>?_),f1.all (fun k x hx=>?_),trivial⟩
  ·have hk:=(List.getElem?_eq_some_iff.1 hx).1;simp only[zCA,Ob.holds,zAA,zBA,ev_v,ev_k,ev_f,List.cons_append,List.nil_append,gsZ,gzZ,zPA,zUB,qTA,yMC,yVA];rw[xNB (fun _ x=>x),xPA];have e:((encU (nz ([]++List.map (fun x=>x) (List.take k t.U)))).appd (D.list [D.row [D.int x.key,encB x.val]])).len<=50000:=by
    show ((encU (nz ([]++List.map (fun x=>x) (List.take k t.U)))).appd (D.list [x.d])).len<=50000;rw[xAK,xIA,yXA]
    simp;omega
   exact⟨xSI e (by omega),trivial⟩
  ·have hk:=(List.getElem?_eq_some_iff.1 hx).1;have hxm:x∈t.L:=List.mem_of_getElem? hx;simp only[zCA,Ob.holds,zAA,zBA,ev_v,ev_k,ev_f,List.cons_append,List.nil_append,gsZ,gzZ,zOA,X_44,yTA,yMC,yVA];rw[xNB (fun _ x=>given x),xPA];have e:((encT (nz ([]++List.map given (List.take k t.L)))).appd (D.list [(given x).d])).len<=50000:=by
    rw[appd_T,xXA,yXA]
    simp;omega
   refine⟨xSI e (by omega),⟨fun _=>?_,?_⟩,trivial⟩
   ·rw[zFL,yTA]
    have:=wT_L hxm
    omega
   ·rw[qAI,yTA];exact s3 x hxm
 ·rw[X_44,yTA,given_d];simp only[de44,ev_f,zAA,zBA,ev_v,gzZ,gsZ,zPA,yBA,qTA];rw[f1.fold 0,f2.fold 0,xNB (fun _ x=>given x),xNB (fun _ x=>x),xPA,xPA]
  simp
end Go.Mx
namespace Go.Mx
open Go Go.Dx
theorem zXG(x:Tg):∀l:List Tg,(xEA x l).length<=l.length+1
 | []=>by simp[xEA]
 | t::r=>by
  simp only[xEA]
  have:=zXG x r
  split
  ·simp;omega
  ·split <;> simp
theorem zYB(p:Tg->Bool):∀(l:List Tg) (a:List Tg),(l.foldl (fun out t=>if p t then out else xEA t out) a).length<=a.length+l.length
 | [],a=>by simp
 | t::r,a=>by
  simp only[List.foldl]
  have:=zYB p r (if p t then a else xEA t a)
  have h2:=zXG t a;cases hp:p t <;> simp only[hp,if_true,bfZ,if_false,List.length_cons] at this ⊢ <;> omega
theorem zGC(fs:List Fl)(u:Option (List Tg)):(zTA fs u).length<=32767:=by
 unfold zTA
 have:=zYB (fun t=>decide (t.key<(qBA fs:Int))) ((u.getD []).take Most) []
 simp only[dtZ,List.length_nil,Nat.zero_add,List.length_take,Most] at this ⊢;omega
def cut(x:Tg):Tg:=⟨x.key,whole x.val⟩
theorem FitS_eq(fs:Option (List Fl))(v:Int)(t:T):FitS fs v t = .mk 0 none false (nz (mapI (fun i f=>yBB f v (at' t i)) 0 (fs.getD []))) (nz ((zTA (fs.getD []) t.u).map cut)):=by
 have h:∀(l:List Fl) (i:Nat),fitL l i v t=mapI (fun i f=>yBB f v (at' t i)) i l:=fun l=>by
  induction l with
  | nil=>intro i;rfl
  | cons f l ih=>intro i;simp[fitL,mapI,ih]
 cases fs with
 | none=>rfl
 | some l=>simp only[FitS,h];rfl
theorem yEJ{α:Type}(l:List α):l.take (min (l.length:Int) 32767).toNat=l.take 32767:=by
 by_cases h:l.length<=32767
 ·rw[List.take_of_length_le h,List.take_of_length_le (by omega)]
 ·congr 1;omega
theorem qPH(s:Option (List UInt8)):(encB s).takeD (min ((s.getD []).length:Int) 32767).toNat=encB (whole s):=by
 rw[yEK];cases s with
 | none=>rfl
 | some s =>
  simp only[whole,Option.map_some,Option.getD_some];rw[yEJ s];rfl
theorem takeT(s:Option (List T)):(encT s).takeD (min ((s.getD []).length:Int) 32767).toNat=encT (yEE s):=by
 rw[yFK];cases s with
 | none=>rfl
 | some s =>
  simp only[yEE,Option.map_some,Option.getD_some];rw[yEJ s];rfl
theorem xEG{fs:Option (List Fl)}(h:wfFs fs=true):(fs.getD []).length<=1000 /\ ∀f∈fs.getD [],wfF f=true:=by
 cases fs with
 | none=>simp
 | some l=>simp only[wfFs,baZ,dtZ] at h;exact⟨h.1,zIH h.2⟩
theorem qQD{fs:Option (List Fl)}{f:Fl}(h:f∈fs.getD []):wF f<wFs fs:=by
 cases fs with
 | none=>simp at h
 | some l=>have:=wF_mem (l:=l) h;simp only[wFs];omega
end Go.Mx
namespace Go.Mx
open Go Go.Dx
theorem one_d(f:Fl):(one f).d = .row [.int f.of,.int f.frm,.int f.to,.int (-1),.int (-1),.int f.dflt,.int f.of,encF f.sub]:=by
 cases f;simp[one,Fl.d,Fl.of,Fl.frm,Fl.to,Fl.dflt,Fl.sub]
theorem qPL{f:Fl}(h:wfF f=true)(hk:f.kind=11):f.of≠11:=by
 cases f;simp only[wfF,baZ,Bool.or_eq_true,dtZ,Fl.kind,Fl.of] at h hk ⊢;rcases h.1.2 with h|h
 ·exact absurd hk h
 ·exact h
theorem wfF_one{f:Fl}(h:wfF f=true)(hk:f.kind=11):wfF (one f)=true:=by
 have ho:=qPL h hk;have hs:=qQF h;cases f;simp only[Fl.of,Fl.sub] at ho hs;simp only[one,wfF,baZ,Bool.or_eq_true,dtZ,Fl.of,Fl.sub];exact⟨⟨by omega,.inl ho⟩,hs⟩
theorem qYJ(k:Int):(if (k==8)=true then (k==8) else (k==9))=decide (k=8∨k=9):=by
 by_cases h8:k=8 <;> by_cases h9:k=9 <;> simp[h8,h9]
theorem xUB(a b:Int):(a==b)=decide (a=b):=by
 by_cases h:a=b <;> simp[h]
end Go.Mx
namespace Go.Mx
open Go Go.Dx
def posT(x:Tg):List Tg->Nat
 | []=>0
 | t::r=>if t.key<x.key then posT x r+1 else 0
theorem xEF(x:Tg):∀l,posT x l<=l.length
 | []=>Nat.le_refl _
 | t::r=>by
  simp only[posT]
  have:=xEF x r
  split <;> simp <;> omega
theorem zZL(x z:Tg):∀(l:List Tg) (k:Nat),k<posT x l->(l.getD k z).key<x.key
 | [],k,h=>by simp[posT] at h
 | t::r,k,h=>by
  simp only[posT] at h;split at h
  ·rename_i ht;cases k with
   | zero=>simpa using ht
   | succ k=>simpa using zZL x z r k (by omega)
  ·omega
theorem xHH(x z:Tg):∀(l:List Tg),posT x l<l.length -> ¬(l.getD (posT x l) z).key<x.key
 | [],h=>by simp[posT] at h
 | t::r,h=>by
  simp only[posT] at h ⊢;split
  ·rename_i ht;rw[if_pos ht] at h;simp only[List.length_cons] at h;simpa using xHH x z r (by omega)
  ·rename_i ht;simpa using ht
theorem yNH(x z:Tg):∀l:List Tg,xEA x l=if posT x l<l.length/\(l.getD (posT x l) z).key=x.key then l else l.take (posT x l)++x::l.drop (posT x l)
 | []=>by simp[xEA,posT]
 | t::r=>by
  by_cases h:t.key<x.key
  ·have e:posT x (t::r)=posT x r+1:=by rw[posT,if_pos h]
   have e2:xEA x (t::r)=t::xEA x r:=by rw[xEA,if_pos h]
   rw[e,e2,yNH x z r];by_cases h2:posT x r<r.length/\(r.getD (posT x r) z).key=x.key
   ·rw[if_pos h2,if_pos (by simpa using h2)]
   ·rw[if_neg h2,if_neg (by simpa using h2)]
    simp
  ·have e:posT x (t::r)=0:=by rw[posT,if_neg h]
   have e2:xEA x (t::r)=if t.key=x.key then t::r else x::t::r:=by rw[xEA,if_neg h]
   rw[e,e2];by_cases h2:t.key=x.key
   ·rw[if_pos h2,if_pos (by simp[h2])]
   ·rw[if_neg h2,if_neg (by simp[h2])]
    simp
def yQC(z:Tg)(l:List Tg)(j:Nat):List Tg:=l.take (l.length-j)++(if j=0 then z else l.getD (l.length-j) z)::l.drop (l.length-j)
theorem xHI(z:Tg)(l:List Tg):yQC z l 0=l++[z]:=by simp[yQC]
theorem yLD(z:Tg)(l:List Tg)(j:Nat)(h:j<=l.length):(yQC z l j).length=l.length+1:=by
 simp[yQC];omega
theorem zLK(z:Tg)(l:List Tg)(j:Nat)(h:j<l.length):(yQC z l j)[l.length-j-1]? = some (l.getD (l.length-j-1) z):=by
 rw[yQC,List.getElem?_append_left (by simp;omega),List.getElem?_take_of_lt (by omega),List.getElem?_eq_getElem (by omega),List.getD_eq_getElem?_getD,List.getElem?_eq_getElem (by omega)];rfl
theorem xXI{α:Type}(a:List α)(x y:α)(b:List α)(n:Nat)(h:n=a.length):(a++x::b).set n y=a++y::b:=by
 subst h;rw[List.set_append_right _ _ (Nat.le_refl _)];simp
theorem yJG(z:Tg)(l:List Tg)(j:Nat)(h:j<=l.length)(y:Tg):(yQC z l j).set (l.length-j) y=l.take (l.length-j)++y::l.drop (l.length-j):=by
 rw[yQC,xXI _ _ _ _ _ (by simp)]
theorem xGI(z:Tg)(l:List Tg)(j:Nat)(h:j<l.length):(yQC z l j).set (l.length-j) (l.getD (l.length-j-1) z)=yQC z l (j+1):=by
 rw[yJG z l j (by omega),yQC,if_neg (by omega)];have e:l.length-(j+1)=l.length-j-1:=by omega
 rw[e];have e1:l.take (l.length-j)=l.take (l.length-j-1)++[l.getD (l.length-j-1) z]:=by
  have h2:l[l.length-j-1]? = some (l.getD (l.length-j-1) z):=by
   rw[List.getD_eq_getElem?_getD,List.getElem?_eq_getElem (by omega)];rfl
  have:=yTC h2
  rw[<- this]
  congr 1;omega
 have e2:l.drop (l.length-j-1)=l.getD (l.length-j-1) z::l.drop (l.length-j):=by
  rw[List.drop_eq_getElem_cons (by omega)]
  congr 1
  ·rw[List.getD_eq_getElem?_getD,List.getElem?_eq_getElem (by omega)];rfl
  ·congr 1;omega
 rw[e1,e2];simp
theorem nz_enc{l:List Tg}(h:0<l.length):encU (nz l) = .list (l.map Tg.d):=by
 cases l with
 | nil=>simp at h
 | cons a l=>rfl
theorem yXL(l:List Tg)(n:Nat)(x:Tg)(h:0<l.length):(encU (nz l)).setAtD n x.d=encU (nz (l.set n x)):=by
 rw[nz_enc h,nz_enc (by simpa using h),List.map_set];rfl
theorem at_U(l:List Tg)(n:Nat)(z x:Tg)(h:l[n]? = some x):(encU (nz l)).rows.getD n .nil=x.d:=by
 rw[qZB,yXA,List.getD_eq_getElem?_getD,List.getElem?_map,h];rfl
def go1:DE:=.f .ite [.f .ltI [.v 7,.f .len [.v 4]],.f .ltI [.f (.get 0) [.f .at [.v 4,.v 7]],.f (.get 0) [.v 3]],.k (.bool false)]
def is1:List DE:=[.k (.int 0)]
def bs1:List DE:=[.f (.add .i64) [.v 7,.k (.int 1)]]
def iE:DE:=.fold 5 (.f .iota [.wh 5 go1 is1 bs1]) is1 bs1 0
def apE:DE:=.f .app [.v 4,.f .mklist [.f .mkrow [.k (.int 0),.k .nil]]]
def go2:DE:=.f .ltI [iE,.v 7]
def is2:List DE:=[.f (.sub .i64) [.f .len [apE],.k (.int 1)],apE]
def bs2:List DE:=[.f (.sub .i64) [.v 7,.k (.int 1)],.f .setAt [.v 8,.v 7,.f .at [.v 8,.f (.sub .i64) [.v 7,.k (.int 1)]]]]
def src41:DE:=.f .take [.v 1,.f .imin [.f .len [.v 1],.k (.int 32767)]]
def cl41:DE:=.f .ltI [.f (.get 0) [.v 3],.f (.ext 51) [.v 0]]
def yWL:DE:=.f .eqI [.f (.get 0) [.f .at [.v 4,iE]],.f (.get 0) [.v 3]]
def c41:DE:=.f .ite [cl41,.k (.bool true),.f .ite [.f .ltI [iE,.f .len [.v 4]],yWL,.k (.bool false)]]
def li41(j:Nat):DE:=.fold 5 (.f .iota [.wh 5 go2 is2 bs2]) is2 bs2 j
def bs41:List DE:=[.f .ite [c41,.v 4,.f .setAt [li41 1,iE,.v 3]]]
theorem de41_eq:de41 = .fold 2 src41 [.k .nil] bs41 0:=rfl
def os41:List Ob:=[.when c41 false [.idx iE (li41 1) true,.idx iE (li41 1) true,.term 5 go2 is2 bs2,.all (.f .iotaS [.wh 5 go2 is2 bs2]) is2 bs2 [.when go2 true [.idx (.v 7) (.v 8) true,.idx (.v 7) (.v 8) true,.idx (.f (.sub .i64) [.v 7,.k (.int 1)]) (.v 8) true,.idx (.f (.sub .i64) [.v 7,.k (.int 1)]) (.v 8) true]],.room apE 32],
 .when cl41 false [.when (.f .ltI [iE,.f .len [.v 4]]) true [.idx iE (.v 4) true,.idx iE (.v 4) true]],
 .term 5 go1 is1 bs1,.all (.f .iotaS [.wh 5 go1 is1 bs1]) is1 bs1 [.when (.f .ltI [.v 7,.f .len [.v 4]]) true [.idx (.v 7) (.v 4) true,.idx (.v 7) (.v 4) true]]]
theorem ob41_eq:ob41=[.all src41 [.k .nil] bs41 os41,.idx (.f .imin [.f .len [.v 1],.k (.int 32767)]) (.v 1) false,.pre 51 [.v 0]]:=rfl
theorem qUL{x:Int}(h1:-100000<=x)(h2:x<=100000):IntKind.i64.wrap x=x:=by
 rw[IntKind.wrap_i64];omega
section
variable {fs u:D} {i:Nat} {x:Tg} {out:List Tg}
def zPB(fs u:D)(i:Nat)(x:Tg)(out:List Tg):List D:=[fs,u,.int i,x.d,encU (nz out)]
theorem run1(h:out.length<=50000):Runs X (zPB fs u i x out) 5 go1 is1 bs1 (posT x out) (fun k=>[.int k]):=by
 have hle:=xEF x out;refine⟨rfl,rfl,fun k hk=>?_,fun k hk=>?_,?_⟩
 ·simp only[zPB,bs1,zAA,zBA,ev_v,ev_k,ev_f,List.cons_append,List.nil_append,gsZ,gzZ,yYD];rw[qUL (by omega) (by omega)];rfl
 ·have:=zZL x x out k hk
  have hk':out[k]? = some (out.getD k x):=by rw[List.getD_eq_getElem?_getD,List.getElem?_eq_getElem (by omega)];rfl
  simp only[zPB,go1,zAA,zBA,ev_v,ev_k,ev_f,List.cons_append,List.nil_append,gsZ,gzZ,yAA,xIA,yXA,qKA,zVF,Int.toNat_natCast,at_U out k x _ hk',zPA,zUB,zXA];rw[decide_eq_true (by omega),decide_eq_true this];rfl
 ·simp only[zPB,go1,zAA,zBA,ev_v,ev_k,ev_f,List.cons_append,List.nil_append,gsZ,gzZ,yAA,xIA,yXA,qKA,zVF,Int.toNat_natCast,zPA];by_cases h2:posT x out<out.length
  ·have hk':out[posT x out]? = some (out.getD (posT x out) x):=by rw[List.getD_eq_getElem?_getD,List.getElem?_eq_getElem (by omega)];rfl
   simp only[at_U out _ x _ hk',zUB,gzZ,qKA,zXA];rw[decide_eq_false (xHH x x out h2)];split <;> rfl
  ·rw[decide_eq_false (by omega)];rfl
theorem yVE(h:out.length<=50000):iE.eval X (zPB fs u i x out) = .int (posT x out:Nat):=by
 rw[iE,(run1 h).fold 0];rfl
theorem qBG(h:out.length<=50000)(r:List D):iE.eval X (zPB fs u i x out++r) = .int (posT x out:Nat):=by
 rw[<- yVE (fs:=fs) (u:=u) (i:=i) h];exact xFA (n:=5) (by simp[zPB]) (by rfl)
theorem yZK:apE.eval X (zPB fs u i x out)=encU (nz (out++[⟨0,none⟩])):=by
 have e:D.row [.int 0,.nil]=Tg.d ⟨0,none⟩:=rfl;simp only[zPB,apE,zAA,zBA,ev_v,ev_k,ev_f,gsZ,gzZ,qTA,yMC,yVA];rw[e,xAK]
theorem run2(h:out.length<=50000):Runs X (zPB fs u i x out) 5 go2 is2 bs2 (out.length-posT x out) (fun k=>[.int ((out.length-k:Nat):Int),encU (nz (yQC ⟨0,none⟩ out k))]):=by
 have hle:=xEF x out;refine⟨rfl,?_,fun k hk=>?_,fun k hk=>?_,?_⟩
 ·simp only[is2,zAA,zBA,ev_f,yZK,ev_k,yAA,xIA,yXA,qXC,xHI];rw[qUL (by simp[List.length_append]) (by simp[List.length_append];omega)]
  simp
 ·have e1:((out.length-k:Nat):Int)-1=((out.length-k-1:Nat):Int):=by omega
  have hl:=yLD ⟨0,none⟩ out k (by omega);simp only[zPB,bs2,zAA,zBA,ev_v,ev_k,ev_f,List.cons_append,List.nil_append,gsZ,gzZ,qXC];rw[qUL (by omega) (by omega),e1];simp only[zVF,Int.toNat_natCast,at_U _ _ x _ (zLK ⟨0,none⟩ out k (by omega))];have e2:∀a (b c:D),Fn.eval X .setAt [a,b,c]=a.setAtD b.asInt.toNat c:=fun _ _ _=>rfl
  rw[e2,zNA,Int.toNat_natCast,yXL _ _ _ (by omega),xGI _ _ _ (by omega)]
  congr 2
 ·simp only[go2,zAA,zBA,ev_f,qBG h];simp only[zPB,ev_v,List.cons_append,List.nil_append,gsZ,gzZ,qKA,zVA];exact decide_eq_true (by omega)
 ·simp only[go2,zAA,zBA,ev_f,qBG h];simp only[zPB,ev_v,List.cons_append,List.nil_append,gsZ,gzZ,qKA,zVA];exact decide_eq_false (by omega)
theorem qYK(h:out.length<=50000):(li41 1).eval X (zPB fs u i x out)=encU (nz (yQC ⟨0,none⟩ out (out.length-posT x out))):=by
 rw[li41,(run2 h).fold 1];rfl
end
theorem zDE(p:Tg->Prop)[DecidablePred p]:∀(l:List Tg) (i:Nat) (s:List Tg),xKA (fun _ t out=>if p t then out else xEA t out) i l s=l.foldl (fun out t=>if p t then out else xEA t out) s
 | [],_,_=>rfl
 | a::l,i,s=>by simp only[xKA,List.foldl];exact zDE p l (i+1) _
theorem ev41(fs:Option (List Fl))(u:Option (List Tg))(n:Nat)(hw:wfFs fs=true):zCA X (Pre n) ob41 [encF fs,encU u]/\de41.eval X [encF fs,encU u]=X 41 [encF fs,encU u]:=by
 have hcl:∀(i:Nat) (x:Tg) (out:List Tg),cl41.eval X (zPB (encF fs) (encU u) i x out) = .bool (decide (x.key<(qBA (fs.getD []):Int))):=fun i x out=>by
  simp only[zPB,cl41,zAA,zBA,ev_v,ev_f,gsZ,gzZ,zPA,zUB,zOA,X_51,zLA,qKA]
 have hlt:∀(i:Nat) (x:Tg) (out:List Tg),out.length<=50000->(DE.f .ltI [iE,.f .len [.v 4]]).eval X (zPB (encF fs) (encU u) i x out) = .bool (decide (posT x out<out.length)):=fun i x out h=>by
  simp only[zAA,zBA,ev_f,yVE h];simp only[zPB,ev_v,gsZ,gzZ,yAA,xIA,yXA,qKA,Int.ofNat_lt]
 have hc:∀(i:Nat) (x:Tg) (out:List Tg),out.length<=50000->c41.eval X (zPB (encF fs) (encU u) i x out) = .bool (decide (x.key<(qBA (fs.getD []):Int)∨(posT x out<out.length/\(out.getD (posT x out) x).key=x.key))):=fun i x out h=>by
  rw[c41,ev_f];simp only[zAA,zBA,hcl,ev_k,zXA];rw[ev_f];simp only[zAA,zBA,hlt i x out h,ev_k,zXA];by_cases h1:x.key<(qBA (fs.getD []):Int)
  ·simp[h1]
  ·by_cases h2:posT x out<out.length
   ·have hk':out[posT x out]? = some (out.getD (posT x out) x):=by rw[List.getD_eq_getElem?_getD,List.getElem?_eq_getElem (by omega)];rfl
    have e:yWL.eval X (zPB (encF fs) (encU u) i x out) = .bool ((out.getD (posT x out) x).key==x.key):=by
     simp only[yWL,zAA,zBA,ev_f,yVE h];simp only[zPB,ev_v,gsZ,gzZ,zVF,Int.toNat_natCast,at_U out _ x _ hk',zPA,zUB,zQB]
    simp only[h1,h2,e,decide_true,decide_false,if_true,bfZ,if_false,false_or,true_and];exact congrArg D.bool (xUB _ _)
   ·simp[h1,h2]
 have hfold:Folds X [encF fs,encU u] 2 src41 [.k .nil] bs41 Tg.d (fun a:List Tg=>[encU (nz a)]) (fun _ x a=>if x.key<(qBA (fs.getD []):Int) then a else xEA x a) ((u.getD []).take Most) []:=by
  refine⟨rfl,?_,rfl,fun i x a hx ha=>?_⟩
  ·simp only[src41,ev_f,ev_k,zAA,zBA,ev_v,gzZ,gsZ,yAA,xIA,qFA,xVB,yGK,qZB];cases u with
   | none=>rfl
   | some l =>
    simp only[Option.map_some,Option.getD_some];have e:l.take (min (l.length:Int) 32767).toNat=l.take 32767:=by
     by_cases h:l.length<=32767
     ·rw[List.take_of_length_le (by omega),List.take_of_length_le (by omega)]
     ·congr 1;omega
    rw[e];rfl
  ·have hal:a.length<=50000:=by
    rw[ha,zDE (fun x=>x.key<(qBA (fs.getD []):Int))]
    have:=zYB (fun t=>decide (t.key<(qBA (fs.getD []):Int))) (((u.getD []).take Most).take i) []
    simp only[dtZ] at this;refine Nat.le_trans this ?_;simp[Most];omega
   show zDA X bs41 (zPB (encF fs) (encU u) i x a)=_;have hp:=xEF x a;simp only[bs41,zAA,zBA];rw[ev_f];simp only[zAA,zBA];rw[hc i x a hal,zXA,ev_f];simp only[zAA,zBA];rw[qYK hal,yVE hal];have e2:∀a (b c:D),Fn.eval X .setAt [a,b,c]=a.setAtD b.asInt.toNat c:=fun _ _ _=>rfl
   have e3:(DE.v 3).eval X (zPB (encF fs) (encU u) i x a)=x.d:=rfl;have e4:(DE.v 4).eval X (zPB (encF fs) (encU u) i x a)=encU (nz a):=rfl;have hl:=yLD ⟨0,none⟩ a (a.length-posT x a) (by omega);rw[e2,e3,e4,zNA,Int.toNat_natCast,yXL _ _ _ (by omega),yNH x x];have hs:=yJG ⟨0,none⟩ a (a.length-posT x a) (by omega) x;have e5:a.length-(a.length-posT x a)=posT x a:=by omega
   rw[e5] at hs;rw[hs];by_cases h1:x.key<(qBA (fs.getD []):Int)
   ·simp[h1]
   ·by_cases h2:posT x a<a.length/\(a.getD (posT x a) x).key=x.key
    ·rw[if_pos (decide_eq_true (.inr h2)),if_neg h1,if_pos h2]
    ·rw[if_neg (by simp only[h1,h2,false_or,decide_false];exact Bool.false_ne_true),if_neg h1,if_neg h2]
 constructor
 ·rw[ob41_eq];refine⟨hfold.all (fun k x hx=>?_),?_,⟨fun e=>by simp[yRA] at e,?_⟩,trivial⟩
  ·generalize ha:xKA (fun _ x a=>if x.key<(qBA (fs.getD []):Int) then a else xEA x a) 0 (((u.getD []).take Most).take k) []=a;have hal:a.length<=40000:=by
    rw[<- ha,zDE (fun x=>x.key<(qBA (fs.getD []):Int))]
    have:=zYB (fun t=>decide (t.key<(qBA (fs.getD []):Int))) (((u.getD []).take Most).take k) []
    simp only[dtZ] at this;refine Nat.le_trans this ?_;simp[Most];omega
   have hal':a.length<=50000:=by omega
   have hp:=xEF x a;have hl:=yLD ⟨0,none⟩ a (a.length-posT x a) (by omega);show zCA X (Pre n) os41 (zPB (encF fs) (encU u) k x a);have hrun1:=run1 (fs:=encF fs) (u:=encU u) (i:=k) (x:=x) hal';have hrun2:=run2 (fs:=encF fs) (u:=encU u) (i:=k) (x:=x) hal';have hidx:(Ob.idx iE (li41 1) true).holds X (Pre n) (zPB (encF fs) (encU u) k x a):=by
    simp only[Ob.holds];rw[qYK hal',yVE hal',xIA,yXA];simp only[zNA,if_true,Int.toNat_natCast];omega
   refine⟨fun _=>⟨hidx,hidx,hrun2.term,hrun2.all (fun j hj=>⟨fun hg=>?_,trivial⟩),?_,trivial⟩,⟨fun _=>⟨fun hg=>?_,trivial⟩,hrun1.term,hrun1.all (fun j hj=>⟨fun hg=>?_,trivial⟩),trivial⟩⟩
   ·have hl2:=yLD ⟨0,none⟩ a j (by omega);rw[go2,ev_f] at hg;simp only[zAA,zBA,qBG hal'] at hg;simp only[zPB,ev_v,List.cons_append,List.nil_append,gsZ,gzZ,qKA,zVA,dtZ] at hg;have e1:((a.length-j:Nat):Int)-1=((a.length-j-1:Nat):Int):=by omega
    simp only[zCA,Ob.holds,zPB,zAA,zBA,ev_v,ev_k,ev_f,List.cons_append,List.nil_append,gsZ,gzZ,zNA,qXC,if_true,xIA,yXA,Int.toNat_natCast];rw[qUL (by omega) (by omega),e1];simp only[Int.toNat_natCast,and_true,and_self];omega
   ·simp only[Ob.holds];rw[yZK,xIA,yXA];exact xSI (by simp;omega) (by omega)
   ·rw[hlt k x a hal',zVA,dtZ] at hg
    have:(Ob.idx iE (.v 4) true).holds X (Pre n) (zPB (encF fs) (encU u) k x a):=by
     simp only[Ob.holds];rw[yVE hal'];simp only[zPB,ev_v,gsZ,gzZ,xIA,yXA,zNA,if_true,Int.toNat_natCast];omega
    exact⟨this,this,trivial⟩
   ·simp only[zPB,zAA,zBA,ev_v,ev_f,List.cons_append,List.nil_append,gsZ,gzZ,yAA,xIA,yXA,qKA,zVA,dtZ] at hg;simp only[zCA,Ob.holds,zPB,ev_v,List.cons_append,List.nil_append,gsZ,gzZ,zNA,if_true,xIA,yXA,Int.toNat_natCast,and_true,and_self];omega
  ·simp only[Ob.holds,zAA,zBA,ev_v,ev_k,ev_f,gsZ,gzZ,yAA,xIA,qFA,zNA,bfZ,if_false];omega
  ·simp only[zAA,zBA,ev_v,gzZ];rw[qDI,zLA];exact hw
 ·rw[X_41,zLA,decU_enc,de41_eq,hfold.fold 0];rw[zDE (fun x=>x.key<(qBA (fs.getD []):Int))];rfl
end Go.Mx
namespace Go.Mx
open Go Go.Dx
theorem xBB{l:Nat}(h:l<=lim):l*1<=LIM/\l<=maxLen:=by
 simp only[lim] at h;exact⟨by simp only[LIM];omega,by simp only[maxLen];omega⟩
theorem band1(n:Int):IntKind.i64.wrap ((BitVec.ofInt IntKind.i64.bits n &&& BitVec.ofInt IntKind.i64.bits 1).toNat:Nat)=n%2:=by
 have e:(BitVec.ofInt IntKind.i64.bits n &&& BitVec.ofInt IntKind.i64.bits 1).toNat=(n%2).toNat:=by
  rw[BitVec.toNat_and];have e1:(BitVec.ofInt IntKind.i64.bits n).toNat=(n%18446744073709551616).toNat:=by simp[IntKind.bits,BitVec.toNat_ofInt]
  have e2:(BitVec.ofInt IntKind.i64.bits 1).toNat=2 ^ 1-1:=rfl;rw[e1,e2,Nat.and_two_pow_sub_one_eq_mod];omega
 rw[e,qUL (by omega) (by omega)];omega
theorem xEC(a b:Int)(k:IntKind):Fn.eval X (.band k) [.int a,.int b] = .int (k.wrap (BitVec.ofInt k.bits a &&& BitVec.ofInt k.bits b).toNat):=rfl
theorem yGI(a:Int):Fn.eval X .mkbytes [.int a] = .bytes [UInt8.ofNat a.toNat]:=rfl
theorem zLJ(a:Int):Fn.eval X .zeros [.int a] = .bytes (List.replicate a.toNat 0):=rfl
theorem qEK(a b:D):Fn.eval X .copy [a,b]=a.copyD b:=rfl
theorem encN_ne{l:List UInt8}(h:0<l.length):encN l = .bytes l:=by cases l with|nil=>simp at h|cons=>rfl
theorem zCB(s:List UInt8):(zOB s).length=16:=by simp[zOB];omega
theorem zKH(k:Int):0<=yUD k/\yUD k<=8:=by
 simp only[yUD];split
 ·omega
 ·split
  ·omega
  ·split <;> omega
theorem whole_le(s:Option (List UInt8)):((whole s).getD []).length<=32767:=by
 cases s <;> simp[whole,Most];omega
theorem yKB(s:Option (List UInt8)):(whole s).getD []=(s.getD []).take Most:=by
 cases s <;> simp[whole]
theorem qOD(s:Option (List T)):(yEE s).getD []=(s.getD []).take Most:=by
 cases s <;> simp[yEE]
theorem qQH(b:Bool)(t:T):(if b then D.nil else encB (whole t.s))=encB (if b then none else whole t.s):=by cases b <;> rfl
theorem xDG(b:Bool)(t:T):(if b then none else whole t.s:Option (List UInt8)).getD []=if b then [] else t.S.take Most:=by
 cases b
 ·simp only[bfZ,if_false];exact yKB _
 ·rfl
theorem xTL(b x:Bool)(t:T)(s:Int):(encN (counted x b (if b then [] else t.S.take Most).length s.toNat)).appd (encB (if b then none else whole t.s))=encN (counted x b (if b then [] else t.S.take Most).length s.toNat++(if b then [] else t.S.take Most)):=by
 rw[xLB]
 ·rw[qOA,xDG]
 ·cases (if b then none else whole t.s:Option (List UInt8)) with
  | none=>exact .inl rfl
  | some s=>exact .inr ⟨s,.inl rfl⟩
theorem text_l(b:Bool)(t:T):(if b then [] else t.S.take Most).length<=32767:=by
 cases b <;> simp[Most];omega
theorem ev48(k:Int)(fs:Option (List Fl))(b:Bool)(v:Int)(x:Bool)(t:T)(n:Nat)(h:Pre (n+1) 48 [.int k,encF fs,.bool b,.int v,.bool x,t.d]):zCA X (Pre n) ob48 [.int k,encF fs,.bool b,.int v,.bool x,t.d]/\de48.eval X [.int k,encF fs,.bool b,.int v,.bool x,t.d]=X 48 [.int k,encF fs,.bool b,.int v,.bool x,t.d]:=by
 obtain⟨hm,hs⟩:=h;have hm:=hm rfl;rw[yWI,zLA] at hm;rw[qBI,zLA,zNA,zNA,zVA,zVA,yTA] at hs;obtain⟨hs,hl⟩:=hs;have htl:=text_l b t;have e16:∀k:Nat,[Int.toNat (k:Int)]=[k]:=fun _=>rfl
 constructor
 ·refine⟨fun c0=>⟨fun _=>⟨?_,trivial⟩,fun c7=>⟨fun c8=>⟨?_,⟨?_,?_⟩,?_,trivial⟩,fun c8=>⟨fun c9=>⟨?_,⟨?_,?_⟩,?_,trivial⟩,fun c9=>⟨fun c10=>⟨⟨fun _=>?_,?_⟩,trivial⟩,fun c10=>⟨⟨?_,?_⟩,⟨?_,?_⟩,trivial⟩,trivial⟩,trivial⟩,trivial⟩,trivial⟩,trivial⟩
  ·simp only[Ob.holds,ev_k,zNA];exact⟨by omega,by simp only[LIM];omega,by simp only[maxLen];omega⟩
  ·simp only[Ob.holds,ev_f,zAA,zBA,ev_v,ev_k,gzZ,gsZ,zPA,yBA,yAA,yWA,qFA,xVB,qPH,zXA,qQH,zOA,X_53,zVA,zNA,yVA,Int.toNat_natCast,xDG,xTL,xQA] at c0 c7 c8 ⊢;simp only[zQB,zVA,xUB,dtZ,decide_eq_false_iff_not] at c0 c7 c8;rw[yZA,if_neg c0,if_neg c7,if_pos c8] at hl;exact xBB hl
  ·exact fun e=>by simp[yRA] at e
  ·simp only[ev_f,zAA,zBA,ev_v,ev_k,gzZ,gsZ,zPA,yBA,yAA,yWA,qFA,xVB,qPH,zXA,qQH,xDG];rw[xKE];simp only[zNA];exact⟨by omega,by omega,.inl trivial⟩
  ·simp only[Ob.holds,ev_f,zAA,zBA,ev_v,ev_k,gzZ,gsZ,zPA,yBA,yAA,yWA,qFA,zNA,bfZ,if_false];omega
  ·simp only[Ob.holds,ev_f,zAA,zBA,ev_v,ev_k,gzZ,gsZ,zPA,yBA,yAA,yWA,qFA,xVB,qPH,zXA,qQH,zOA,X_53,zVA,zNA,yVA,Int.toNat_natCast,xDG,xTL,xQA] at c0 c7 c8 c9 ⊢;simp only[zQB,zVA,xUB,dtZ,decide_eq_false_iff_not] at c0 c7 c8 c9;rw[yZA,if_neg c0,if_neg c7,if_neg c8,if_pos c9] at hl;exact xBB hl
  ·exact fun e=>by simp[yRA] at e
  ·simp only[ev_f,zAA,zBA,ev_v,ev_k,gzZ,gsZ,zPA,yBA,yAA,yWA,qFA,xVB,qPH,zXA,qQH,xDG];rw[xKE];simp only[zNA];exact⟨by omega,by omega,.inr trivial⟩
  ·simp only[Ob.holds,ev_f,zAA,zBA,ev_v,ev_k,gzZ,gsZ,zPA,yBA,yAA,yWA,qFA,zNA,bfZ,if_false];omega
  ·simp only[zAA,zBA,ev_v,gzZ,gsZ];rw[yQF,zLA];omega
  ·simp only[ev_f,zAA,zBA,ev_v,ev_k,gzZ,gsZ,zQB,zVA,xUB,dtZ,decide_eq_false_iff_not] at c0 c7 c8 c9 c10 ⊢;rw[qAF,zLA,zNA,zVA,yTA];rw[yZA,if_neg c0,if_neg c7,if_neg c8,if_neg c9,if_pos c10] at hl;exact⟨hs,hl⟩
  ·exact fun e=>by simp[yRA] at e
  ·simp only[ev_f,zAA,zBA,ev_v,gzZ,gsZ,zPA,yBA,zOA,X_55,zNA];rw[zSD];simp only[zNA];exact zKH k
  ·exact fun e=>by simp[yRA] at e
  ·trivial
 ·rw[X_48,zLA,yTA];simp only[zNA,zVA];simp only[de48,ev_f,zAA,zBA,ev_v,ev_k,gzZ,gsZ,zPA,yBA,zQB,zXA,xEC,band1,zQA,yGI,zLJ,qEK,yAA,yWA,qFA,xVB,qPH,qQH,zOA,X_53,X_47,X_45,X_55,zVA,zNA,yVA,Int.toNat_natCast,xDG,xTL,zLA,yTA,xUB,dtZ];by_cases c0:k=0
  ·rw[if_pos c0,yZA,if_pos c0,qVF (by omega) (by omega)];rfl
  ·rw[if_neg c0,yZA,if_neg c0];by_cases c7:k=7
   ·rw[if_pos c7,if_pos c7,encN_ne (by rw[zCB];omega)];show D.bytes (((encB t.s).asStr).take _++List.drop (encB t.s).asStr.length _)=_;rw[qOA];show D.bytes (t.S.take (List.replicate 16 (0:UInt8)).length++List.drop t.S.length (List.replicate 16 0))=_;rw[List.length_replicate,List.drop_replicate];rfl
   ·rw[if_neg c7,if_neg c7];by_cases c8:k=8
    ·rw[if_pos c8,if_pos c8];rfl
    ·rw[if_neg c8,if_neg c8];by_cases c9:k=9
     ·rw[if_pos c9,if_pos c9];rfl
     ·rw[if_neg c9,if_neg c9];by_cases c10:k=10
      ·rw[if_pos c10,if_pos c10]
      ·rw[if_neg c10,if_neg c10]
end Go.Mx
namespace Go.Mx
open Go Go.Dx
theorem xOJ(f:Fl)(t:T):qSA f t=if f.kind=0 then decide (t.n%2=f.dflt) else if f.kind=7 then (t.S.take 16).all (· == 0) else
  if f.kind=8∨f.kind=9 then (if 0<=f.null then t.null else t.S.length==0) else if f.kind=11 then t.L.length==0 else
  if f.kind=10 then yGE f.sub t else zMA t.n (yUD f.kind).toNat==zMA f.dflt (yUD f.kind).toNat:=by
 cases f;rw[qSA];rfl
theorem zHC(fs:Option (List Fl))(t:T):yGE fs t=(yJB (fs.getD []) 0 t&&(zTA (fs.getD []) t.u).length==0):=by
 cases fs <;> simp[yGE,yJB]
theorem qNF(t:T):∀(l:List Fl) (i:Nat) (s:Bool),xKA (fun i g s=>if s then true else !qSA g (at' t i)) i l s=(s || !yJB l i t)
 | [],i,s=>by simp[xKA,yJB]
 | g::r,i,s=>by
  rw[xKA,qNF t r,yJB];cases s <;> cases qSA g (at' t i) <;> simp
theorem xGG:∀(l:List UInt8) (i:Nat) (s:Bool),xKA (fun i (b:UInt8) s=>if s then true else if i<16 then ((b.toNat:Int) != 0) else false) i l s=(s || !(l.take (16-i)).all (· == 0))
 | [],i,s=>by simp[xKA]
 | g::r,i,s=>by
  rw[xKA,xGG r];by_cases h:i<16
  ·have e:(g::r).take (16-i)=g::r.take (16-(i+1)):=by
    have e:16-i=(16-(i+1))+1:=by omega
    rw[e,List.take_succ_cons]
   rw[if_pos h,e];have e2:((g.toNat:Int) != 0) = !(g==0):=by
    by_cases hg:g=0
    ·subst hg;rfl
    ·have h1:g.toNat≠0:=fun h=>hg (UInt8.toNat_inj.1 (by rw[h];rfl))
     have h2:((g.toNat:Int) != 0)=true:=bne_iff_ne.2 (by omega);have h3:(g==0)=false:=beq_eq_false_iff_ne.2 hg;rw[h2,h3];rfl
   rw[e2,List.all_cons];cases s <;> cases (g==0) <;> cases (List.take (16-(i+1)) r).all (· == 0) <;> rfl
  ·have e:16-i=0:=by omega
   have e1:16-(i+1)=0:=by omega
   rw[if_neg h,e,e1];cases s <;> simp
theorem ev50(f:Fl)(t:T)(n:Nat)(h:Pre (n+1) 50 [f.d,t.d]):zCA X (Pre n) ob50 [f.d,t.d]/\de50.eval X [f.d,t.d]=X 50 [f.d,t.d]:=by
 obtain⟨hm,hs⟩:=h;have hm:=hm rfl;rw[yYI,qNA] at hm;rw[qBF,qNA] at hs;obtain⟨s1,s2⟩:=xEG (qQF hs);have f1:Folds X [f.d,t.d] 2 (.f (.get 1) [.v 1]) [.k (.bool false)] [.f .ite [.v 4,.k (.bool true),.f .ite [.f .ltI [.v 2,.k (.int 16)],.f .neI [.f (.get 0) [.v 3],.k (.int 0)],.k (.bool false)]]] (fun b:UInt8=>.int b.toNat) (fun s:Bool=>[.bool s]) (fun i (b:UInt8) s=>if s then true else if i<16 then ((b.toNat:Int) != 0) else false) (t.s.getD []) false:=by
  refine⟨rfl,?_,rfl,fun i x a hx _=>?_⟩
  ·simp only[ev_f,zAA,zBA,ev_v,gzZ,gsZ,zPA,yBA,xQF]
  ·simp only[zAA,zBA,ev_v,ev_k,ev_f,List.cons_append,List.nil_append,gsZ,gzZ,zXA,qKA,zPA];have e0:(D.int (x.toNat:Nat)).cells.getD 0 .nil = .int x.toNat:=rfl;rw[e0,qWC];by_cases h:i<16
   ·have:(i:Int)<16:=by omega
    cases a <;> simp[h,this]
   ·have:¬(i:Int)<16:=by omega
    cases a <;> simp[h,this]
 have f2:Folds X [f.d,t.d] 2 (.f (.get 7) [.v 0]) [.k (.bool false)] [.f .ite [.v 4,.k (.bool true),.f .not [.f (.ext 50) [.v 3,.f (.ext 40) [.v 1,.v 2]]]]] Fl.d (fun s:Bool=>[.bool s]) (fun i g s=>if s then true else !qSA g (at' t i)) (f.sub.getD []) false:=by
  refine⟨rfl,?_,rfl,fun i x a hx _=>?_⟩
  ·simp only[ev_f,zAA,zBA,ev_v,gzZ,zPA,yKA,gsZ,qYB]
  ·simp only[zAA,zBA,ev_v,ev_k,ev_f,List.cons_append,List.nil_append,gsZ,gzZ,zXA,zOA,X_50,X_40,yTA,qNA,zNA,yNC];cases a <;> rfl
 have ei:(if (f.kind==8)=true then D.bool (f.kind==8) else D.bool (f.kind==9))=D.bool (decide (f.kind=8∨f.kind=9)):=by
  rw[<- qYJ];split <;> rfl
 constructor
 ·refine⟨fun c0=>⟨fun _=>⟨f1.all fun k x hx=>⟨fun _=>trivial,trivial⟩,trivial⟩,fun c7=>⟨fun _=>⟨fun _=>⟨fun _=>⟨fun _=>⟨⟨fun e=>by simp[yRA] at e,?_⟩,trivial⟩,f2.all fun k x hx=>⟨fun _=>⟨⟨fun _=>?_,?_⟩,⟨fun e=>by simp[yRA] at e,?_⟩,trivial⟩,trivial⟩,trivial⟩,fun _=>⟨⟨fun e=>by simp[yRA] at e,trivial⟩,⟨fun e=>by simp[yRA] at e,?_⟩,⟨fun e=>by simp[yRA] at e,trivial⟩,⟨fun e=>by simp[yRA] at e,?_⟩,⟨fun e=>by simp[yRA] at e,trivial⟩,trivial⟩,trivial⟩,trivial⟩,trivial⟩,trivial⟩,trivial⟩
  ·simp only[ev_f,zAA,zBA,ev_v,gzZ,gsZ,zPA,yBA,yKA];rw[qXG,zLA];exact qQF hs
  ·have hxm:x∈f.sub.getD []:=List.mem_of_getElem? hx;simp only[ev_f,zAA,zBA,ev_v,gzZ,gsZ,List.cons_append,List.nil_append,zOA];rw[yYI,qNA]
   have:=qQD hxm
   have:=zAI f
   omega
  ·have hxm:x∈f.sub.getD []:=List.mem_of_getElem? hx;simp only[ev_f,zAA,zBA,ev_v,gzZ,gsZ,List.cons_append,List.nil_append,zOA];rw[qBF,qNA];exact s2 x hxm
  ·simp only[zAA,zBA,ev_v,gzZ,gsZ,List.cons_append,List.nil_append];rw[xZF,zNA];omega
  ·simp only[ev_f,zAA,zBA,ev_v,gzZ,gsZ,zPA,yKA,zOA,X_55,zNA];rw[zSD];simp only[zNA];exact zKH _
  ·simp only[ev_f,zAA,zBA,ev_v,gzZ,gsZ,zPA,yKA,yBA,zOA,X_55,zNA];rw[zSD];simp only[zNA];exact zKH _
 ·rw[X_50,yTA,qNA,xOJ];rw[de50,ev_f];simp only[zAA,zBA];have g0:(DE.f (.get 0) [.v 0]).eval X [f.d,t.d] = .int f.kind:=by
   simp only[ev_f,zAA,zBA,ev_v,gzZ,zPA,yKA]
  simp only[ev_f .ite,ev_f .eqI,ev_f .not,ev_f .leI,ev_f .len,zAA,zBA,g0,ev_k,zQB,zXA,f1.fold 0,f2.fold 0,gzZ,qNF,xGG,ei];simp only[ev_f,ev_v,zAA,zBA,ev_k,gzZ,gsZ,zPA,yBA,yKA,xEC,band1,zQB,qRB,yAA,yWA,xXA,zOA,X_41,X_52,X_45,X_55,xIA,yXA,zLA,decU_enc,zZD,zNA,zXA,xUB,dtZ];by_cases c0:f.kind=0
  ·rw[if_pos c0,if_pos c0]
  ·rw[if_neg c0,if_neg c0];by_cases c7:f.kind=7
   ·rw[if_pos c7,if_pos c7];show (if _ then _ else _)=D.bool ((t.s.getD []).take 16 |>.all (· == 0));simp only[Bool.false_or,Nat.sub_zero];cases ((t.s.getD []).take 16).all (· == 0) <;> rfl
   ·rw[if_neg c7,if_neg c7];by_cases c8:f.kind=8∨f.kind=9
    ·rw[if_pos c8,if_pos c8];by_cases h0:0<=f.null
     ·rw[if_pos h0,if_pos h0]
     ·rw[if_neg h0,if_neg h0]
      congr 1
      show decide (((t.S.length:Nat):Int)=0)=_;by_cases h:t.S.length=0 <;> simp[h]
    ·rw[if_neg c8,if_neg c8];by_cases c11:f.kind=11
     ·rw[if_pos c11,if_pos c11]
      congr 1
      show decide (((t.L.length:Nat):Int)=0)=_;by_cases h:t.L.length=0 <;> simp[h]
     ·rw[if_neg c11,if_neg c11];by_cases c10:f.kind=10
      ·rw[if_pos c10,if_pos c10,zHC];cases yJB (f.sub.getD []) 0 t
       ·rfl
       ·simp only[Bool.false_or,Bool.not_true,bfZ,if_false,Bool.true_and]
        congr 1
        by_cases h:(zTA (f.sub.getD []) t.u).length=0 <;> simp[h]
      ·rw[if_neg c10,if_neg c10]
end Go.Mx
namespace Go.Mx
open Go Go.Dx
theorem xFC(f:Fl)(v:Int)(x:Bool)(t:T):field f v x t=zMC f.kind f.null f.of (Mx.null f v t) x t (fun y=>yPA f.sub v x y):=by
 cases f;rw[field];rfl
theorem qAA{A B:Type}(g:Nat->A->List B):∀(l:List A) (i:Nat) (s:List B),xKA (fun i a s=>s++g i a) i l s=s++(mapI g i l).flatten
 | [],i,s=>by simp[xKA,mapI]
 | a::l,i,s=>by simp only[xKA,mapI];rw[qAA g l (i+1)];simp
theorem yFC(a b:List UInt8):(encN a).appd (encN b)=encN (a++b):=by
 rw[xLB,zZD];cases b with
 | nil=>exact .inl rfl
 | cons x b=>exact .inr ⟨_,.inl rfl⟩
theorem zOE{A B:Type}(g:Nat->A->B):∀(l:List A) (i k:Nat),mapI g i (l.take k)=(mapI g i l).take k
 | [],i,k=>by simp[mapI]
 | a::l,i,0=>by simp[mapI]
 | a::l,i,k+1=>by simp[mapI,zOE g l (i+1) k]
theorem qWE{A B:Type}(g:Nat->A->B):∀(l:List A) (i k:Nat) (a:A),l[k]? = some a->(mapI g i l)[k]? = some (g (i+k) a)
 | [],i,k,a,h=>by simp at h
 | x::l,i,0,a,h=>by simp at h;subst h;simp[mapI]
 | x::l,i,k+1,a,h=>by
  simp only[List.getElem?_cons_succ] at h;simp only[mapI,List.getElem?_cons_succ];rw[qWE g l (i+1) k a h]
  congr 2;omega
theorem xWG{B:Type}{l:List (List B)}{k:Nat}{a:List B}(h:l[k]? = some a):(l.take k).flatten.length+a.length<=l.flatten.length:=by
 have e:l=l.take k++a::l.drop (k+1):=by
  obtain⟨h1,h2⟩:=List.getElem?_eq_some_iff.1 h;rw[<- h2,<- List.drop_eq_getElem_cons h1,List.take_append_drop]
 conv=>rhs;rw[e]
 simp only[List.flatten_append,List.length_append,List.flatten_cons];omega
theorem ev49(f:Fl)(v:Int)(x:Bool)(t:T)(n:Nat)(h:Pre (n+1) 49 [f.d,.int v,.bool x,t.d]):zCA X (Pre n) ob49 [f.d,.int v,.bool x,t.d]/\de49.eval X [f.d,.int v,.bool x,t.d]=X 49 [f.d,.int v,.bool x,t.d]:=by
 obtain⟨hm,hs⟩:=h;have hm:=hm rfl;rw[yXI,qNA] at hm;rw[qCI,qNA,zNA,zVA,yTA,xFC] at hs;obtain⟨hs,hl⟩:=hs;have hw:=qQF hs;have hN:∀J,(DE.f (.ext 56) [.v 0,.v 1,.v 3]).eval X ([f.d,.int v,.bool x,t.d]++J) = .bool (Mx.null f v t):=fun J=>by
  simp only[ev_f,zAA,zBA,ev_v,List.cons_append,gzZ,gsZ,zOA,X_56,qNA,yTA,zNA]
 have hN0:=hN [];rw[List.append_nil] at hN0;generalize hb:Mx.null f v t=b at *;have hlist:∀(z:Bool),(if z then D.nil else encT (yEE t.l))=encT (if z then none else yEE t.l):=fun z=>by cases z <;> simp[encT]
 have hgetD:(if b then none else yEE t.l:Option (List T)).getD []=if b then [] else t.L.take Most:=by
  cases b
  ·simp only[bfZ,if_false];exact qOD _
  ·rfl
 have hle:(if b then [] else t.L.take Most).length<=32767:=by cases b <;> simp[Most];omega
 have hsrc:(DE.f .ite [.f (.ext 56) [.v 0,.v 1,.v 3],.k .nil,.f .take [.f (.get 3) [.v 3],.f .imin [.f .len [.f (.get 3) [.v 3]],.k (.int 32767)]]]).eval X [f.d,.int v,.bool x,t.d]=encT (if b then none else yEE t.l):=by
  rw[ev_f];simp only[zAA,zBA,hN0];simp only[ev_f,zAA,zBA,ev_v,ev_k,gzZ,gsZ,zPA,yBA,yAA,xXA,qFA,xVB,takeT,zXA,hlist]
 have hf:Folds X [f.d,.int v,.bool x,t.d] 4 (.f .ite [.f (.ext 56) [.v 0,.v 1,.v 3],.k .nil,.f .take [.f (.get 3) [.v 3],.f .imin [.f .len [.f (.get 3) [.v 3]],.k (.int 32767)]]]) [.f (.ext 53) [.v 2,.f (.ext 56) [.v 0,.v 1,.v 3],.f .len [.f .ite [.f (.ext 56) [.v 0,.v 1,.v 3],.k .nil,.f .take [.f (.get 3) [.v 3],.f .imin [.f .len [.f (.get 3) [.v 3]],.k (.int 32767)]]]],.k (.int 4)]] [.f .app [.v 6,.f (.ext 48) [.f (.get 6) [.v 0],.f (.get 7) [.v 0],.k (.bool false),.v 1,.v 2,.v 5]]] T.d (fun s:List UInt8=>[encN s]) (fun _ y s=>s++yZA f.of false x y (yPA f.sub v x y)) (if b then [] else t.L.take Most) (counted x b (if b then [] else t.L.take Most).length 4):=by
  refine⟨rfl,?_,?_,fun i y a hy _=>?_⟩
  ·rw[hsrc,zPD,hgetD]
  ·simp only[zAA,zBA];rw[ev_f];simp only[zAA,zBA,hN0];rw[ev_f .len];simp only[zAA,zBA,hsrc];simp only[ev_v,ev_k,gzZ,gsZ,yAA,xXA,hgetD,zOA,X_53,zVA,zNA,Int.toNat_natCast];rfl
  ·simp only[zAA,zBA,ev_v,ev_k,ev_f,List.cons_append,List.nil_append,gsZ,gzZ,zPA,yKA,zOA,X_48,zLA,yTA,zNA,zVA,yVA,yFC]
 have hc10:(DE.f .ite [.f .eqI [.f (.get 0) [.v 0],.k (.int 10)],.f .leI [.k (.int 0),.f (.get 3) [.v 0]],.k (.bool false)]).eval X [f.d,.int v,.bool x,t.d] = .bool (decide (f.kind=10/\0<=f.null)):=by
  simp only[ev_f,zAA,zBA,ev_v,ev_k,gzZ,gsZ,zPA,yKA,zQB,qRB,zXA,xUB,dtZ];by_cases h:f.kind=10 <;> simp[h]
 have hc11:(DE.f .eqI [.f (.get 0) [.v 0],.k (.int 11)]).eval X [f.d,.int v,.bool x,t.d] = .bool (decide (f.kind=11)):=by
  simp only[ev_f,zAA,zBA,ev_v,ev_k,gzZ,gsZ,zPA,yKA,zQB,xUB]
 constructor
 ·refine⟨fun c11=>⟨hf.all fun k y hy=>⟨?_,⟨fun _=>?_,?_⟩,trivial⟩,⟨fun e=>by simp[yRA] at e,?_⟩,?_,trivial⟩,fun c11=>⟨fun c10=>⟨fun _=>⟨⟨fun e=>by simp[yRA] at e,?_⟩,trivial⟩,fun cn=>⟨?_,⟨fun _=>?_,?_⟩,⟨fun e=>by simp[yRA] at e,?_⟩,trivial⟩,trivial⟩,fun c10=>⟨⟨fun _=>?_,?_⟩,trivial⟩,trivial⟩,⟨fun e=>by simp[yRA] at e,trivial⟩,trivial⟩
  ·rw[hc11,zVA,dtZ] at c11;rw[zMC,if_pos c11] at hl;simp only[qAA,xPA,Ob.holds,zAA,zBA,ev_v,ev_k,ev_f,List.cons_append,List.nil_append,gsZ,gzZ,zPA,yKA,zOA,X_48,zLA,yTA,zNA,zVA,yVA,yFC,xQA];refine xBB (Nat.le_trans ?_ hl);have hm:(((if b then [] else t.L.take Most).map fun y=>yZA f.of false x y (yPA f.sub v x y)))[k]? = some (yZA f.of false x y (yPA f.sub v x y)):=by rw[List.getElem?_map,hy];rfl
   have:=xWG hm
   simp only[List.length_append,List.map_take] at this ⊢;omega
  ·simp only[zAA,zBA,ev_v,ev_k,ev_f,List.cons_append,List.nil_append,gsZ,gzZ,zPA,yKA];rw[yWI,zLA];omega
  ·rw[hc11,zVA,dtZ] at c11;rw[zMC,if_pos c11] at hl;simp only[zAA,zBA,ev_v,ev_k,ev_f,List.cons_append,List.nil_append,gsZ,gzZ,zPA,yKA];rw[qBI,zLA,yTA];refine⟨hw,Nat.le_trans ?_ hl⟩;have hm:(((if b then [] else t.L.take Most).map fun y=>yZA f.of false x y (yPA f.sub v x y)))[k]? = some (yZA f.of false x y (yPA f.sub v x y)):=by rw[List.getElem?_map,hy];rfl
   have:=xWG hm
   simp only[zNA,zVA,List.length_append] at this ⊢;omega
  ·simp only[zAA,zBA,hN0];rw[ev_f .len];simp only[zAA,zBA,hsrc,ev_v,ev_k,gzZ,gsZ,yAA,xXA,hgetD];rw[xKE];simp only[zNA];exact⟨by omega,by omega,.inr trivial⟩
  ·simp only[Ob.holds,ev_f,zAA,zBA,ev_v,ev_k,gzZ,gsZ,zPA,yBA,yAA,xXA,qFA,zNA,bfZ,if_false];omega
  ·simp only[zAA,zBA,ev_k];rw[zSD];simp only[zNA];omega
  ·rw[hc11,zVA,decide_eq_false_iff_not] at c11;rw[hc10,zVA,dtZ] at c10;rw[hN0,zVA] at cn;rw[zMC,if_neg c11,if_pos c10,if_neg (by simp[cn])] at hl;simp only[Ob.holds,ev_f,zAA,zBA,ev_v,ev_k,gzZ,gsZ,zPA,yKA,zOA,X_45,X_47,zLA,yTA,zNA,zVA,yVA,yFC,xQA];exact xBB hl
  ·simp only[zAA,zBA,ev_v,ev_f,gzZ,gsZ,zPA,yKA];rw[yQF,zLA];omega
  ·rw[hc11,zVA,decide_eq_false_iff_not] at c11;rw[hc10,zVA,dtZ] at c10;rw[hN0,zVA] at cn;rw[zMC,if_neg c11,if_pos c10,if_neg (by simp[cn])] at hl;simp only[zAA,zBA,ev_v,ev_f,gzZ,gsZ,zPA,yKA];rw[qAF,zLA,yTA];simp only[zNA,zVA];refine⟨hw,Nat.le_trans ?_ hl⟩
   simp
  ·simp only[zAA,zBA,ev_k];rw[zSD];simp only[zNA];omega
  ·simp only[zAA,zBA,ev_v,ev_f,gzZ,gsZ,zPA,yKA];rw[yWI,zLA];omega
  ·rw[hc11,zVA,decide_eq_false_iff_not] at c11;rw[hc10,zVA,decide_eq_false_iff_not] at c10;rw[zMC,if_neg c11,if_neg c10] at hl;simp only[zAA,zBA,hN0];simp only[ev_v,ev_f,zAA,zBA,gzZ,gsZ,zPA,yKA];rw[qBI,zLA,yTA];simp only[zNA,zVA];exact⟨hw,hl⟩
 ·rw[X_49,yTA,qNA,zNA,zVA,xFC,hb];rw[de49,ev_f];simp only[zAA,zBA];rw[hc11,zXA,hf.fold 0,qAA,xPA];rw[ev_f];simp only[zAA,zBA];rw[hc10,zXA];simp only[dtZ];rw[zMC];by_cases c11:f.kind=11
  ·rw[if_pos c11,if_pos c11];rfl
  ·rw[if_neg c11,if_neg c11];by_cases c10:f.kind=10/\0<=f.null
   ·rw[if_pos c10,if_pos c10,ev_f];simp only[zAA,zBA];rw[hN0,zXA];simp only[ev_f,zAA,zBA,ev_v,ev_k,gzZ,gsZ,zPA,yKA,zOA,X_45,X_47,zLA,yTA,zNA,zVA,yVA,yFC];cases b <;> rfl
   ·rw[if_neg c10,if_neg c10,ev_f];simp only[zAA,zBA,hN0];simp only[ev_f,zAA,zBA,ev_v,gzZ,gsZ,zPA,yKA,zOA,X_48,zLA,yTA,zNA,zVA]
end Go.Mx
namespace Go.Mx
open Go Go.Dx
def P.c1:DE:=(.f .ite [.f .ltI [.f (.get 4) [.v 5],.k (.int 0)],.f (.ext 57) [.v 5,.v 1],.k (.bool false)])
def P.fl1:DE:=(.f (.ext 49) [.v 5,.v 1,.v 2,.f (.ext 40) [.v 3,.v 4]])
def P.bs1:List DE:=[.f .ite [P.c1,.f .app [.v 6,P.fl1],.v 6]]
def P.outE:DE:=(.fold 4 (.v 0) [.k .nil] P.bs1 0)
def P.c2:DE:=(.f .ite [.f .eqI [.f (.get 4) [.v 9],.v 4],.f .not [.f (.ext 50) [.v 9,.f (.ext 40) [.v 3,.v 8]]],.k (.bool false)])
def P.fl2:DE:=(.f (.ext 49) [.v 9,.v 1,.v 2,.f (.ext 40) [.v 3,.v 8]])
def P.a1:DE:=(.f .app [.v 10,.f (.ext 46) [.f (.wrap .u64) [.v 4]]])
def P.u2:DE:=(.f (.ext 46) [.f (.wrap .u64) [.f .len [P.fl2]]])
def P.a2:DE:=(.f .app [P.a1,P.u2])
def P.a3:DE:=(.f .app [P.a2,P.fl2])
def P.bs2:List DE:=[.f .ite [P.c2,P.a3,.v 10],.f .ite [P.c2,.f (.add .i64) [.v 11,.k (.int 1)],.v 11]]
def P.is2:List DE:=[.v 7,.v 6]
def P.bsG:List DE:=[.fold 8 (.v 0) P.is2 P.bs2 1,.fold 8 (.v 0) P.is2 P.bs2 0]
def P.srcG:DE:=(.f .iota [.f (.wrap .i64) [.f (.ext 51) [.v 0]]])
def P.isG:List DE:=[.k (.int 0),.k .nil]
def P.isU:List DE:=[.fold 4 P.srcG P.isG P.bsG 1,.fold 4 P.srcG P.isG P.bsG 0]
def P.srcU:DE:=(.f (.ext 41) [.v 0,.f (.get 4) [.v 3]])
def P.wh:DE:=(.f .take [.f (.get 1) [.v 5],.f .imin [.f .len [.f (.get 1) [.v 5]],.k (.int 32767)]])
def P.b1:DE:=(.f .app [.v 6,.f (.ext 46) [.f (.wrap .u64) [.f (.get 0) [.v 5]]]])
def P.u3:DE:=(.f (.ext 46) [.f (.wrap .u64) [.f .len [P.wh]]])
def P.b2:DE:=(.f .app [P.b1,P.u3])
def P.b3:DE:=(.f .app [P.b2,P.wh])
def P.bsU:List DE:=[P.b3,.f (.add .i64) [.v 7,.k (.int 1)]]
def P.unk0:DE:=(.fold 4 P.srcU P.isU P.bsU 0)
def P.unk1:DE:=(.fold 4 P.srcU P.isU P.bsU 1)
def P.o1:DE:=(.f .app [P.outE,.f (.ext 46) [.f (.wrap .u64) [P.unk1]]])
def P.o2:DE:=(.f .app [P.o1,P.unk0])
theorem de47_eq:de47 =  (.f .ite [.f .not [.v 2],P.outE,P.o2]):=rfl
theorem ob47_eq:ob47 =  [.when (.f .not [.v 2]) false [.room P.o2 1,.room P.o1 1,.pre 46 [.f (.wrap .u64) [P.unk1]],.all P.srcU P.isU P.bsU [.room P.b3 1,.room P.b2 1,.pre 46 [.f (.wrap .u64) [.f .len [P.wh]]],.room P.b1 1,.pre 46 [.f (.wrap .u64) [.f (.get 0) [.v 5]]],.idx (.f .imin [.f .len [.f (.get 1) [.v 5]],.k (.int 32767)]) (.f (.get 1) [.v 5]) false],.pre 41 [.v 0,.f (.get 4) [.v 3]],.all P.srcG P.isG P.bsG [.all (.v 0) P.is2 P.bs2 [.when P.c2 true [.room P.a3 1,.room P.a2 1,.pre 46 [.f (.wrap .u64) [.f .len [P.fl2]]],.room P.a1 1,.pre 46 [.f (.wrap .u64) [.v 4]],.pre 49 [.v 9,.v 1,.v 2,.f (.ext 40) [.v 3,.v 8]],.pre 40 [.v 3,.v 8]],.when (.f .eqI [.f (.get 4) [.v 9],.v 4]) true [.pre 50 [.v 9,.f (.ext 40) [.v 3,.v 8]],.pre 40 [.v 3,.v 8]]]],.pre 51 [.v 0]],.all (.v 0) [.k .nil] P.bs1 [.when P.c1 true [.room (.f .app [.v 6,P.fl1]) 1,.pre 49 [.v 5,.v 1,.v 2,.f (.ext 40) [.v 3,.v 4]],.pre 40 [.v 3,.v 4]],.when (.f .ltI [.f (.get 4) [.v 5],.k (.int 0)]) true [.pre 57 [.v 5,.v 1]]]]:=rfl
def rowP(v:Int)(x:Bool)(t:T)(i:Nat)(f:Fl):Fl×T×List UInt8:=(f,at' t i,field f v x (at' t i))
theorem yVJ(v:Int)(x:Bool)(t:T):∀(l:List Fl) (i:Nat),rowsL l i v x t=mapI (rowP v x t) i l
 | [],_=>rfl
 | f::r,i=>by rw[rowsL,mapI,yVJ v x t r (i+1)];rfl
def qMB(g:Nat)(r:Fl×T×List UInt8):List (List UInt8):=if r.1.tag=(g:Int)/\qSA r.1 r.2.1=false then [tagB g r.2.2] else []
def qUD(v:Int)(r:Fl×T×List UInt8):List UInt8:=if r.1.tag<0/\has r.1 v=true then r.2.2 else []
theorem yZD{A B:Type}(p:A->Prop)[DecidablePred p](g:A->B):∀l:List A,l.filterMap (fun r=>if p r then some (g r) else none)=(l.map fun r=>if p r then [g r] else []).flatten
 | []=>rfl
 | a::l=>by
  have:=yZD p g l
  by_cases h:p a <;> simp[h,this]
theorem tagsB_eq(rows:List (Fl×T×List UInt8))(n:Nat):yDK rows n=((List.range n).map fun g=>(rows.map (qMB g)).flatten).flatten:=by
 rw[yDK,List.flatMap]
 congr 1
 apply List.map_congr_left;intro g _;exact yZD (fun r=>r.1.tag=(g:Int)/\qSA r.1 r.2.1=false) (fun r=>tagB g r.2.2) rows
theorem qDB{A B C:Type}(h:B->C)(g:Nat->A->B):∀(l:List A) (i:Nat),(mapI g i l).map h=mapI (fun i a=>h (g i a)) i l
 | [],_=>rfl
 | a::l,i=>by simp[mapI,qDB h g l (i+1)]
theorem zQC(fs:Option (List Fl))(v:Int)(x:Bool)(t:T):yPA fs v x t=qMG v x (fs.getD []) t.u (mapI (rowP v x t) 0 (fs.getD [])):=by
 cases fs with
 | none=>rw[yPA];rfl
 | some l=>rw[yPA,yVJ];rfl
def qMD(fs:List Fl)(v:Int)(x:Bool)(t:T):List (List UInt8):=((List.range (qBA fs)).map fun g=>(mapI (fun i f=>qMB g (rowP v x t i f)) 0 fs).flatten).flatten
def unkB(x:Tg):List UInt8:=tagB (IntKind.u64.wrap x.key).toNat ((x.val.getD []).take Most)
def yCK(fs:List Fl)(u:Option (List Tg)):List (List UInt8):=(zTA fs u).map unkB
def outP(fs:List Fl)(v:Int)(x:Bool)(t:T):List UInt8:=(mapI (fun i f=>qUD v (rowP v x t i f)) 0 fs).flatten
def yTD(fs:List Fl)(v:Int)(x:Bool)(t:T):List (List UInt8):=qMD fs v x t++yCK fs t.u
theorem xNC(fs:Option (List Fl))(v:Int)(t:T):yPA fs v false t=outP (fs.getD []) v false t:=by
 rw[zQC,qMG,qDB];rfl
theorem xAB(fs:Option (List Fl))(v:Int)(t:T):yPA fs v true t=outP (fs.getD []) v true t++zEA (yTD (fs.getD []) v true t).length++(yTD (fs.getD []) v true t).flatten:=by
 rw[zQC,qMG,qDB,if_pos rfl,tagsB_eq,yTD,qMD,yCK];simp only[qDB];rfl
theorem zQJ{B:Type}{l:List (List B)}{k:Nat}{a:List B}(h:l[k]? = some a):∃r,l.flatten=(l.take k).flatten++(a++r):=by
 have e:l=l.take k++a::l.drop (k+1):=by
  obtain⟨h1,h2⟩:=List.getElem?_eq_some_iff.1 h;rw[<- h2,<- List.drop_eq_getElem_cons h1,List.take_append_drop]
 refine⟨(l.drop (k+1)).flatten,?_⟩
 conv=>lhs;rw[e]
 simp
theorem yRF{B:Type}:∀ {l:List (List B)} {a:List B},a∈l->a.length<=l.flatten.length
 | b::l,a,h=>by
  simp only[List.flatten_cons,List.length_append];rcases List.mem_cons.1 h with rfl|h
  ·omega
  ·have:=yRF h;omega
theorem outP_le(fs:Option (List Fl))(v:Int)(x:Bool)(t:T):(outP (fs.getD []) v x t).length<=(yPA fs v x t).length:=by
 cases x
 ·rw[xNC];exact Nat.le_refl _
 ·rw[xAB];simp only[List.length_append];omega
theorem yVC(n:Nat):0<(zEA n).length:=by
 rw[zEA];split <;> simp
theorem yPF{A B:Type}{g:Nat->A->B}{l:List A}{k:Nat}{a:A}(h:l[k]? = some a):(mapI g 0 l)[k]? = some (g k a):=by
 have:=qWE g l 0 k a h;rwa [Nat.zero_add] at this
theorem xNG{A B:Type}(g:Nat->A->List B)(h:∀i a,(g i a).length<=1):∀(l:List A) (i:Nat),(mapI g i l).flatten.length<=l.length
 | [],_=>by simp[mapI]
 | a::l,i=>by
  have:=xNG g h l (i+1)
  have:=h i a
  simp only[mapI,List.flatten_cons,List.length_append,List.length_cons];omega
theorem qYI(g:Nat)(r:Fl×T×List UInt8):(qMB g r).length<=1:=by
 unfold qMB;split <;> simp
theorem yQJ{B:Type}(g:Nat->List B)(m:Nat)(h:∀i,(g i).length<=m):∀n,((List.range n).map g).flatten.length<=n*m
 | 0=>by simp
 | n+1=>by
  have:=yQJ g m h n
  have:=h n
  rw[List.range_succ,List.map_append,List.flatten_append,List.length_append,Nat.add_mul];simp only[List.map_cons,List.map_nil,List.flatten_cons,List.flatten_nil,List.append_nil];omega
end Go.Mx
namespace Go.Mx
open Go Go.Dx
section
variable {fs:Option (List Fl)} {v:Int} {x:Bool} {t:T}
def envP(fs:Option (List Fl))(v:Int)(x:Bool)(t:T):List D:=[encF fs,.int v,.bool x,t.d]
theorem wrapu{n:Nat}(h:n<=lim):IntKind.u64.wrap (n:Nat)=n:=zLH (by omega) (by simp only[lim] at h;omega)
theorem qQI{n:Int}(h:0<=n)(h2:n<=10000000):IntKind.i64.wrap n=n:=by rw[IntKind.wrap_i64];omega
theorem xLK(i:Nat)(f:Fl)(r:List D):P.c1.eval X (envP fs v x t++(.int i::f.d::r)) = .bool (decide (f.tag<0/\has f v=true)):=by
 simp only[P.c1,envP,ev_f,zAA,zBA,ev_v,ev_k,List.cons_append,List.nil_append,gzZ,gsZ,zPA,yKA,qKA,zOA,X_57,qNA,zNA,zXA];by_cases h1:f.tag<0 <;> cases h2:has f v <;> simp[h1]
theorem zNJ(i:Nat)(f:Fl)(r:List D):P.fl1.eval X (envP fs v x t++(.int i::f.d::r))=encN (field f v x (at' t i)):=by
 simp only[P.fl1,envP,ev_f,zAA,zBA,ev_v,List.cons_append,List.nil_append,gzZ,gsZ,zOA,X_49,X_40,qNA,yTA,zNA,zVA]
theorem xTD:Folds X (envP fs v x t) 4 (.v 0) [.k .nil] P.bs1 Fl.d (fun s:List UInt8=>[encN s]) (fun i f s=>s++qUD v (rowP v x t i f)) (fs.getD []) []:=by
 refine⟨rfl,?_,rfl,fun i f s hf _=>?_⟩
 ·simp only[envP,ev_v,gzZ,qYB]
 ·simp only[P.bs1,zAA,zBA];rw[ev_f];simp only[zAA,zBA];rw[xLK,zXA,ev_f];simp only[zAA,zBA];rw[zNJ];have e:(DE.v 6).eval X (envP fs v x t++D.int (i:Nat)::f.d::[encN s])=encN s:=rfl;rw[e,yVA,yFC,qUD];by_cases h:f.tag<0/\has f v=true
  ·rw[if_pos (decide_eq_true h),if_pos (by exact h)];rfl
  ·rw[if_neg (by simp[h]),if_neg (by exact h),List.append_nil]
def envG(fs:Option (List Fl))(v:Int)(x:Bool)(t:T)(j g:Nat)(S:List (List UInt8)):List D:=envP fs v x t++[.int g,.int g,.int S.length,encN S.flatten]
theorem xMK(j g:Nat)(S:List (List UInt8))(i:Nat)(f:Fl)(r:List D):P.c2.eval X (envG fs v x t j g S++(.int i::f.d::r)) = .bool (decide (f.tag=(g:Int)/\qSA f (at' t i)=false)):=by
 simp only[P.c2,envG,envP,ev_f,zAA,zBA,ev_v,ev_k,List.cons_append,List.nil_append,gzZ,gsZ,zPA,yKA,zQB,yNC,zOA,X_50,X_40,qNA,yTA,zNA,zXA,xUB];by_cases h1:f.tag=(g:Int) <;> cases h2:qSA f (at' t i) <;> simp[h1]
theorem zOJ(j g:Nat)(S:List (List UInt8))(i:Nat)(f:Fl)(r:List D):P.fl2.eval X (envG fs v x t j g S++(.int i::f.d::r))=encN (field f v x (at' t i)):=by
 simp only[P.fl2,envG,envP,ev_f,zAA,zBA,ev_v,List.cons_append,List.nil_append,gzZ,gsZ,zOA,X_49,X_40,qNA,yTA,zNA,zVA]
theorem yUK(j g:Nat)(hg:g<=2000)(S:List (List UInt8))(i:Nat)(f:Fl)(s:List UInt8)(r:List D):P.a1.eval X (envG fs v x t j g S++(.int i::f.d::encN s::r))=encN (s++zEA g):=by
 simp only[P.a1,envG,envP,ev_f,zAA,zBA,ev_v,List.cons_append,List.nil_append,gzZ,gsZ,zOA,X_46,zQA,zNA];rw[wrapu (n:=g) (by simp only[lim];omega),yVA,yFC,Int.toNat_natCast]
theorem u2_eval(j g:Nat)(S:List (List UInt8))(i:Nat)(f:Fl)(r:List D)(hl:(field f v x (at' t i)).length<=lim):P.u2.eval X (envG fs v x t j g S++(.int i::f.d::r))=encN (zEA (field f v x (at' t i)).length):=by
 rw[P.u2,ev_f];simp only[zAA,zBA];rw[ev_f];simp only[zAA,zBA];rw[ev_f];simp only[zAA,zBA];rw[zOJ,yAA,xQA,zQA,wrapu hl,zOA,X_46,zNA,Int.toNat_natCast]
theorem yVK(j g:Nat)(hg:g<=2000)(S:List (List UInt8))(i:Nat)(f:Fl)(s:List UInt8)(r:List D)(hl:(field f v x (at' t i)).length<=lim):P.a2.eval X (envG fs v x t j g S++(.int i::f.d::encN s::r))=encN (s++zEA g++zEA (field f v x (at' t i)).length):=by
 rw[P.a2,ev_f];simp only[zAA,zBA];rw[yUK j g hg,u2_eval _ _ _ _ _ _ hl,yVA,yFC]
theorem yWK(j g:Nat)(hg:g<=2000)(S:List (List UInt8))(i:Nat)(f:Fl)(s:List UInt8)(r:List D)(hl:(field f v x (at' t i)).length<=lim):P.a3.eval X (envG fs v x t j g S++(.int i::f.d::encN s::r))=encN (s++tagB g (field f v x (at' t i))):=by
 rw[P.a3,ev_f];simp only[zAA,zBA];rw[yVK j g hg _ _ _ _ _ hl,zOJ,yVA,yFC,tagB];simp only[List.append_assoc]
def Hf(fs:Option (List Fl))(v:Int)(x:Bool)(t:T):Prop:=∀(i:Nat) (f:Fl),(fs.getD [])[i]? = some f->0<=f.tag->qSA f (at' t i)=false->(field f v x (at' t i)).length<=lim
theorem qMK(hl:(fs.getD []).length<=1000)(j g:Nat)(hg:g<=2000)(S0:List (List UInt8))(h0:S0.length<=2000000)(H:Hf fs v x t):Folds X (envG fs v x t j g S0) 8 (.v 0) P.is2 P.bs2 Fl.d (fun S:List (List UInt8)=>[encN S.flatten,.int S.length]) (fun i f S=>S++qMB g (rowP v x t i f)) (fs.getD []) S0:=by
 refine⟨rfl,?_,rfl,fun i f S hf hS=>?_⟩
 ·simp only[envG,envP,List.cons_append,ev_v,gzZ,qYB]
 ·have hi:=(List.getElem?_eq_some_iff.1 hf).1;have hSl:S.length<=2001000:=by
   rw[hS,qAA,zOE,List.length_append]
   have:=xNG (fun i f=>qMB g (rowP v x t i f)) (fun i f=>qYI g _) (fs.getD []) 0
   have h2:(List.take i (mapI (fun i f=>qMB g (rowP v x t i f)) 0 (fs.getD []))).flatten.length<=(mapI (fun i f=>qMB g (rowP v x t i f)) 0 (fs.getD [])).flatten.length:=by
    conv=>rhs;rw[<- List.take_append_drop i (mapI (fun i f=>qMB g (rowP v x t i f)) 0 (fs.getD []))]
    rw[List.flatten_append,List.length_append];omega
   omega
  simp only[P.bs2,zAA,zBA];rw[ev_f .ite,ev_f .ite];simp only[zAA,zBA];rw[xMK,zXA,zXA];have e10:(DE.v 10).eval X (envG fs v x t j g S0++D.int (i:Nat)::f.d::[encN S.flatten,.int S.length])=encN S.flatten:=rfl;have e11:(DE.v 11).eval X (envG fs v x t j g S0++D.int (i:Nat)::f.d::[encN S.flatten,.int S.length]) = .int S.length:=rfl;rw[ev_f (.add .i64)];simp only[zAA,zBA];rw[e10,e11,ev_k,yYD,qQI (by omega) (by omega)];by_cases h:f.tag=(g:Int)/\qSA f (at' t i)=false
  ·have ec:qMB g (rowP v x t i f)=[tagB g (field f v x (at' t i))]:=by rw[qMB,if_pos (by exact h)];rfl
   rw[if_pos (decide_eq_true h),if_pos (decide_eq_true h),yWK j g hg _ _ _ _ _ (H i f hf (by omega) h.2),ec]
   simp
  ·have ec:qMB g (rowP v x t i f)=[]:=by rw[qMB,if_neg (by exact h)]
   rw[if_neg (by simp only[h,decide_false];exact Bool.false_ne_true),if_neg (by simp only[h,decide_false];exact Bool.false_ne_true),ec,List.append_nil]
def rowG(fs:Option (List Fl))(v:Int)(x:Bool)(t:T)(g:Nat):List (List UInt8):=(mapI (fun i f=>qMB g (rowP v x t i f)) 0 (fs.getD [])).flatten
theorem yCE:qMD (fs.getD []) v x t=((List.range (qBA (fs.getD []))).map (rowG fs v x t)).flatten:=rfl
theorem rowG_le(hl:(fs.getD []).length<=1000)(g:Nat):(rowG fs v x t g).length<=1000 :=
 Nat.le_trans (xNG _ (fun _ _=>qYI g _) _ 0) hl
theorem qZE(hl:(fs.getD []).length<=1000)(n:Nat)(hn:n<=1001):((List.range n).map (rowG fs v x t)).flatten.length<=1001000:=by
 have:=yQJ (rowG fs v x t) 1000 (rowG_le hl) n
 omega
theorem xKH{n i g:Nat}(h:(List.range n)[i]? = some g):g=i/\i<n:=by
 obtain⟨h1,h2⟩:=List.getElem?_eq_some_iff.1 h;simp at h1 h2;omega
theorem xHE{n i:Nat}(h:i<=n):(List.range n).take i=List.range i:=by
 rw[List.take_range];congr 1;omega
theorem foldG(hw:wfFs fs=true)(H:Hf fs v x t):Folds X (envP fs v x t) 4 P.srcG P.isG P.bsG (fun g:Nat=>.int g) (fun S:List (List UInt8)=>[.int S.length,encN S.flatten]) (fun _ g S=>S++rowG fs v x t g) (List.range (qBA (fs.getD []))) []:=by
 have hl:=(xEG hw).1;have hk:=xLC hw;refine⟨rfl,?_,rfl,fun i g S hg hS=>?_⟩
 ·simp only[P.srcG,envP,ev_f,zAA,zBA,ev_v,gzZ,zOA,X_51,zLA,zQA];rw[qQI (by omega) (by omega)];rfl
 ·obtain⟨rfl,hi⟩:=xKH hg;have hSl:S.length<=1001000:=by
   rw[hS,qAA,xPA,List.nil_append,xHE (by omega)];exact qZE hl _ (by omega)
  have hf:=qMK (fs:=fs) (v:=v) (x:=x) (t:=t) hl g g (by omega) S (by omega) H;show zDA X P.bsG (envG fs v x t g g S)=_;simp only[P.bsG,zAA,zBA];rw[hf.fold 0,hf.fold 1,qAA];rfl
theorem yBK:xKA (fun _ g S=>S++rowG fs v x t g) 0 (List.range (qBA (fs.getD []))) []=qMD (fs.getD []) v x t:=by
 rw[qAA,xPA,List.nil_append,yCE]
theorem qSL(i:Nat)(y:Tg)(r:List D):P.wh.eval X (envP fs v x t++(.int i::y.d::r))=encB (whole y.val):=by
 simp only[P.wh,envP,ev_f,zAA,zBA,ev_v,ev_k,List.cons_append,List.nil_append,gzZ,gsZ,zPA,zUB,yAA,yWA,qFA,xVB,qPH]
theorem xCK(i:Nat)(y:Tg)(s:List UInt8)(r:List D):P.b1.eval X (envP fs v x t++(.int i::y.d::encN s::r))=encN (s++zEA (IntKind.u64.wrap y.key).toNat):=by
 simp only[P.b1,envP,ev_f,zAA,zBA,ev_v,ev_k,List.cons_append,List.nil_append,gzZ,gsZ,zPA,zUB,zQA,zOA,X_46,zNA,yVA,yFC]
theorem u3_eval(i:Nat)(y:Tg)(r:List D):P.u3.eval X (envP fs v x t++(.int i::y.d::r))=encN (zEA ((y.val.getD []).take Most).length):=by
 rw[P.u3,ev_f];simp only[zAA,zBA];rw[ev_f];simp only[zAA,zBA];rw[ev_f];simp only[zAA,zBA]
 have:=whole_le y.val
 rw[qSL,yAA,yWA,zQA,wrapu (by simp only[lim];omega),zOA,X_46,zNA,Int.toNat_natCast,yKB]
theorem xDK(i:Nat)(y:Tg)(s:List UInt8)(r:List D):P.b2.eval X (envP fs v x t++(.int i::y.d::encN s::r))=encN (s++zEA (IntKind.u64.wrap y.key).toNat++zEA ((y.val.getD []).take Most).length):=by
 rw[P.b2,ev_f];simp only[zAA,zBA];rw[xCK,u3_eval,yVA,yFC]
theorem xEK(i:Nat)(y:Tg)(s:List UInt8)(r:List D):P.b3.eval X (envP fs v x t++(.int i::y.d::encN s::r))=encN (s++unkB y):=by
 rw[P.b3,ev_f];simp only[zAA,zBA];rw[xDK,qSL,yVA,xLB]
 ·rw[qOA,yKB,unkB,tagB];simp only[List.append_assoc]
 ·cases whole y.val with
  | none=>exact .inl rfl
  | some s=>exact .inr ⟨s,.inl rfl⟩
theorem foldU(hw:wfFs fs=true)(H:Hf fs v x t):Folds X (envP fs v x t) 4 P.srcU P.isU P.bsU Tg.d (fun S:List (List UInt8)=>[encN S.flatten,.int S.length]) (fun _ y S=>S++[unkB y]) (zTA (fs.getD []) t.u) (qMD (fs.getD []) v x t):=by
 have hl:=(xEG hw).1;have hk:=xLC hw;have hul:=zGC (fs.getD []) t.u;have hG:=foldG hw H;refine⟨rfl,?_,?_,fun i y S hy hS=>?_⟩
 ·simp only[P.srcU,envP,ev_f,zAA,zBA,ev_v,gzZ,gsZ,zPA,yBA,zOA,X_41,zLA,decU_enc,qZB,yXA]
 ·simp only[P.isU,zAA,zBA];rw[hG.fold 0,hG.fold 1,yBK];rfl
 ·have hi:=(List.getElem?_eq_some_iff.1 hy).1;have hSl:S.length<=2000000:=by
   rw[hS,xNB (fun _ y=>unkB y),xPA,List.length_append,yCE]
   have:=qZE (v:=v) (x:=x) (t:=t) hl (qBA (fs.getD [])) hk
   simp only[List.length_map,List.length_take];omega
  simp only[P.bsU,zAA,zBA];rw[xEK,ev_f];simp only[zAA,zBA];have e7:(DE.v 7).eval X (envP fs v x t++D.int (i:Nat)::y.d::[encN S.flatten,.int S.length]) = .int S.length:=rfl;rw[e7,ev_k,yYD,qQI (by omega) (by omega)]
  simp
theorem xBG:xKA (fun _ y S=>S++[unkB y]) 0 (zTA (fs.getD []) t.u) (qMD (fs.getD []) v x t)=yTD (fs.getD []) v x t:=by
 rw[xNB (fun _ y=>unkB y),xPA];rfl
theorem qDL(hw:wfFs fs=true)(H:Hf fs v x t):P.unk1.eval X (envP fs v x t) = .int (yTD (fs.getD []) v x t).length:=by
 rw[P.unk1,(foldU hw H).fold 1,xBG];rfl
theorem qCL(hw:wfFs fs=true)(H:Hf fs v x t):P.unk0.eval X (envP fs v x t)=encN (yTD (fs.getD []) v x t).flatten:=by
 rw[P.unk0,(foldU hw H).fold 0,xBG];rfl
theorem yKJ:P.outE.eval X (envP fs v x t)=encN (outP (fs.getD []) v x t):=by
 rw[P.outE,xTD.fold 0,qAA];rfl
theorem xPL(hw:wfFs fs=true):(yTD (fs.getD []) v x t).length<=2000000:=by
 have:=qZE (v:=v) (x:=x) (t:=t) (xEG hw).1 (qBA (fs.getD [])) (xLC hw)
 have hul:=zGC (fs.getD []) t.u;rw[yTD,List.length_append,yCE,yCK,List.length_map];omega
theorem zML(hw:wfFs fs=true)(H:Hf fs v x t):P.o1.eval X (envP fs v x t)=encN (outP (fs.getD []) v x t++zEA (yTD (fs.getD []) v x t).length):=by
 rw[P.o1,ev_f];simp only[zAA,zBA];rw[yKJ,ev_f];simp only[zAA,zBA];rw[ev_f];simp only[zAA,zBA]
 have:=xPL (v:=v) (x:=x) (t:=t) hw
 rw[qDL hw H,zQA,wrapu (by simp only[lim];omega),zOA,X_46,zNA,Int.toNat_natCast,yVA,yFC]
theorem zNL(hw:wfFs fs=true)(H:Hf fs v x t):P.o2.eval X (envP fs v x t)=encN (outP (fs.getD []) v x t++zEA (yTD (fs.getD []) v x t).length++(yTD (fs.getD []) v x t).flatten):=by
 rw[P.o2,ev_f];simp only[zAA,zBA];rw[zML hw H,qCL hw H,yVA,yFC]
end
end Go.Mx
namespace Go.Mx
open Go Go.Dx
theorem zYJ:∀(l:List Fl) (a:Nat),a<=l.foldl (fun n f=>if 0<=f.tag then max n (f.tag.toNat+1) else n) a
 | [],a=>Nat.le_refl _
 | f::r,a=>by
  refine Nat.le_trans ?_ (zYJ r _);show a<=if 0<=f.tag then max a (f.tag.toNat+1) else a
  split <;> omega
theorem yQH:∀(l:List Fl) (a:Nat) (f:Fl),f∈l->0<=f.tag->f.tag.toNat<l.foldl (fun n f=>if 0<=f.tag then max n (f.tag.toNat+1) else n) a
 | g::r,a,f,h,h0=>by
  rcases List.mem_cons.1 h with rfl|h
  ·refine Nat.lt_of_lt_of_le ?_ (zYJ r _);show f.tag.toNat<if 0<=f.tag then max a (f.tag.toNat+1) else a
   rw[if_pos h0];omega
  ·exact yQH r _ f h h0
section
variable {fs:Option (List Fl)} {v:Int} {x:Bool} {t:T}
theorem tag_mem{i:Nat}{f:Fl}(hf:(fs.getD [])[i]? = some f)(h0:0<=f.tag)(hu:qSA f (at' t i)=false):tagB f.tag.toNat (field f v x (at' t i))∈qMD (fs.getD []) v x t:=by
 rw[yCE,List.mem_flatten];refine⟨rowG fs v x t f.tag.toNat,List.mem_map.2 ⟨f.tag.toNat,List.mem_range.2 (yQH _ 0 f (List.mem_of_getElem? hf) h0),rfl⟩,?_⟩;rw[rowG,List.mem_flatten];refine⟨_,List.mem_of_getElem? (yPF (g:=fun i f'=>qMB f.tag.toNat (rowP v x t i f')) hf),?_⟩;show _∈qMB f.tag.toNat (rowP v x t i f);rw[qMB,if_pos ⟨by show f.tag=_;omega,hu⟩];exact List.mem_singleton.2 rfl
theorem xQL(h:(yPA fs v true t).length<=lim):(yTD (fs.getD []) v true t).flatten.length<=lim:=by
 rw[xAB] at h;simp only[List.length_append] at h;omega
theorem xEJ(h:(yPA fs v true t).length<=lim):(qMD (fs.getD []) v true t).flatten.length<=lim:=by
 have:=xQL h
 rw[yTD,List.flatten_append,List.length_append] at this;omega
theorem hf_of(h:(yPA fs v true t).length<=lim):Hf fs v true t:=fun i f hf h0 hu=>by
 have h1:=yRF (tag_mem (v:=v) (x:=true) hf h0 hu);have h2:=xEJ h;rw[tagB] at h1;simp only[List.length_append] at h1;omega
theorem zYA{n k:Nat}{ds:List D}(h:yRA k=false)(hs:side k ds):Pre n k ds:=⟨fun e=>by rw[h] at e;exact absurd e Bool.false_ne_true,hs⟩
theorem qNL{f:Fl}(h:f∈fs.getD []):wFs f.sub+2<=wFs fs:=by
 have:=qQD h
 have:=zAI f
 omega
theorem ev47(n:Nat)(h:Pre (n+1) 47 [encF fs,.int v,.bool x,t.d]):zCA X (Pre n) ob47 [encF fs,.int v,.bool x,t.d]/\de47.eval X [encF fs,.int v,.bool x,t.d]=X 47 [encF fs,.int v,.bool x,t.d]:=by
 obtain⟨hm,hs⟩:=h;have hm:=hm rfl;rw[yQF,zLA] at hm;rw[qAF,zLA,zNA,zVA,yTA] at hs;obtain⟨hw,hl⟩:=hs;obtain⟨hw1,hw2⟩:=xEG hw;have hnot:(DE.f .not [.v 2]).eval X (envP fs v x t) = .bool (!x):=by
  simp only[envP,ev_f,zAA,zBA,ev_v,gzZ,gsZ,yNC]
 have h40:∀(i:Nat) (d:D),side 40 [d,.int (i:Nat)]:=fun i d=>by rw[xZF,zNA];omega
 constructor
 ·rw[ob47_eq];show zCA X (Pre n) _ (envP fs v x t);refine⟨fun hx=>?_,xTD.all (fun k f hf=>?_),trivial⟩
  ·rw[hnot,zVA] at hx;have hx:x=true:=by cases x <;> simp_all
   subst hx;have H:=hf_of hl;have hl1:=xEJ hl;have hlP:=xQL hl;refine⟨?_,?_,zYA rfl trivial,(foldU hw H).all (fun k y hy=>?_),zYA rfl ?_,(foldG hw H).all (fun k g hg=>?_),zYA rfl ?_,trivial⟩
   ·simp only[Ob.holds];rw[zNL hw H,xQA,<- xAB];exact xBB hl
   ·simp only[Ob.holds];rw[zML hw H,xQA];rw[xAB] at hl;refine xBB (Nat.le_trans ?_ hl);simp only[List.length_append];omega
   ·have hsz:((xKA (fun _ y S=>S++[unkB y]) 0 ((zTA (fs.getD []) t.u).take k) (qMD (fs.getD []) v true t)).flatten++unkB y).length<=lim:=by
     rw[xNB (fun _ y=>unkB y),xPA];rw[yTD,yCK] at hlP;have hm:((zTA (fs.getD []) t.u).map unkB)[k]? = some (unkB y):=by rw[List.getElem?_map,hy];rfl
     have:=xWG hm
     simp only[List.flatten_append,List.length_append,List.map_take] at this hlP ⊢;omega
    generalize xKA (fun _ y S=>S++[unkB y]) 0 ((zTA (fs.getD []) t.u).take k) (qMD (fs.getD []) v true t)=S at hsz;have hsz2:=hsz;rw[unkB,tagB] at hsz2;simp only[List.length_append] at hsz2;refine⟨?_,?_,zYA rfl trivial,?_,zYA rfl trivial,?_,trivial⟩
    ·simp only[Ob.holds];rw[xEK,xQA];exact xBB hsz
    ·simp only[Ob.holds];rw[xDK,xQA];exact xBB (by simp only[List.length_append];omega)
    ·simp only[Ob.holds];rw[xCK,xQA];exact xBB (by simp only[List.length_append];omega)
    ·simp only[Ob.holds,envP,ev_f,zAA,zBA,ev_v,ev_k,List.cons_append,List.nil_append,gzZ,gsZ,zPA,zUB,yAA,yWA,qFA,zNA,bfZ,if_false];omega
   ·simp only[envP,ev_f,zAA,zBA,ev_v,gzZ,gsZ,zPA,yBA];rw[qXG,zLA];exact hw
   ·have hgk:=xKH hg;obtain⟨rfl,hgl⟩:=hgk;have hkn:=xLC hw;have eS:xKA (fun _ g S=>S++rowG fs v true t g) 0 ((List.range (qBA (fs.getD []))).take g) []=((List.range g).map (rowG fs v true t)).flatten:=by
     rw[qAA,xPA,List.nil_append,xHE (by omega)]
    rw[eS];generalize hS:((List.range g).map (rowG fs v true t)).flatten=S;have hS1:S.length<=1001000:=by rw[<- hS];exact qZE hw1 _ (by omega)
    have hpre:∃r,qMD (fs.getD []) v true t=S++(rowG fs v true t g++r):=by
     have hm:((List.range (qBA (fs.getD []))).map (rowG fs v true t))[g]? = some (rowG fs v true t g):=by rw[List.getElem?_map,hg];rfl
     obtain⟨r,hr⟩:=zQJ hm;refine⟨r,?_⟩;rw[yCE,hr,<- hS,<- List.map_take,xHE (by omega)]
    obtain⟨r1,hr1⟩:=hpre;have hf2:=qMK (fs:=fs) (v:=v) (x:=true) (t:=t) hw1 g g (by omega) S (by omega) H;show zCA X (Pre n) _ (envG fs v true t g g S);refine⟨hf2.all (fun i f hf=>?_),trivial⟩;have hfm:f∈fs.getD []:=List.mem_of_getElem? hf;have hws:=qNL hfm;have hwm:=qQD hfm;rw[qAA,zOE];have hpre2:∃r,rowG fs v true t g=((mapI (fun i f=>qMB g (rowP v true t i f)) 0 (fs.getD [])).take i).flatten++(qMB g (rowP v true t i f)++r):=zQJ (yPF (g:=fun i f=>qMB g (rowP v true t i f)) hf);obtain⟨r2,hr2⟩:=hpre2;generalize ((mapI (fun i f=>qMB g (rowP v true t i f)) 0 (fs.getD [])).take i).flatten=S2 at hr2;have heq:(DE.f .eqI [.f (.get 4) [.v 9],.v 4]).eval X (envG fs v true t g g S++(D.int (i:Nat)::f.d::[encN (S++S2).flatten,D.int ((S++S2).length:Nat)])) = .bool (decide (f.tag=(g:Int))):=by
     simp only[envG,envP,ev_f,zAA,zBA,ev_v,List.cons_append,List.nil_append,gzZ,gsZ,zPA,yKA,zQB,xUB]
    refine⟨fun hc=>?_,fun hc=>⟨⟨fun _=>?_,?_⟩,zYA rfl (h40 _ _),trivial⟩,trivial⟩
    ·rw[xMK,zVA,dtZ] at hc;have hfl:=H i f hf (by omega) hc.2;have ec:qMB g (rowP v true t i f)=[tagB g (field f v true (at' t i))]:=by rw[qMB,if_pos (by exact hc)];rfl
     rw[hr1,hr2,ec,tagB] at hl1;simp only[List.flatten_append,List.length_append,List.flatten_cons,List.flatten_nil,List.append_nil] at hl1;refine⟨?_,?_,zYA rfl trivial,?_,zYA rfl trivial,⟨fun _=>?_,?_⟩,zYA rfl (h40 _ _),trivial⟩
     ·simp only[Ob.holds];rw[yWK _ _ (by omega) _ _ _ _ _ hfl,xQA,tagB];exact xBB (by simp only[List.flatten_append,List.length_append];omega)
     ·simp only[Ob.holds];rw[yVK _ _ (by omega) _ _ _ _ _ hfl,xQA];exact xBB (by simp only[List.flatten_append,List.length_append];omega)
     ·simp only[Ob.holds];rw[yUK _ _ (by omega),xQA];exact xBB (by simp only[List.flatten_append,List.length_append];omega)
     ·simp only[envG,envP,zAA,zBA,ev_v,List.cons_append,List.nil_append,gzZ,gsZ];rw[yXI,qNA];omega
     ·simp only[envG,envP,zAA,zBA,ev_v,ev_f,List.cons_append,List.nil_append,gzZ,gsZ,zOA,X_40,yTA,zNA];rw[qCI,qNA,yTA];exact⟨hw2 f hfm,hfl⟩
    ·simp only[envG,envP,zAA,zBA,ev_v,List.cons_append,List.nil_append,gzZ,gsZ];rw[yYI,qNA];omega
    ·simp only[envG,envP,zAA,zBA,ev_v,List.cons_append,List.nil_append,gzZ,gsZ];rw[qBF,qNA];exact hw2 f hfm
   ·simp only[envP,zAA,zBA,ev_v,gzZ];rw[qDI,zLA];exact hw
  ·have hfm:f∈fs.getD []:=List.mem_of_getElem? hf;have hws:=qNL hfm;rw[qAA,zOE,List.nil_append];have hlo:=Nat.le_trans (outP_le fs v x t) hl;have hm:(mapI (fun i f=>qUD v (rowP v x t i f)) 0 (fs.getD []))[k]? = some (qUD v (rowP v x t k f)):=yPF (g:=fun i f=>qUD v (rowP v x t i f)) hf;have hle:=xWG hm;rw[outP] at hlo;generalize ((mapI (fun i f=>qUD v (rowP v x t i f)) 0 (fs.getD [])).take k).flatten=s at hle;refine⟨fun hc=>?_,fun _=>⟨zYA rfl trivial,trivial⟩,trivial⟩;rw[xLK,zVA,dtZ] at hc;have ec:qUD v (rowP v x t k f)=field f v x (at' t k):=by rw[qUD,if_pos (by exact hc)];rfl
   rw[ec] at hle;refine⟨?_,⟨fun _=>?_,?_⟩,zYA rfl (h40 _ _),trivial⟩
   ·simp only[Ob.holds];rw[ev_f];simp only[zAA,zBA];rw[zNJ];have e:(DE.v 6).eval X (envP fs v x t++D.int (k:Nat)::f.d::[encN s])=encN s:=rfl;rw[e,yVA,yFC,xQA];exact xBB (by simp only[List.length_append];omega)
   ·simp only[envP,zAA,zBA,ev_v,List.cons_append,List.nil_append,gzZ,gsZ];rw[yXI,qNA];omega
   ·simp only[envP,zAA,zBA,ev_v,ev_f,List.cons_append,List.nil_append,gzZ,gsZ,zOA,X_40,yTA,zNA];rw[qCI,qNA,yTA];exact⟨hw2 f hfm,by simp only[zNA,zVA];omega⟩
 ·rw[X_47,zLA,zNA,zVA,yTA,de47_eq];show _=encN (yPA fs v x t);rw[ev_f];simp only[zAA,zBA];show Fn.eval X .ite [DE.eval X _ (envP fs v x t),DE.eval X _ (envP fs v x t),DE.eval X _ (envP fs v x t)]=_;rw[hnot,zXA,yKJ];cases x
  ·rw[xNC];rfl
  ·rw[zNL hw (hf_of hl),xAB];rfl
end
theorem ev59(fs:Option (List Fl))(fx v:Int)(t:T)(n:Nat)(h:side 59 [.row [encF fs,.int fx],.int v,t.d])(hn:3*wFs fs<n):zCA X (Pre n) ob59 [.row [encF fs,.int fx],.int v,t.d]/\de59.eval X [.row [encF fs,.int fx],.int v,t.d]=X 59 [.row [encF fs,.int fx],.int v,t.d]:=by
 rw[xBL,zLA,zNA,zNA,yTA] at h;obtain⟨hw,hl⟩:=h;have c0:(D.row [encF fs,.int fx]).cells=[encF fs,.int fx]:=rfl;constructor
 ·refine⟨fun hc=>⟨⟨fun _=>?_,?_⟩,trivial⟩,fun hc=>⟨⟨fun _=>?_,?_⟩,trivial⟩,trivial⟩ <;>
  simp only[zAA,zBA,ev_v,ev_f,ev_k,gzZ,gsZ,zPA,c0,qRB,zVA,dtZ,decide_eq_false_iff_not] at hc ⊢
  ·rw[yQF,zLA];exact hn
  ·rw[qAF,zLA,zNA,zVA,yTA];rw[zRA,decide_eq_true hc,Bool.true_and] at hl;exact⟨hw,hl⟩
  ·rw[yQF,zLA];exact hn
  ·rw[qAF,zLA,zNA,zVA,yTA];rw[zRA,decide_eq_false hc,Bool.false_and] at hl;exact⟨hw,hl⟩
 ·rw[X_59,zLA,zNA,zNA,yTA];simp only[de59,zAA,zBA,ev_v,ev_f,ev_k,gzZ,gsZ,zPA,c0,qRB,zXA,zOA,X_47,zLA,yTA,zNA,zVA,dtZ,zRA];by_cases h0:0<=fx
  ·rw[if_pos h0,decide_eq_true h0,Bool.true_and]
  ·rw[if_neg h0,decide_eq_false h0,Bool.false_and]
theorem yCA(n:Int)(k:Nat):(zMA n k).length=k:=by simp[zMA]
end Go.Mx
namespace Go.Mx
open Go Go.Dx
theorem qTL(n:Int):IntKind.i16.wrap n=(n+32768)%65536-32768:=by
 simp[IntKind.wrap,IntKind.bits,IntKind.signed];split <;> omega
theorem Fixed2(n:Int):zMA n 2=[xZA n 1,xZA n 0]:=rfl
theorem Fixed4(n:Int):zMA n 4=[xZA n 3,xZA n 2,xZA n 1,xZA n 0]:=rfl
theorem Fixed8(n:Int):zMA n 8=[xZA n 7,xZA n 6,xZA n 5,xZA n 4,xZA n 3,xZA n 2,xZA n 1,xZA n 0]:=rfl
theorem qNE(n:Int):xZA n 0=UInt8.ofNat (IntKind.u8.wrap n).toNat:=by
 simp only[xZA,Nat.mul_zero,Int.pow_zero,Int.fdiv_one]
theorem zRD(n:Int)(i:Nat)(b:Int)(k:IntKind)(hb:(min b.toNat k.bits)=8*i):UInt8.ofNat (IntKind.u8.wrap (shrI n b k)).toNat=xZA n i:=by
 rw[shrI,xZA,hb]
theorem qWI(n:Int)(i:Nat):xZA n i=UInt8.ofNat (n / 2 ^ (8*i)%256).toNat:=by
 rw[xZA,IntKind.wrap_u8,Int.fdiv_eq_ediv_of_nonneg _ (by exact Int.le_of_lt (Int.pow_pos (by decide)))]
theorem qYC(n m:Int)(s:Nat)(h:∀i,i<s->n / 2 ^ (8*i)%256=m / 2 ^ (8*i)%256):zMA n s=zMA m s:=by
 rw[zMA,zMA];apply List.map_congr_left;intro i hi;rw[List.mem_reverse,List.mem_range] at hi;rw[qWI,qWI,h i hi]
theorem qIK(n:Int):zMA (IntKind.u16.wrap n) 2=zMA n 2:=qYC _ _ _ fun i hi=>by
 rw[IntKind.wrap_u16]
 match i,hi with
 | 0,_=>simp only[Nat.mul_zero,Int.pow_zero,Int.ediv_one];omega
 | 1,_=>simp only[Nat.mul_one,(by decide:(2:Int) ^ 8=256)];omega
theorem qHK(n:Int):zMA (IntKind.i16.wrap n) 2=zMA n 2:=qYC _ _ _ fun i hi=>by
 rw[qTL]
 match i,hi with
 | 0,_=>simp only[Nat.mul_zero,Int.pow_zero,Int.ediv_one];omega
 | 1,_=>simp only[Nat.mul_one,(by decide:(2:Int) ^ 8=256)];omega
theorem qJK(n:Int):zMA (IntKind.u32.wrap n) 4=zMA n 4:=qYC _ _ _ fun i hi=>by
 rw[IntKind.wrap_u32]
 match i,hi with
 | 0,_=>simp only[Nat.mul_zero,Int.pow_zero,Int.ediv_one];omega
 | 1,_=>simp only[Nat.mul_one,(by decide:(2:Int) ^ 8=256)];omega
 | 2,_=>simp only[(by decide:(2:Int) ^ (8*2)=65536)];omega
 | 3,_=>simp only[(by decide:(2:Int) ^ (8*3)=16777216)];omega
theorem zYF(n:Int):zMA (IntKind.i32.wrap n) 4=zMA n 4:=qYC _ _ _ fun i hi=>by
 rw[IntKind.wrap_i32]
 match i,hi with
 | 0,_=>simp only[Nat.mul_zero,Int.pow_zero,Int.ediv_one];omega
 | 1,_=>simp only[Nat.mul_one,(by decide:(2:Int) ^ 8=256)];omega
 | 2,_=>simp only[(by decide:(2:Int) ^ (8*2)=65536)];omega
 | 3,_=>simp only[(by decide:(2:Int) ^ (8*3)=16777216)];omega
theorem qKK(n:Int):zMA (IntKind.u64.wrap n) 8=zMA n 8:=qYC _ _ _ fun i hi=>by
 rw[IntKind.wrap_u64]
 match i,hi with
 | 0,_=>simp only[Nat.mul_zero,Int.pow_zero,Int.ediv_one];omega
 | 1,_=>simp only[Nat.mul_one,(by decide:(2:Int) ^ 8=256)];omega
 | 2,_=>simp only[(by decide:(2:Int) ^ (8*2)=65536)];omega
 | 3,_=>simp only[(by decide:(2:Int) ^ (8*3)=16777216)];omega
 | 4,_=>simp only[(by decide:(2:Int) ^ (8*4)=4294967296)];omega
 | 5,_=>simp only[(by decide:(2:Int) ^ (8*5)=1099511627776)];omega
 | 6,_=>simp only[(by decide:(2:Int) ^ (8*6)=281474976710656)];omega
 | 7,_=>simp only[(by decide:(2:Int) ^ (8*7)=72057594037927936)];omega
theorem yVD(o:Option (List UInt8))(x:UInt8)(s:List UInt8):(encB o).appd (.bytes (x::s))=app (encB o) (x::s):=by cases o <;> simp[encB,app,D.appd,D.asStr]
theorem app_s(o:D)(s r:List UInt8):(app o s).appd (.str r)=app o (s++r):=by simp[app,D.appd]
theorem app_b(o:D)(s:List UInt8)(r:Option (List UInt8)):(app o s).appd (encB r)=app o (s++r.getD []):=by cases r <;> simp[app,D.appd,encB]
theorem qCA(o:D)(s:List UInt8):(app o s).len=o.asStr.length+s.length:=by simp[app,D.len]
theorem room_app{o:D}{s:List UInt8}(h:(app o s).len<=lim):(app o s).len*1<=LIM/\(app o s).len<=maxLen:=xBB h
theorem qPA(l:List D):Fn.eval X .mkbytes l = .bytes (l.map fun d=>UInt8.ofNat d.asInt.toNat):=by cases l with|nil=>rfl|cons a l=>cases l with|nil=>rfl|cons b l=>cases l with|nil=>rfl|cons c l=>rfl
theorem ev2(o:Option (List UInt8))(b:Bool)(n:Nat)(h:side 2 [encB o,.bool b]):zCA X (Pre n) ob2 [encB o,.bool b]/\de2.eval X [encB o,.bool b]=X 2 [encB o,.bool b]:=by
 have h:(X 2 [encB o,.bool b]).len<=lim:=h;rw[X_2,qCA] at h;have hl:∀c:UInt8,(app (encB o) [c]).len<=lim:=fun c=>by
  rw[qCA];simpa[zVA] using(by cases b <;> simpa using h)
 constructor
 ·refine⟨fun _=>⟨?_,trivial⟩,fun _=>⟨?_,trivial⟩,trivial⟩ <;>
  ·simp only[Ob.holds,ev_f,zAA,zBA,ev_v,ev_k,gzZ,qPA,List.map_cons,List.map_nil,zNA,yVA,yVD];exact room_app (hl _)
 ·simp only[de2,X_2,ev_f,zAA,zBA,ev_v,ev_k,gzZ,gsZ,qPA,List.map_cons,List.map_nil,zNA,zVA,yVA,yVD,zXA];cases b <;> rfl
theorem ev5(o:Option (List UInt8))(x:Int)(n:Nat)(h:side 5 [encB o,.int x]):zCA X (Pre n) ob5 [encB o,.int x]/\de5.eval X [encB o,.int x]=X 5 [encB o,.int x]:=by
 have e:de5.eval X [encB o,.int x]=X 5 [encB o,.int x]:=by
  simp only[de5,X_5,ev_f,zAA,zBA,ev_v,ev_k,gzZ,gsZ,qZD,zQA,qPA,List.map_cons,List.map_nil,zNA,yVA,yVD,Fixed2,qNE];rw[zRD x 1 8 .u16 (by decide)]
 refine⟨⟨?_,trivial⟩,e⟩;show (de5.eval X [encB o,.int x]).len*1<=_/\(de5.eval X [encB o,.int x]).len<=_;rw[e];exact xBB h
theorem ev30(o:Option (List UInt8))(x:Int)(n:Nat)(h:side 30 [encB o,.int x]):zCA X (Pre n) ob30 [encB o,.int x]/\de30.eval X [encB o,.int x]=X 30 [encB o,.int x]:=by
 have e:de30.eval X [encB o,.int x]=X 30 [encB o,.int x]:=by
  simp only[de30,X_30,ev_f,zAA,zBA,ev_v,ev_k,gzZ,gsZ,qZD,zQA,qPA,List.map_cons,List.map_nil,zNA,yVA,yVD,Fixed4,qNE];rw[zRD x 1 8 .u32 (by decide),zRD x 2 16 .u32 (by decide),zRD x 3 24 .u32 (by decide)]
 refine⟨⟨?_,trivial⟩,e⟩;show (de30.eval X [encB o,.int x]).len*1<=_/\(de30.eval X [encB o,.int x]).len<=_;rw[e];exact xBB h
theorem ev29(o:Option (List UInt8))(x:Int)(n:Nat)(h:side 29 [encB o,.int x]):zCA X (Pre n) ob29 [encB o,.int x]/\de29.eval X [encB o,.int x]=X 29 [encB o,.int x]:=by
 have e:de29.eval X [encB o,.int x]=X 29 [encB o,.int x]:=by
  simp only[de29,X_29,ev_f,zAA,zBA,ev_v,ev_k,gzZ,gsZ,qZD,zQA,qPA,List.map_cons,List.map_nil,zNA,yVA,yVD,Fixed8,qNE];rw[zRD x 1 8 .u64 (by decide),zRD x 2 16 .u64 (by decide),zRD x 3 24 .u64 (by decide),zRD x 4 32 .u64 (by decide),zRD x 5 40 .u64 (by decide),zRD x 6 48 .u64 (by decide),zRD x 7 56 .u64 (by decide)]
 refine⟨⟨?_,trivial⟩,e⟩;show (de29.eval X [encB o,.int x]).len*1<=_/\(de29.eval X [encB o,.int x]).len<=_;rw[e];exact xBB h
theorem ev4(o:Option (List UInt8))(x:Int)(n:Nat)(h:side 4 [encB o,.int x]):zCA X (Pre n) ob4 [encB o,.int x]/\de4.eval X [encB o,.int x]=X 4 [encB o,.int x]:=by
 have e:de4.eval X [encB o,.int x]=X 4 [encB o,.int x]:=by
  simp only[de4,X_4,X_5,ev_f,zAA,zBA,ev_v,gzZ,gsZ,zQA,zOA,zNA,qIK]
 refine⟨⟨zYA rfl ?_,trivial⟩,e⟩;show (de4.eval X [encB o,.int x]).len<=lim;rw[e];exact h
theorem ev6(o:Option (List UInt8))(x:Int)(n:Nat)(h:side 6 [encB o,.int x]):zCA X (Pre n) ob6 [encB o,.int x]/\de6.eval X [encB o,.int x]=X 6 [encB o,.int x]:=by
 have e:de6.eval X [encB o,.int x]=X 6 [encB o,.int x]:=by
  simp only[de6,X_6,X_30,ev_f,zAA,zBA,ev_v,gzZ,gsZ,zQA,zOA,zNA,qJK]
 refine⟨⟨zYA rfl ?_,trivial⟩,e⟩;show (de6.eval X [encB o,.int x]).len<=lim;rw[e];exact h
theorem ev7(o:Option (List UInt8))(x:Int)(n:Nat)(h:side 7 [encB o,.int x]):zCA X (Pre n) ob7 [encB o,.int x]/\de7.eval X [encB o,.int x]=X 7 [encB o,.int x]:=by
 have e:de7.eval X [encB o,.int x]=X 7 [encB o,.int x]:=by
  simp only[de7,X_7,X_29,ev_f,zAA,zBA,ev_v,gzZ,gsZ,zQA,zOA,zNA,qKK]
 refine⟨⟨zYA rfl ?_,trivial⟩,e⟩;show (de7.eval X [encB o,.int x]).len<=lim;rw[e];exact h
theorem zKF(s:List UInt8):(D.str s).asStr=s:=rfl
theorem yMF(s:List UInt8):(D.str s).len=s.length:=rfl
theorem ev11(o:Option (List UInt8))(s:List UInt8)(n:Nat)(h:side 11 [encB o,.str s]):zCA X (Pre n) ob11 [encB o,.str s]/\de11.eval X [encB o,.str s]=X 11 [encB o,.str s]:=by
 have e:de11.eval X [encB o,.str s]=X 11 [encB o,.str s]:=by
  simp only[de11,X_11,X_4,ev_f,zAA,zBA,ev_v,gzZ,gsZ,yAA,zQA,zOA,zNA,qHK,yVA,app_s,zKF,yMF]
 have h:(X 11 [encB o,.str s]).len<=lim:=h;refine⟨⟨?_,zYA rfl ?_,trivial⟩,e⟩
 ·show (de11.eval X [encB o,.str s]).len*1<=_/\(de11.eval X [encB o,.str s]).len<=_;rw[e];exact xBB h
 ·simp only[ev_f,zAA,zBA,ev_v,gzZ,gsZ,yAA,zQA];show (X 4 _).len<=lim;rw[X_11,qCA,List.length_append,yCA] at h;rw[X_4,qCA,yCA];omega
theorem ev15(o s:Option (List UInt8))(n:Nat)(h:side 15 [encB o,encB s]):zCA X (Pre n) ob15 [encB o,encB s]/\de15.eval X [encB o,encB s]=X 15 [encB o,encB s]:=by
 have e:de15.eval X [encB o,encB s]=X 15 [encB o,encB s]:=by
  simp only[de15,X_15,X_6,ev_f,zAA,zBA,ev_v,gzZ,gsZ,yAA,zQA,zOA,zNA,zYF,yVA,app_b,qOA,yWA]
 have h:(X 15 [encB o,encB s]).len<=lim:=h;refine⟨⟨?_,zYA rfl ?_,trivial⟩,e⟩
 ·show (de15.eval X [encB o,encB s]).len*1<=_/\(de15.eval X [encB o,encB s]).len<=_;rw[e];exact xBB h
 ·simp only[ev_f,zAA,zBA,ev_v,gzZ,gsZ,yAA,zQA];show (X 6 _).len<=lim;rw[X_15,qCA,List.length_append,yCA] at h;rw[X_6,qCA,yCA];omega
theorem yXE(s:Option (List UInt8)):(encB s).isNil=s.isNone:=by cases s <;> rfl
theorem ev17(o s:Option (List UInt8))(n:Nat)(h:side 17 [encB o,encB s]):zCA X (Pre n) ob17 [encB o,encB s]/\de17.eval X [encB o,encB s]=X 17 [encB o,encB s]:=by
 have h:(X 17 [encB o,encB s]).len<=lim:=h;rw[X_17,yXE] at h;constructor
 ·refine⟨fun hc=>⟨zYA rfl ?_,trivial⟩,fun hc=>⟨zYA rfl ?_,trivial⟩,trivial⟩ <;>
  simp only[ev_f,zAA,zBA,ev_v,ev_k,gzZ,gsZ,qQE,yXE,zVA] at hc ⊢
  ·rw[hc] at h;exact h
  ·rw[hc] at h;exact h
 ·simp only[de17,X_17,X_15,X_6,ev_f,zAA,zBA,ev_v,ev_k,gzZ,gsZ,qQE,yXE,zOA,zNA,zXA];cases s <;> rfl
end Go.Mx
namespace Go.Mx
open Go Go.Dx
theorem qRD{x:Int}(h1:0<=x)(h2:x<4294967296):IntKind.u32.wrap x=x:=by
 rw[IntKind.wrap_u32];omega
theorem qEJ(n:Nat)(h:n<4294967296):IntKind.u32.wrap ((BitVec.ofInt IntKind.u32.bits (n:Int) &&& BitVec.ofInt IntKind.u32.bits 127).toNat:Nat)=((n%128:Nat):Int):=by
 have e:(BitVec.ofInt IntKind.u32.bits (n:Int) &&& BitVec.ofInt IntKind.u32.bits 127).toNat=n%128:=by
  rw[BitVec.toNat_and];have e1:(BitVec.ofInt IntKind.u32.bits (n:Int)).toNat=n:=by simp[IntKind.bits,BitVec.toNat_ofInt];omega
  have e2:(BitVec.ofInt IntKind.u32.bits 127).toNat=2 ^ 7-1:=rfl;rw[e1,e2,Nat.and_two_pow_sub_one_eq_mod]
 rw[e,qRD (by omega) (by omega)]
theorem xJK(n:Nat)(h:n<128):IntKind.u32.wrap ((BitVec.ofInt IntKind.u32.bits (n:Int) ||| BitVec.ofInt IntKind.u32.bits 128).toNat:Nat)=((n+128:Nat):Int):=by
 have:∀n:Fin 128,IntKind.u32.wrap ((BitVec.ofInt IntKind.u32.bits (n.1:Int) ||| BitVec.ofInt IntKind.u32.bits 128).toNat:Nat)=((n.1+128:Nat):Int):=by decide
 exact this ⟨n,h⟩
theorem zJJ(a b:Int)(k:IntKind):Fn.eval X (.bor k) [.int a,.int b] = .int (k.wrap (BitVec.ofInt k.bits a ||| BitVec.ofInt k.bits b).toNat):=rfl
theorem zBG(n:Nat)(h:n<4294967296):UInt8.ofNat (IntKind.u8.wrap (IntKind.u32.wrap ((BitVec.ofInt IntKind.u32.bits (IntKind.u32.wrap ((BitVec.ofInt IntKind.u32.bits (n:Int) &&& BitVec.ofInt IntKind.u32.bits 127).toNat:Nat)) ||| BitVec.ofInt IntKind.u32.bits 128).toNat:Nat))).toNat=UInt8.ofNat (n%128+128):=by
 rw[qEJ n h,xJK _ (by omega),qVF (by omega) (by omega),Int.toNat_natCast]
theorem qWK(n:Nat)(h:n<=127):UInt8.ofNat (IntKind.u8.wrap (n:Int)).toNat=UInt8.ofNat n:=by
 rw[qVF (by omega) (by omega),Int.toNat_natCast]
theorem zXK(n:Nat)(b:Int)(q:Nat)(hb:(2:Int) ^ (min b.toNat IntKind.u32.bits)=(q:Nat))(hq:0<q):shrI (n:Int) b .u32=((n / q:Nat):Int):=by
 rw[shrI,hb,Int.fdiv_eq_ediv_of_nonneg _ (by omega)];rfl
theorem qKL(n:Nat):(zEA n).length=uvN n+1:=by
 rw[uv_eq];simp[uvP]
theorem uvP0(n:Nat):uvP n 0=[]:=rfl
theorem ev10(o:Option (List UInt8))(x:Int)(n:Nat)(h0:0<=x)(h1:x<4294967296)(h:side 10 [encB o,.int x]):zCA X (Pre n) ob10 [encB o,.int x]/\de10.eval X [encB o,.int x]=X 10 [encB o,.int x]:=by
 obtain⟨m,rfl⟩:=Int.eq_ofNat_of_zero_le h0;have hm:m<4294967296:=by omega
 have h:(X 10 [encB o,.int (m:Nat)]).len<=lim:=h;have hb:uvN m<=4:=qYH 5 m (Nat.lt_of_lt_of_le hm (by decide));have hst:=zGH m;have hd:∀q,m / q<4294967296:=fun q=>Nat.lt_of_le_of_lt (Nat.div_le_self _ _) hm
 have e31:(DE.f (.ext 31) [.v 1]).eval X [encB o,.int (m:Nat)] = .int ((uvN m+1:Nat):Int):=by
  simp only[ev_f,zAA,zBA,ev_v,gzZ,gsZ,zOA,X_31,zNA,Int.toNat_natCast,qKL]
 have s7:shrI (m:Int) 7 .u32=((m / 128:Nat):Int):=zXK m 7 128 (by decide) (by decide);have s14:shrI (m:Int) 14 .u32=((m / 16384:Nat):Int):=zXK m 14 16384 (by decide) (by decide);have s21:shrI (m:Int) 21 .u32=((m / 2097152:Nat):Int):=zXK m 21 2097152 (by decide) (by decide);have s28:shrI (m:Int) 28 .u32=((m / 268435456:Nat):Int):=zXK m 28 268435456 (by decide) (by decide);have p1:∀k,uvP m (k+1)=uvP m k++[UInt8.ofNat (m / 128 ^ k%128+128)]:=xQJ m;have q0:m / 128 ^ 0=m:=by simp
 have q1:m / 128 ^ 1=m / 128:=rfl;have q2:m / 128 ^ 2=m / 16384:=rfl;have q3:m / 128 ^ 3=m / 2097152:=rfl;have q4:m / 128 ^ 4=m / 268435456:=rfl;have c5:∀k:Nat,(DE.f .eqI [.f (.ext 31) [.v 1],.k (.int (k:Nat))]).eval X [encB o,.int (m:Nat)] = .bool (decide (uvN m+1=k)):=fun k=>by
  rw[ev_f];simp only[zAA,zBA,e31,ev_k,zQB,xUB,Int.ofNat_inj]
 have c5':(DE.f .eqI [.f (.ext 31) [.v 1],.k (.int 5)]).eval X [encB o,.int (m:Nat)] = .bool (decide (uvN m+1=5)):=c5 5;have c4':(DE.f .eqI [.f (.ext 31) [.v 1],.k (.int 4)]).eval X [encB o,.int (m:Nat)] = .bool (decide (uvN m+1=4)):=c5 4;have c3':(DE.f .eqI [.f (.ext 31) [.v 1],.k (.int 3)]).eval X [encB o,.int (m:Nat)] = .bool (decide (uvN m+1=3)):=c5 3;have c2':(DE.f .eqI [.f (.ext 31) [.v 1],.k (.int 2)]).eval X [encB o,.int (m:Nat)] = .bool (decide (uvN m+1=2)):=c5 2;have c1':(DE.f .eqI [.f (.ext 31) [.v 1],.k (.int 1)]).eval X [encB o,.int (m:Nat)] = .bool (decide (uvN m+1=1)):=c5 1;have main:∀k,uvN m=k->X 10 [encB o,.int (m:Nat)]=app (encB o) (uvP m k++[UInt8.ofNat (m / 128 ^ k)]):=fun k hk=>by
  rw[X_10,zNA,Int.toNat_natCast,uv_eq,hk]
 have t5:uvN m=4->(DE.f .app [.v 0,.f .mkbytes [.f (.wrap .u8) [.f (.bor .u32) [.f (.band .u32) [.v 1,.k (.int 127)],.k (.int 128)]],.f (.wrap .u8) [.f (.bor .u32) [.f (.band .u32) [.f (.shr .u32) [.v 1,.k (.int 7)],.k (.int 127)],.k (.int 128)]],.f (.wrap .u8) [.f (.bor .u32) [.f (.band .u32) [.f (.shr .u32) [.v 1,.k (.int 14)],.k (.int 127)],.k (.int 128)]],.f (.wrap .u8) [.f (.bor .u32) [.f (.band .u32) [.f (.shr .u32) [.v 1,.k (.int 21)],.k (.int 127)],.k (.int 128)]],.f (.wrap .u8) [.f (.shr .u32) [.v 1,.k (.int 28)]]]]).eval X [encB o,.int (m:Nat)]=X 10 [encB o,.int (m:Nat)]:=fun hk=>by
  rw[main 4 hk];rw[hk] at hst;simp only[ev_f,zAA,zBA,ev_v,ev_k,gzZ,gsZ,qZD,xEC,zJJ,zQA,qPA,List.map_cons,List.map_nil,zNA,yVA,s7,s14,s21,s28];rw[yVD,zBG m hm,zBG _ (hd _),zBG _ (hd _),zBG _ (hd _),qWK _ (by rw[q4] at hst;omega),p1,p1,p1,p1,uvP0,q0,q1,q2,q3,q4];rfl
 have t4:uvN m=3->(DE.f .app [.v 0,.f .mkbytes [.f (.wrap .u8) [.f (.bor .u32) [.f (.band .u32) [.v 1,.k (.int 127)],.k (.int 128)]],.f (.wrap .u8) [.f (.bor .u32) [.f (.band .u32) [.f (.shr .u32) [.v 1,.k (.int 7)],.k (.int 127)],.k (.int 128)]],.f (.wrap .u8) [.f (.bor .u32) [.f (.band .u32) [.f (.shr .u32) [.v 1,.k (.int 14)],.k (.int 127)],.k (.int 128)]],.f (.wrap .u8) [.f (.shr .u32) [.v 1,.k (.int 21)]]]]).eval X [encB o,.int (m:Nat)]=X 10 [encB o,.int (m:Nat)]:=fun hk=>by
  rw[main 3 hk];rw[hk] at hst;simp only[ev_f,zAA,zBA,ev_v,ev_k,gzZ,gsZ,qZD,xEC,zJJ,zQA,qPA,List.map_cons,List.map_nil,zNA,yVA,s7,s14,s21,s28];rw[yVD,zBG m hm,zBG _ (hd _),zBG _ (hd _),qWK _ (by rw[q3] at hst;omega),p1,p1,p1,uvP0,q0,q1,q2,q3];rfl
 have t3:uvN m=2->(DE.f .app [.v 0,.f .mkbytes [.f (.wrap .u8) [.f (.bor .u32) [.f (.band .u32) [.v 1,.k (.int 127)],.k (.int 128)]],.f (.wrap .u8) [.f (.bor .u32) [.f (.band .u32) [.f (.shr .u32) [.v 1,.k (.int 7)],.k (.int 127)],.k (.int 128)]],.f (.wrap .u8) [.f (.shr .u32) [.v 1,.k (.int 14)]]]]).eval X [encB o,.int (m:Nat)]=X 10 [encB o,.int (m:Nat)]:=fun hk=>by
  rw[main 2 hk];rw[hk] at hst;simp only[ev_f,zAA,zBA,ev_v,ev_k,gzZ,gsZ,qZD,xEC,zJJ,zQA,qPA,List.map_cons,List.map_nil,zNA,yVA,s7,s14,s21,s28];rw[yVD,zBG m hm,zBG _ (hd _),qWK _ (by rw[q2] at hst;omega),p1,p1,uvP0,q0,q1,q2];rfl
 have t2:uvN m=1->(DE.f .app [.v 0,.f .mkbytes [.f (.wrap .u8) [.f (.bor .u32) [.f (.band .u32) [.v 1,.k (.int 127)],.k (.int 128)]],.f (.wrap .u8) [.f (.shr .u32) [.v 1,.k (.int 7)]]]]).eval X [encB o,.int (m:Nat)]=X 10 [encB o,.int (m:Nat)]:=fun hk=>by
  rw[main 1 hk];rw[hk] at hst;simp only[ev_f,zAA,zBA,ev_v,ev_k,gzZ,gsZ,qZD,xEC,zJJ,zQA,qPA,List.map_cons,List.map_nil,zNA,yVA,s7,s14,s21,s28];rw[yVD,zBG m hm,qWK _ (by rw[q1] at hst;omega),p1,uvP0,q0,q1];rfl
 have t1:uvN m=0->(DE.f .app [.v 0,.f .mkbytes [.f (.wrap .u8) [.v 1]]]).eval X [encB o,.int (m:Nat)]=X 10 [encB o,.int (m:Nat)]:=fun hk=>by
  rw[main 0 hk];rw[hk,q0] at hst;simp only[ev_f,zAA,zBA,ev_v,ev_k,gzZ,gsZ,zQA,qPA,List.map_cons,List.map_nil,zNA,yVA];rw[yVD,qWK _ (by omega),uvP0,q0];rfl
 constructor
 ·refine⟨fun c=>⟨?_,trivial⟩,fun _=>⟨fun c=>⟨?_,trivial⟩,fun _=>⟨fun c=>⟨?_,trivial⟩,fun _=>⟨fun c=>⟨?_,trivial⟩,fun _=>⟨fun c=>⟨?_,trivial⟩,trivial⟩,trivial⟩,trivial⟩,trivial⟩,zYA rfl trivial,trivial⟩
  ·rw[c5',zVA,dtZ] at c;simp only[Ob.holds];rw[t5 (by omega)];exact xBB h
  ·rw[c4',zVA,dtZ] at c;simp only[Ob.holds];rw[t4 (by omega)];exact xBB h
  ·rw[c3',zVA,dtZ] at c;simp only[Ob.holds];rw[t3 (by omega)];exact xBB h
  ·rw[c2',zVA,dtZ] at c;simp only[Ob.holds];rw[t2 (by omega)];exact xBB h
  ·rw[c1',zVA,dtZ] at c;simp only[Ob.holds];rw[t1 (by omega)];exact xBB h
 ·have step:∀(c a b:DE) (p:Bool),c.eval X [encB o,.int (m:Nat)] = .bool p->(DE.f .ite [c,a,b]).eval X [encB o,.int (m:Nat)]=if p then a.eval X [encB o,.int (m:Nat)] else b.eval X [encB o,.int (m:Nat)]:=fun c a b p hp=>by
   rw[ev_f];simp only[zAA,zBA,hp,zXA]
  rw[de10,step _ _ _ _ c5'];by_cases d5:uvN m+1=5
  ·rw[if_pos (decide_eq_true d5)];exact t5 (by omega)
  ·rw[if_neg (by simp only[d5,decide_false];exact Bool.false_ne_true),step _ _ _ _ c4'];by_cases d4:uvN m+1=4
   ·rw[if_pos (decide_eq_true d4)];exact t4 (by omega)
   ·rw[if_neg (by simp only[d4,decide_false];exact Bool.false_ne_true),step _ _ _ _ c3'];by_cases d3:uvN m+1=3
    ·rw[if_pos (decide_eq_true d3)];exact t3 (by omega)
    ·rw[if_neg (by simp only[d3,decide_false];exact Bool.false_ne_true),step _ _ _ _ c2'];by_cases d2:uvN m+1=2
     ·rw[if_pos (decide_eq_true d2)];exact t2 (by omega)
     ·rw[if_neg (by simp only[d2,decide_false];exact Bool.false_ne_true),step _ _ _ _ c1'];rw[if_pos (decide_eq_true (by omega))];exact t1 (by omega)
theorem ev12(o:Option (List UInt8))(s:List UInt8)(n:Nat)(h:side 12 [encB o,.str s]):zCA X (Pre n) ob12 [encB o,.str s]/\de12.eval X [encB o,.str s]=X 12 [encB o,.str s]:=by
 rw[xAL,yMF] at h;obtain⟨h1,h2⟩:=h;have ew:IntKind.u32.wrap (1+IntKind.u32.wrap (s.length:Nat))=((s.length+1:Nat):Int):=by
  rw[qRD (x:=(s.length:Nat)) (by omega) (by omega),qRD (by omega) (by omega)];omega
 have e:de12.eval X [encB o,.str s]=X 12 [encB o,.str s]:=by
  simp only[de12,X_12,X_10,ev_f,zAA,zBA,ev_v,ev_k,gzZ,gsZ,yAA,yMF,zQA,yYD,ew,zOA,zNA,Int.toNat_natCast,yVA,app_s,zKF]
 have hu:(zEA (s.length+1)).length<=5:=by
  rw[qKL]
  have:=qYH 5 (s.length+1) (Nat.lt_of_lt_of_le (by omega) (by decide:4294967296<=128 ^ 5))
  omega
 refine⟨⟨?_,zYA rfl ?_,trivial⟩,e⟩
 ·show (de12.eval X [encB o,.str s]).len*1<=_/\(de12.eval X [encB o,.str s]).len<=_;rw[e,X_12,qCA,List.length_append,yMF,zKF];exact xBB (by omega)
 ·simp only[ev_f,zAA,zBA,ev_v,ev_k,gzZ,gsZ,yAA,yMF,zQA,yYD,ew];show (X 10 _).len<=lim;rw[X_10,qCA,zNA,Int.toNat_natCast];omega
end Go.Mx
namespace Go.Mx
open Go Go.Dx
def de22:DE:=(.f .ite [.v 2,.f (.ext 10) [.v 0,.k (.int 0)],.f (.ext 10) [.v 0,.f (.add .u32) [.k (.int 1),.f (.wrap .u32) [.v 1]]]])
def ob22:List Ob:=[.when (.v 2) true [.pre 10 [.v 0,.k (.int 0)]],.when (.v 2) false [.pre 10 [.v 0,.f (.add .u32) [.k (.int 1),.f (.wrap .u32) [.v 1]]]]]
def de21:DE:=(.f .ite [.v 2,.f (.ext 6) [.v 0,.k (.int (-1))],.f (.ext 6) [.v 0,.f (.wrap .i32) [.v 1]]])
def ob21:List Ob:=[.when (.v 2) true [.pre 6 [.v 0,.k (.int (-1))]],.when (.v 2) false [.pre 6 [.v 0,.f (.wrap .i32) [.v 1]]]]
def de20:DE:=(.f (.ext 10) [.v 0,.f (.add .u32) [.k (.int 1),.f (.wrap .u32) [.v 1]]])
def ob20:List Ob:=[.pre 10 [.v 0,.f (.add .u32) [.k (.int 1),.f (.wrap .u32) [.v 1]]]]
def de19:DE:=(.f (.ext 6) [.v 0,.f (.wrap .i32) [.v 1]])
def ob19:List Ob:=[.pre 6 [.v 0,.f (.wrap .i32) [.v 1]]]
def de14:DE:=(.f .ite [.f .isNil [.v 1],.f (.ext 10) [.v 0,.k (.int 0)],.f (.ext 12) [.v 0,.f (.get 0) [.f .deref [.v 1]]]])
def ob14:List Ob:=[.when (.f .isNil [.v 1]) true [.pre 10 [.v 0,.k (.int 0)]],.when (.f .isNil [.v 1]) false [.pre 12 [.v 0,.f (.get 0) [.f .deref [.v 1]]],.when (.f .isNil [.v 1]) true [(.nz (.k (.int 0)))]]]
def de13:DE:=(.f .ite [.f .isNil [.v 1],.f (.ext 4) [.v 0,.k (.int (-1))],.f (.ext 11) [.v 0,.f (.get 0) [.f .deref [.v 1]]]])
def ob13:List Ob:=[.when (.f .isNil [.v 1]) true [.pre 4 [.v 0,.k (.int (-1))]],.when (.f .isNil [.v 1]) false [.pre 11 [.v 0,.f (.get 0) [.f .deref [.v 1]]],.when (.f .isNil [.v 1]) true [(.nz (.k (.int 0)))]]]
def de3:DE:=(.f .app [.v 0,.f .mkbytes [.f (.wrap .u8) [.v 1]]])
def ob3:List Ob:=[.room (.f .app [.v 0,.f .mkbytes [.f (.wrap .u8) [.v 1]]]) 1]
theorem ev3(o:Option (List UInt8))(x:Int)(n:Nat)(h:side 3 [encB o,.int x]):zCA X (Pre n) ob3 [encB o,.int x]/\de3.eval X [encB o,.int x]=X 3 [encB o,.int x]:=by
 have e:de3.eval X [encB o,.int x]=X 3 [encB o,.int x]:=by
  simp only[de3,X_3,ev_f,zAA,zBA,ev_v,gzZ,gsZ,zQA,yVA,zNA];rw[show zMA x 1=[UInt8.ofNat (IntKind.u8.wrap x).toNat] by simp[zMA,qNE]];show (encB o).appd (.bytes [UInt8.ofNat (IntKind.u8.wrap x).toNat])=_;cases o <;> simp[encB,D.appd,app,D.asStr]
 have h:(X 3 [encB o,.int x]).len<=lim:=h;refine⟨⟨?_,trivial⟩,e⟩;show (de3.eval X [encB o,.int x]).len*1<=_/\(de3.eval X [encB o,.int x]).len<=_;rw[e];exact xBB h
theorem ev19(o:Option (List UInt8))(x:Int)(n:Nat)(h:side 19 [encB o,.int x]):zCA X (Pre n) ob19 [encB o,.int x]/\de19.eval X [encB o,.int x]=X 19 [encB o,.int x]:=by
 have h:(X 19 [encB o,.int x]).len<=lim:=h;rw[X_19,qCA,yCA] at h;refine⟨⟨zYA rfl ?_,trivial⟩,?_⟩
 ·simp only[ev_f,zAA,zBA,ev_v,gzZ,gsZ,zQA];show (X 6 _).len<=lim;rw[X_6,qCA,yCA];exact h
 ·simp only[de19,X_19,X_6,ev_f,zAA,zBA,ev_v,gzZ,gsZ,zQA,zOA,zNA,zYF]
theorem addone{x:Int}(h0:0<=x)(h1:x<2147483648):IntKind.u32.wrap (1+IntKind.u32.wrap x)=1+x:=by
 rw[qRD h0 (by omega),qRD (by omega) (by omega)]
theorem Uv5{m:Nat}(h:m<4294967296):(zEA m).length<=5:=by
 have:=qYH 5 m (Nat.lt_of_lt_of_le h (by decide))
 rw[qKL];omega
theorem ev20(o:Option (List UInt8))(x:Int)(n:Nat)(h:side 20 [encB o,.int x]):zCA X (Pre n) ob20 [encB o,.int x]/\de20.eval X [encB o,.int x]=X 20 [encB o,.int x]:=by
 rw[side_20] at h;simp only[zNA] at h;obtain⟨h0,h1,h2⟩:=h;have e:(DE.f (.add .u32) [.k (.int 1),.f (.wrap .u32) [.v 1]]).eval X [encB o,.int x] = .int (1+x):=by
  simp only[ev_f,zAA,zBA,ev_v,ev_k,gzZ,gsZ,zQA,yYD,addone h0 h1]
 refine⟨⟨zYA rfl ?_,trivial⟩,?_⟩
 ·rw[zAA,zAA,zBA,e];show (X 10 _).len<=lim;rw[X_10,qCA,zNA]
  have:=Uv5 (m:=(1+x).toNat) (by omega)
  show (encB o).asStr.length+_<=_;omega
 ·rw[de20,ev_f,zAA,zAA,zBA,e,zOA,X_10,X_20,zNA,zNA,show (1+x).toNat=x.toNat+1 by omega];rfl
theorem ev21(o:Option (List UInt8))(x:Int)(b:Bool)(n:Nat)(h:side 21 [encB o,.int x,.bool b]):zCA X (Pre n) ob21 [encB o,.int x,.bool b]/\de21.eval X [encB o,.int x,.bool b]=X 21 [encB o,.int x,.bool b]:=by
 have h:(X 21 [encB o,.int x,.bool b]).len<=lim:=h;rw[X_21,qCA] at h;have hv:(DE.v 2).eval X [encB o,.int x,.bool b] = .bool b:=rfl;refine⟨⟨fun hb=>⟨zYA rfl ?_,trivial⟩,fun hb=>⟨zYA rfl ?_,trivial⟩,trivial⟩,?_⟩
 ·simp only[zAA,zBA,ev_v,ev_k,gzZ];show (X 6 _).len<=lim;rw[X_6,qCA,yCA];rw[show (if (D.bool b).asBool then zMA (-1) 4 else zMA (D.int x).asInt 4).length=4 by split <;> rw[yCA]] at h;exact h
 ·simp only[ev_f,zAA,zBA,ev_v,gzZ,gsZ,zQA];show (X 6 _).len<=lim;rw[X_6,qCA,yCA];rw[show (if (D.bool b).asBool then zMA (-1) 4 else zMA (D.int x).asInt 4).length=4 by split <;> rw[yCA]] at h;exact h
 ·simp only[de21,X_21,X_6,ev_f,zAA,zBA,ev_v,ev_k,gzZ,gsZ,zQA,zOA,zXA,zNA,zYF,zVA];cases b <;> rfl
theorem ev22(o:Option (List UInt8))(x:Int)(b:Bool)(n:Nat)(h:side 22 [encB o,.int x,.bool b]):zCA X (Pre n) ob22 [encB o,.int x,.bool b]/\de22.eval X [encB o,.int x,.bool b]=X 22 [encB o,.int x,.bool b]:=by
 rw[side_22] at h;simp only[zNA] at h;obtain⟨h0,h1,h2⟩:=h;have e:(DE.f (.add .u32) [.k (.int 1),.f (.wrap .u32) [.v 1]]).eval X [encB o,.int x,.bool b] = .int (1+x):=by
  simp only[ev_f,zAA,zBA,ev_v,ev_k,gzZ,gsZ,zQA,yYD,addone h0 h1]
 refine⟨⟨fun hb=>⟨zYA rfl ?_,trivial⟩,fun hb=>⟨zYA rfl ?_,trivial⟩,trivial⟩,?_⟩
 ·simp only[zAA,zBA,ev_v,ev_k,gzZ];show (X 10 _).len<=lim;rw[X_10,qCA,zNA]
  have:=Uv5 (m:=(0:Int).toNat) (by omega)
  show (encB o).asStr.length+_<=_;omega
 ·rw[zAA,zAA,zBA,e];show (X 10 _).len<=lim;rw[X_10,qCA,zNA]
  have:=Uv5 (m:=(1+x).toNat) (by omega)
  show (encB o).asStr.length+_<=_;omega
 ·rw[de22,ev_f,zAA,zAA,zAA,zBA];rw[ev_f,zAA,zAA,zBA,ev_f,zAA,zAA,zBA,e,ev_k,zOA,zOA,X_10,X_10,X_22,zNA,zNA,zNA];show Fn.eval X .ite [.bool b,_,_]=_;rw[zXA,zVA,show (1+x).toNat=x.toNat+1 by omega];cases b <;> rfl
def encP(s:Option (List UInt8)):D:=match s with|none=>.nil|some s=>.ptr (.str s)
theorem ev13(o s:Option (List UInt8))(n:Nat)(h:side 13 [encB o,encP s]):zCA X (Pre n) ob13 [encB o,encP s]/\de13.eval X [encB o,encP s]=X 13 [encB o,encP s]:=by
 have h:(X 13 [encB o,encP s]).len<=lim:=h;rw[X_13,qCA] at h;have eN:(DE.f .isNil [.v 1]).eval X [encB o,encP s] = .bool s.isNone:=by
  rw[ev_f,zAA,zBA,qQE];cases s <;> rfl
 have eD:∀t,s=some t->(DE.f (.get 0) [.f .deref [.v 1]]).eval X [encB o,encP s] = .str t:=fun t e=>by subst e;rfl
 refine⟨⟨fun hb=>⟨zYA rfl ?_,trivial⟩,fun hb=>⟨zYA rfl ?_,fun hc=>?_,trivial⟩,trivial⟩,?_⟩
 ·rw[eN] at hb;simp only[zAA,zBA,ev_v,ev_k,gzZ];show (X 4 _).len<=lim;cases s with
  | some t=>simp[D.asBool] at hb
  | none =>
   rw[X_4,qCA,yCA];change (encB o).asStr.length+(zMA (-1) 2).length<=lim at h;rw[yCA] at h;exact h
 ·rw[eN] at hb;cases s with
  | none=>simp[D.asBool] at hb
  | some t =>
   rw[zAA,zAA,zBA,eD t rfl];show (X 11 _).len<=lim;rw[X_11,qCA];exact h
 ·rw[hc] at hb;cases hb
 ·rw[de13,ev_f,zAA,zAA,zAA,zBA,eN,zXA];cases s with
  | none=>rfl
  | some t =>
   simp only[Option.isNone_some,bfZ,if_false];rw[ev_f,zAA,zAA,zBA,eD t rfl,zOA,X_11,X_13];rfl
theorem ev14(o s:Option (List UInt8))(n:Nat)(h:side 14 [encB o,encP s]):zCA X (Pre n) ob14 [encB o,encP s]/\de14.eval X [encB o,encP s]=X 14 [encB o,encP s]:=by
 rw[side_14] at h;have eN:(DE.f .isNil [.v 1]).eval X [encB o,encP s] = .bool s.isNone:=by
  rw[ev_f,zAA,zBA,qQE];cases s <;> rfl
 have eD:∀t,s=some t->(DE.f (.get 0) [.f .deref [.v 1]]).eval X [encB o,encP s] = .str t:=fun t e=>by subst e;rfl
 refine⟨⟨fun hb=>⟨zYA rfl ?_,trivial⟩,fun hb=>⟨zYA rfl ?_,fun hc=>?_,trivial⟩,trivial⟩,?_⟩
 ·rw[eN] at hb;simp only[zAA,zBA,ev_v,ev_k,gzZ];show (X 10 _).len<=lim;rw[X_10,qCA,zNA]
  have:=Uv5 (m:=(0:Int).toNat) (by omega)
  show (encB o).asStr.length+_<=_;omega
 ·rw[eN] at hb;cases s with
  | none=>simp[D.asBool] at hb
  | some t =>
   rw[zAA,zAA,zBA,eD t rfl];show side 12 _;rw[ev_v,gzZ,xAL];exact h
 ·rw[hc] at hb;cases hb
 ·rw[de14,ev_f,zAA,zAA,zAA,zBA,eN,zXA];cases s with
  | none=>rfl
  | some t =>
   simp only[Option.isNone_some,bfZ,if_false];rw[ev_f,zAA,zAA,zBA,eD t rfl,zOA,X_12,X_14];rfl
def uvT:List UInt8:=[1,1,1,1,1,1,1,1,2,2,2,2,2,2,2,3,3,3,3,3,3,3,4,4,4,4,4,4,4,5,5,5,5,5,5,5,6,6,6,6,6,6,6,7,7,7,7,7,7,7,8,8,8,8,8,8,8,9,9,9,9,9,9,9,10,0,0,0,0,0,0,0,0,0,0,0,0,0,0,0,0,0,0,0,0,0,0,0,0,0,0,0,0,0,0,0,0,0,0,0,0,0,0,0,0,0,0,0,0,0,0,0,0,0,0,0,0,0,0,0,0,0,0,0,0,0,0,0,0,0,0,0,0,0,0,0,0,0,0,0,0,0,0,0,0,0,0,0,0,0,0,0,0,0,0,0,0,0,0,0,0,0,0,0,0,0,0,0,0,0,0,0,0,0,0,0,0,0,0,0,0,0,0,0,0,0,0,0,0,0,0,0,0,0,0,0,0,0,0,0,0,0,0,0,0,0,0,0,0,0,0,0,0,0,0,0,0,0,0,0,0,0,0,0,0,0,0,0,0,0,0,0,0,0,0,0,0,0,0,0,0,0,0,0,0,0,0,0,0,0,0,0,0,0,0,0]
def l8T:List UInt8:=[0,1,2,2,3,3,3,3,4,4,4,4,4,4,4,4,5,5,5,5,5,5,5,5,5,5,5,5,5,5,5,5,6,6,6,6,6,6,6,6,6,6,6,6,6,6,6,6,6,6,6,6,6,6,6,6,6,6,6,6,6,6,6,6,7,7,7,7,7,7,7,7,7,7,7,7,7,7,7,7,7,7,7,7,7,7,7,7,7,7,7,7,7,7,7,7,7,7,7,7,7,7,7,7,7,7,7,7,7,7,7,7,7,7,7,7,7,7,7,7,7,7,7,7,7,7,7,7,8,8,8,8,8,8,8,8,8,8,8,8,8,8,8,8,8,8,8,8,8,8,8,8,8,8,8,8,8,8,8,8,8,8,8,8,8,8,8,8,8,8,8,8,8,8,8,8,8,8,8,8,8,8,8,8,8,8,8,8,8,8,8,8,8,8,8,8,8,8,8,8,8,8,8,8,8,8,8,8,8,8,8,8,8,8,8,8,8,8,8,8,8,8,8,8,8,8,8,8,8,8,8,8,8,8,8,8,8,8,8,8,8,8,8,8,8,8,8,8,8,8,8,8,8,8,8,8]
namespace U31
def A:DE:=.f .ite [.f .leI [.k (.int 65536),.v 0],.f (.shr .u32) [.v 0,.k (.int 16)],.v 0]
def B:DE:=.f .ite [.f .leI [.k (.int 65536),.v 0],.k (.int 16),.k (.int 0)]
def C:DE:=.f .leI [.k (.int 256),A]
def M:DE:=.f .ite [C,.f (.shr .u32) [A,.k (.int 8)],A]
def N:DE:=.f .ite [C,.f (.add .i64) [B,.k (.int 8)],B]
def W:DE:=.f (.wrap .u8) [M]
def L:DE:=.f (.wrap .i64) [.f .at [.k (.bytes l8T),W]]
def I:DE:=.f (.wrap .u8) [.f (.add .i64) [N,L]]
end U31
def de31:DE:=.f (.wrap .i64) [.f .at [.k (.bytes uvT),U31.I]]
def ob31:List Ob:=[.idx U31.I (.k (.bytes uvT)) true,.idx U31.W (.k (.bytes l8T)) true]
theorem qJL:uvT.length=256:=by decide +kernel
theorem qVK:l8T.length=256:=by decide +kernel
theorem l8_le:∀m:Fin 256,(l8T.getD m.1 0).toNat<=8:=by decide +kernel
theorem tab0:∀m:Fin 256,(uvT.getD (0+(l8T.getD m.1 0).toNat) 0).toNat=if m.1<128 then 1 else 2:=by decide +kernel
theorem tab8:∀m:Fin 256,1<=m.1->(uvT.getD (8+(l8T.getD m.1 0).toNat) 0).toNat=if m.1<64 then 2 else 3:=by decide +kernel
theorem tab16:∀m:Fin 256,1<=m.1->(uvT.getD (16+(l8T.getD m.1 0).toNat) 0).toNat=if m.1<32 then 3 else 4:=by decide +kernel
theorem tab24:∀m:Fin 256,1<=m.1->(uvT.getD (24+(l8T.getD m.1 0).toNat) 0).toNat=if m.1<16 then 4 else 5:=by decide +kernel
theorem yUC(n:Nat):(zEA n).length=if 127<n then 1+(zEA (n / 128)).length else 1:=by
 rw[zEA];split
 ·rw[List.length_cons];omega
 ·rfl
theorem uvlen(n:Nat)(h:n<4294967296):(zEA n).length=if n<128 then 1 else if n<16384 then 2 else if n<2097152 then 3 else if n<268435456 then 4 else 5:=by
 have e1:=yUC n;have e2:=yUC (n / 128);have e3:=yUC (n / 128 / 128);have e4:=yUC (n / 128 / 128 / 128);have e5:=yUC (n / 128 / 128 / 128 / 128)
 repeat (first|omega|split at *)
theorem qTI(l:List UInt8)(i:Nat)(h:i<l.length):Fn.eval X .at [.bytes l,.int (i:Nat)] = .int (l.getD i 0).toNat:=by
 rw[zVF,Int.toNat_natCast];show (l.map fun x=>D.int x.toNat).getD i .nil=_;rw[List.getD_eq_getElem?_getD,List.getElem?_map,List.getD_eq_getElem?_getD,List.getElem?_eq_getElem h];rfl
theorem ev31(x:Int)(n:Nat)(h0:0<=x)(h1:x<4294967296):zCA X (Pre n) ob31 [.int x]/\de31.eval X [.int x]=X 31 [.int x]:=by
 obtain⟨k,rfl⟩:=Int.eq_ofNat_of_zero_le h0;have hk:k<4294967296:=by omega
 have s16:shrI (k:Int) 16 .u32=((k / 65536:Nat):Int):=zXK k 16 65536 (by decide) (by decide);have eA:U31.A.eval X [.int (k:Nat)] = .int ((if 65536<=k then k / 65536 else k:Nat):Int):=by
  simp only[U31.A,ev_f,zAA,zBA,ev_v,ev_k,gzZ,qRB,qZD,zXA,s16];by_cases c:65536<=k
  ·rw[if_pos c,if_pos (by simpa using(by omega:(65536:Int)<=(k:Int)))]
  ·rw[if_neg c,if_neg (by simpa using(by omega:¬(65536:Int)<=(k:Int)))]
 have eB:U31.B.eval X [.int (k:Nat)] = .int ((if 65536<=k then 16 else 0:Nat):Int):=by
  simp only[U31.B,ev_f,zAA,zBA,ev_v,ev_k,gzZ,qRB,zXA];by_cases c:65536<=k
  ·rw[if_pos c,if_pos (by simpa using(by omega:(65536:Int)<=(k:Int)))];rfl
  ·rw[if_neg c,if_neg (by simpa using(by omega:¬(65536:Int)<=(k:Int)))];rfl
 generalize ha:(if 65536<=k then k / 65536 else k)=a at eA;generalize hb:(if 65536<=k then 16 else 0)=b at eB;have ha2:a<65536:=by rw[<- ha];split <;> omega
 have hb2:b<=16:=by rw[<- hb];split <;> omega
 have s8:shrI (a:Int) 8 .u32=((a / 256:Nat):Int):=zXK a 8 256 (by decide) (by decide);have eC:U31.C.eval X [.int (k:Nat)] = .bool (decide (256<=a)):=by
  simp only[U31.C,ev_f,zAA,zBA,ev_k,eA,qRB]
  congr 1
  by_cases c:256<=a
  ·rw[decide_eq_true c,decide_eq_true (by omega:(256:Int)<=(a:Int))]
  ·rw[decide_eq_false c,decide_eq_false (by omega:¬(256:Int)<=(a:Int))]
 have eM:U31.M.eval X [.int (k:Nat)] = .int ((if 256<=a then a / 256 else a:Nat):Int):=by
  simp only[U31.M,ev_f,zAA,zBA,ev_k,eA,eC,qZD,zXA,s8];by_cases c:256<=a
  ·rw[if_pos c,if_pos (by simpa using c)]
  ·rw[if_neg c,if_neg (by simpa using c)]
 have eN:U31.N.eval X [.int (k:Nat)] = .int ((if 256<=a then b+8 else b:Nat):Int):=by
  simp only[U31.N,ev_f,zAA,zBA,ev_k,eB,eC,yYD,zXA];by_cases c:256<=a
  ·rw[if_pos c,if_pos (by simpa using c),qQI (by omega) (by omega)];rfl
  ·rw[if_neg c,if_neg (by simpa using c)]
 generalize hm:(if 256<=a then a / 256 else a)=m at eM;generalize hn:(if 256<=a then b+8 else b)=q at eN;have hm2:m<256:=by rw[<- hm];split <;> omega
 have hq2:q<=24:=by rw[<- hn];split <;> omega
 have eW:U31.W.eval X [.int (k:Nat)] = .int (m:Nat):=by
  rw[U31.W,ev_f,zAA,zBA,eM,zQA,qVF (by omega) (by omega)]
 have hl:=l8_le ⟨m,hm2⟩;simp only at hl;have eL:U31.L.eval X [.int (k:Nat)] = .int ((l8T.getD m 0).toNat:Nat):=by
  rw[U31.L,ev_f,zAA,zBA,ev_f,zAA,zAA,zBA,eW,ev_k,qTI _ _ (by rw[qVK];exact hm2),zQA,qQI (by omega) (by omega)]
 have eI:U31.I.eval X [.int (k:Nat)] = .int ((q+(l8T.getD m 0).toNat:Nat):Int):=by
  rw[U31.I,ev_f,zAA,zBA,ev_f,zAA,zAA,zBA,eN,eL,yYD,zQA,qQI (by omega) (by omega),qVF (by omega) (by omega)];rfl
 have hu:((uvT.getD (q+(l8T.getD m 0).toNat) 0).toNat:Nat)=(zEA k).length:=by
  rw[uvlen k hk];have t0:=tab0 ⟨m,hm2⟩;have t8:=tab8 ⟨m,hm2⟩;have t16:=tab16 ⟨m,hm2⟩;have t24:=tab24 ⟨m,hm2⟩;simp only at t0 t8 t16 t24;by_cases c1:65536<=k
  ·rw[if_pos c1] at ha hb;by_cases c2:256<=a
   ·rw[if_pos c2] at hm hn;have hq:q=24:=by omega
    rw[hq,t24 (by omega)]
    repeat (first|omega|split)
   ·rw[if_neg c2] at hm hn;have hq:q=16:=by omega
    rw[hq,t16 (by omega)]
    repeat (first|omega|split)
  ·rw[if_neg c1] at ha hb;by_cases c2:256<=a
   ·rw[if_pos c2] at hm hn;have hq:q=8:=by omega
    rw[hq,t8 (by omega)]
    repeat (first|omega|split)
   ·rw[if_neg c2] at hm hn;have hq:q=0:=by omega
    rw[hq,t0]
    repeat (first|omega|split)
 refine⟨⟨?_,?_,trivial⟩,?_⟩
 ·simp only[Ob.holds,eI,zNA,if_true,ev_k,Int.toNat_natCast];refine⟨Int.natCast_nonneg _,?_⟩;show _<uvT.length;rw[qJL];omega
 ·simp only[Ob.holds,eW,zNA,if_true,ev_k,Int.toNat_natCast];refine⟨Int.natCast_nonneg _,?_⟩;show _<l8T.length;rw[qVK];omega
 ·rw[de31,ev_f,zAA,zBA,ev_f,zAA,zAA,zBA,eI,ev_k,qTI _ _ (by rw[qJL];omega),hu,zQA,X_31,zNA,Int.toNat_natCast]
  have:=Uv5 hk
  rw[qQI (by omega) (by omega)]
end Go.Mx
namespace Go.Mx
open Go Go.Dx
inductive K where
 | int (k:IntKind)|bool|str|pstr|byts|tree|trees|tag|tags|fl|fls|msg|idt|rdr
deriving Repr,DecidableEq
def agg(P:Program)(t:TypeId):Bool:=match P.underlying t with|some d=>zHA d|none=>false
def sl(P:Program)(t:TypeId):Option TypeId:=match P.underlying t with|some (.slice e)=>some e|_=>none
def isI(P:Program)(k:IntKind)(t:TypeId):Bool:=match P.underlying t with|some (.int k')=>decide (k'=k)|_=>false
def isBo(P:Program)(t:TypeId):Bool:=match P.underlying t with|some .bool=>true|_=>false
def isSt(P:Program)(t:TypeId):Bool:=match P.underlying t with|some .string=>true|_=>false
def isPs(P:Program)(t:TypeId):Bool:=match P.underlying t with|some (.pointer e)=>isSt P e|_=>false
def isBy(P:Program)(t:TypeId):Bool:=match sl P t with|some e=>isI P .u8 e|none=>false
def yOH(P:Program)(t:TypeId):Bool:=agg P t&&match tys P t with|[a,b]=>isI P .u32 a&&isBy P b|_=>false
def yAG(P:Program)(t:TypeId):Bool:=match sl P t with|some e=>yOH P e|none=>false
def yOC(P:Program)(t:TypeId):Bool:=agg P t&&match tys P t with|[a,b,c,d,e]=>isI P .i64 a&&isBy P b&&isBo P c&&decide (sl P d=some t)&&yAG P e|_=>false
def qSK(P:Program)(t:TypeId):Bool:=match sl P t with|some e=>yOC P e|none=>false
def isFl(P:Program)(t:TypeId):Bool:=agg P t&&match tys P t with|[a,b,c,d,e,f,g,h]=>isI P .i64 a&&isI P .i64 b&&isI P .i64 c&&isI P .i64 d&&isI P .i64 e&&isI P .i64 f&&isI P .i64 g&&decide (sl P h=some t)|_=>false
def isFls(P:Program)(t:TypeId):Bool:=match sl P t with|some e=>isFl P e|none=>false
def isMsg(P:Program)(t:TypeId):Bool:=agg P t&&match tys P t with|[a,b]=>isFls P a&&isI P .i64 b|_=>false
def isId(P:Program)(t:TypeId):Bool:=agg P t&&match tys P t with|[a,b]=>isBo P a&&isSt P b|_=>false
def isK(P:Program):K->TypeId->Bool
 | .int k=>isI P k | .bool=>isBo P | .str=>isSt P | .pstr=>isPs P | .byts=>isBy P | .tree=>yOC P | .trees=>qSK P | .tag=>yOH P | .tags=>yAG P | .fl=>isFl P | .fls=>isFls P | .msg=>isMsg P | .idt=>isId P | .rdr=>fun _=>false
def KOk:K->D->Prop
 | .int k,d=>∃n,d = .int n/\(Lit.int k n).wf=true
 | .bool,d=>∃b,d = .bool b
 | .str,d=>∃s,d = .str s
 | .pstr,d=>∃s,d=encP s
 | .byts,d=>∃s,d=encB s
 | .tree,d=>∃t:T,d=t.d
 | .trees,d=>∃l,d=encT l
 | .tag,d=>∃t:Tg,d=t.d
 | .idt,d=>∃(b:Bool) (s:List UInt8),d = .row [.bool b,.str s]
 | .tags,d=>∃l,d=encU l
 | .fl,d=>∃f:Fl,d=f.d
 | .fls,d=>∃l,d=encF l
 | .msg,d=>∃fs fx,d = .row [encF fs,.int fx]
 | .rdr,d=>∃(s:Option (List UInt8)) (b:Bool),d.cells.getD 1 .nil=encB s/\d.cells.getD 2 .nil = .bool b
section
variable {P:Program} {ok:Nat->Prop} {w:World}
theorem xIL{t e:TypeId}(h:sl P t=some e):P.underlying t=some (.slice e):=by
 unfold sl at h;split at h
 ·rename_i e' hu;cases h;exact hu
 ·cases h
theorem zXJ{t:TypeId}{k:IntKind}(h:isI P k t=true):P.underlying t=some (.int k):=by
 unfold isI at h;split at h
 ·rename_i k' hu;rw[of_decide_eq_true h] at hu;exact hu
 ·cases h
theorem isBo_eq{t:TypeId}(h:isBo P t=true):P.underlying t=some .bool:=by
 unfold isBo at h;split at h
 ·assumption
 ·cases h
theorem isSt_eq{t:TypeId}(h:isSt P t=true):P.underlying t=some .string:=by
 unfold isSt at h;split at h
 ·assumption
 ·cases h
theorem zOH{t:TypeId}(h:agg P t=true):∃d,P.underlying t=some d/\zHA d=true:=by
 unfold agg at h;split at h
 ·rename_i d hu;exact⟨d,hu,h⟩
 ·cases h
theorem qPK{t:TypeId}(h:isBy P t=true):∃e,P.underlying t=some (.slice e)/\P.underlying e=some (.int .u8):=by
 unfold isBy at h;split at h
 ·rename_i e he;exact⟨e,xIL he,zXJ h⟩
 ·cases h
theorem ySB{t:TypeId}{k:IntKind}{v:Value}{d:D}(h:isI P k t=true)(hr:Rep P ok w t v d):KOk (.int k) d:=by
 have hu:=zXJ h;cases hr with
 | int hu' hw=>rw[hu] at hu';cases hu';exact⟨_,rfl,hw⟩
 | row hu' hd=>rw[hu] at hu';cases hu';simp[zHA] at hd
 | _=>simp_all
theorem qUG{t:TypeId}{v:Value}{d:D}(h:isBo P t=true)(hr:Rep P ok w t v d):KOk .bool d:=by
 have hu:=isBo_eq h;cases hr with
 | bool=>exact⟨_,rfl⟩
 | row hu' hd=>rw[hu] at hu';cases hu';simp[zHA] at hd
 | _=>simp_all
theorem xNI{t:TypeId}{v:Value}{d:D}(h:isSt P t=true)(hr:Rep P ok w t v d):KOk .str d:=by
 have hu:=isSt_eq h;cases hr with
 | str=>exact⟨_,rfl⟩
 | row hu' hd=>rw[hu] at hu';cases hu';simp[zHA] at hd
 | _=>simp_all
theorem rep_pstr{t:TypeId}{v:Value}{d:D}(h:isPs P t=true)(hr:Rep P ok w t v d):KOk .pstr d:=by
 unfold isPs at h;split at h
 ·rename_i e hu;cases hr with
  | pnil=>exact⟨none,rfl⟩
  | ptr hu' _ _ hr' =>
   rw[hu] at hu';cases hu'
   obtain⟨s,rfl⟩:=xNI h hr';exact⟨some s,rfl⟩
  | row hu' hd=>rw[hu] at hu';cases hu';simp[zHA] at hd
  | _=>simp_all
 ·cases h
theorem zAF{t:TypeId}{v:Value}{d:D}(h:isBy P t=true)(hr:Rep P ok w t v d):KOk .byts d:=by
 obtain⟨e,hu,he⟩:=qPK h;cases hr with
 | snil=>exact⟨none,rfl⟩
 | bytes=>exact⟨some _,rfl⟩
 | list hu' he'=>rw[hu] at hu';cases hu';exact absurd he he'
 | row hu' hd=>rw[hu] at hu';cases hu';simp[zHA] at hd
 | _=>simp_all
theorem xMF{t:TypeId}{v:Value}{d:D}(h:agg P t=true)(hr:Rep P ok w t v d):∃ds,d = .row ds/\ds.length=(tys P t).length /\ ∀(j:Nat) (u:TypeId) (x:D),(tys P t)[j]? = some u->ds[j]? = some x -> ∃v',Rep P ok w u v' x:=by
 obtain⟨dd,hu,ha⟩:=zOH h;cases hr with
 | row hu' hd hlen hlen' h1 hr =>
  rename_i vs ds;refine⟨ds,rfl,hlen',fun j u x hj hx=>?_⟩;have hj2:j<vs.length:=by rw[hlen];exact(List.getElem?_eq_some_iff.1 hj).1
  exact⟨vs[j],hr j u _ x hj (List.getElem?_eq_getElem hj2) hx⟩
 | int hu'=>rw[hu] at hu';cases hu';simp[zHA] at ha
 | bool hu'=>rw[hu] at hu';cases hu';simp[zHA] at ha
 | str hu'=>rw[hu] at hu';cases hu';simp[zHA] at ha
 | flt hu'=>rw[hu] at hu';cases hu';simp[zHA] at ha
 | snil hu'=>rw[hu] at hu';cases hu';simp[zHA] at ha
 | bytes hu'=>rw[hu] at hu';cases hu';simp[zHA] at ha
 | list hu'=>rw[hu] at hu';cases hu';simp[zHA] at ha
 | pnil hu'=>rw[hu] at hu';cases hu';simp[zHA] at ha
 | ptr hu'=>rw[hu] at hu';cases hu';simp[zHA] at ha
 | mnil hu'=>rw[hu] at hu';cases hu';simp[zHA] at ha
 | map hu'=>rw[hu] at hu';cases hu';simp[zHA] at ha
theorem ySJ{t e:TypeId}{v:Value}{d:D}(h:sl P t=some e)(ha:agg P e=true)(hr:Rep P ok w t v d):d = .nil ∨ ∃ds,d = .list ds /\ ∀x∈ds,∃v',Rep P ok w e v' x:=by
 have hu:=xIL h;obtain⟨dd,hue,hae⟩:=zOH ha;cases hr with
 | snil=>exact .inl rfl
 | bytes hu' he=>rw[hu] at hu';cases hu';rw[hue] at he;cases he;simp[zHA] at hae
 | list hu' he hi hok hlen hcap hmax hsz hc hr =>
  rw[hu] at hu';cases hu'
  rename_i vs ds;refine .inr ⟨ds,rfl,fun x hx=>?_⟩;obtain⟨j,hj,hjx⟩:=List.mem_iff_getElem.1 hx;have hj2:j<vs.length:=by omega
  exact⟨vs[j],hr j _ x (List.getElem?_eq_getElem hj2) (by rw[List.getElem?_eq_getElem hj,hjx])⟩
 | row hu' hd=>rw[hu] at hu';cases hu';simp[zHA] at hd
 | _=>simp_all
theorem yAD{A:Type}{f:A->D}:∀ {ds:List D},(∀x∈ds,∃a,x=f a) -> ∃l:List A,ds=l.map f
 | [],_=>⟨[],rfl⟩
 | d::ds,h=>by
  obtain⟨a,ha⟩:=h d (by simp);obtain⟨l,hl⟩:=yAD (f:=f) (ds:=ds) (fun x hx=>h x (by simp[hx]));exact⟨a::l,by simp[ha,hl]⟩
theorem yML{t:TypeId}{v:Value}{d:D}(h:yOH P t=true)(hr:Rep P ok w t v d):KOk .tag d:=by
 unfold yOH at h;simp only[baZ] at h;obtain⟨ha,h⟩:=h;obtain⟨ds,rfl,hlen,hcell⟩:=xMF ha hr;split at h
 ·rename_i a b hty;simp only[baZ] at h;rw[hty] at hlen hcell
  match ds,hlen with
  | [x,y],_ =>
   obtain⟨v1,r1⟩:=hcell 0 a x rfl rfl;obtain⟨v2,r2⟩:=hcell 1 b y rfl rfl;obtain⟨n,rfl,_⟩:=ySB h.1 r1;obtain⟨s,rfl⟩:=zAF h.2 r2;exact⟨⟨n,s⟩,rfl⟩
 ·cases h
theorem rep_id{t:TypeId}{v:Value}{d:D}(h:isId P t=true)(hr:Rep P ok w t v d):KOk .idt d:=by
 unfold isId at h;simp only[baZ] at h;obtain⟨ha,h⟩:=h;obtain⟨ds,rfl,hlen,hcell⟩:=xMF ha hr;split at h
 ·rename_i a b hty;simp only[baZ] at h;rw[hty] at hlen hcell
  match ds,hlen with
  | [x,y],_ =>
   obtain⟨v1,r1⟩:=hcell 0 a x rfl rfl;obtain⟨v2,r2⟩:=hcell 1 b y rfl rfl;obtain⟨n,rfl⟩:=qUG h.1 r1;obtain⟨s,rfl⟩:=xNI h.2 r2;exact⟨n,s,rfl⟩
 ·cases h
theorem yPH{t:TypeId}(h:yOH P t=true):agg P t=true:=by
 unfold yOH at h;simp only[baZ] at h;exact h.1
theorem yBG{t:TypeId}(h:yOC P t=true):agg P t=true:=by
 unfold yOC at h;simp only[baZ] at h;exact h.1
theorem isFl_agg{t:TypeId}(h:isFl P t=true):agg P t=true:=by
 unfold isFl at h;simp only[baZ] at h;exact h.1
theorem yTJ{t:TypeId}{v:Value}{d:D}(h:yAG P t=true)(hr:Rep P ok w t v d):KOk .tags d:=by
 unfold yAG at h;split at h
 ·rename_i e he;rcases ySJ he (yPH h) hr with rfl|⟨ds,rfl,hx⟩
  ·exact⟨none,rfl⟩
  ·obtain⟨l,rfl⟩:=yAD (f:=Tg.d) (fun x hx'=>by obtain⟨v',r⟩:=hx x hx';exact yML h r);exact⟨some l,rfl⟩
 ·cases h
theorem xNF{t:TypeId}{v:Value}{d:D}(hr:Rep P ok w t v d):(yOC P t=true->KOk .tree d) /\ ∀e,sl P t=some e->yOC P e=true->KOk .trees d:=by
 have noAgg:∀ {t:TypeId} {d:TypeDesc},P.underlying t=some d->zHA d=false -> ¬yOC P t=true:=fun hu hd h=>by
  obtain⟨d',hu',ha⟩:=zOH (yBG h);rw[hu] at hu';cases hu';rw[hd] at ha;cases ha
 have noSl:∀ {t e:TypeId} {d:TypeDesc},P.underlying t=some d->sl P t=some e->d = .slice e:=fun hu h=>by
  have:=xIL h
  rw[hu] at this;cases this;rfl
 induction hr with
 | int hu _=>exact⟨fun h=>absurd h (noAgg hu rfl),fun e he=>absurd (noSl hu he) (by simp)⟩
 | bool hu=>exact⟨fun h=>absurd h (noAgg hu rfl),fun e he=>absurd (noSl hu he) (by simp)⟩
 | str hu _=>exact⟨fun h=>absurd h (noAgg hu rfl),fun e he=>absurd (noSl hu he) (by simp)⟩
 | flt hu=>exact⟨fun h=>absurd h (noAgg hu rfl),fun e he=>absurd (noSl hu he) (by simp)⟩
 | snil hu=>exact⟨fun h=>absurd h (noAgg hu rfl),fun e he ht=>⟨none,rfl⟩⟩
 | bytes hu he8 _ _ _ _ =>
  refine⟨fun h=>absurd h (noAgg hu rfl),fun e he ht=>?_⟩
  have:=noSl hu he
  cases this;exact absurd ht (noAgg he8 rfl)
 | list hu he8 hi hok hlen hcap hmax hsz hc hr ih =>
  rename_i t' e' cap ad i vs ds;refine⟨fun h=>absurd h (noAgg hu rfl),fun e he ht=>?_⟩
  have:=noSl hu he
  cases this;obtain⟨l,rfl⟩:=yAD (f:=T.d) (ds:=ds) (fun x hx=>by
   obtain⟨j,hj,hjx⟩:=List.mem_iff_getElem.1 hx;have hj2:j<vs.length:=by omega
   exact(ih j _ x (List.getElem?_eq_getElem hj2) (by rw[List.getElem?_eq_getElem hj,hjx])).1 ht)
  exact⟨some l,by simp[encT,yBC]⟩
 | row hu hd hlen hlen' h1 hr ih =>
  rename_i t' d' vs ds;refine⟨fun h=>?_,fun e he ht=>?_⟩
  rotate_left
  ·have:=noSl hu he
   subst this;simp[zHA] at hd
  have h0:=h;unfold yOC at h;simp only[baZ] at h;obtain⟨ha,h⟩:=h;split at h
  ·rename_i a b c d'' e hty;simp only[baZ,dtZ] at h;obtain⟨⟨⟨⟨q1,q2⟩,q3⟩,q4⟩,q5⟩:=h;have cell:∀(j:Nat) (u:TypeId) (x:D),(tys P t')[j]? = some u->ds[j]? = some x -> ∃v',vs[j]? = some v':=fun j u x hj hx=>by
    have hj2:j<vs.length:=by rw[hlen];exact(List.getElem?_eq_some_iff.1 hj).1
    exact⟨vs[j],List.getElem?_eq_getElem hj2⟩
   rw[hty] at hlen' hr ih cell
   match ds,hlen' with
   | [x1,x2,x3,x4,x5],_ =>
    obtain⟨v1,r1⟩:=cell 0 a x1 rfl rfl;obtain⟨v2,r2⟩:=cell 1 b x2 rfl rfl;obtain⟨v3,r3⟩:=cell 2 c x3 rfl rfl;obtain⟨v4,r4⟩:=cell 3 d'' x4 rfl rfl;obtain⟨v5,r5⟩:=cell 4 e x5 rfl rfl;obtain⟨n,rfl,_⟩:=ySB q1 (hr 0 a v1 x1 rfl r1 rfl);obtain⟨s,rfl⟩:=zAF q2 (hr 1 b v2 x2 rfl r2 rfl);obtain⟨bb,rfl⟩:=qUG q3 (hr 2 c v3 x3 rfl r3 rfl);obtain⟨l,rfl⟩:=(ih 3 d'' v4 x4 rfl r4 rfl).2 t' q4 h0;obtain⟨u,rfl⟩:=yTJ q5 (hr 4 e v5 x5 rfl r5 rfl);exact⟨.mk n s bb l u,by simp[T.d]⟩
  ·cases h
 | pnil hu=>exact⟨fun h=>absurd h (noAgg hu rfl),fun e he=>absurd (noSl hu he) (by simp)⟩
 | ptr hu _ _ _ _=>exact⟨fun h=>absurd h (noAgg hu rfl),fun e he=>absurd (noSl hu he) (by simp)⟩
 | mnil hu=>exact⟨fun h=>absurd h (noAgg hu rfl),fun e he=>absurd (noSl hu he) (by simp)⟩
 | map hu _ _ _ _ _ _ _ _ _ _=>exact⟨fun h=>absurd h (noAgg hu rfl),fun e he=>absurd (noSl hu he) (by simp)⟩
theorem xMI{t:TypeId}{v:Value}{d:D}(hr:Rep P ok w t v d):(isFl P t=true->KOk .fl d) /\ ∀e,sl P t=some e->isFl P e=true->KOk .fls d:=by
 have noAgg:∀ {t:TypeId} {d:TypeDesc},P.underlying t=some d->zHA d=false -> ¬isFl P t=true:=fun hu hd h=>by
  obtain⟨d',hu',ha⟩:=zOH (isFl_agg h);rw[hu] at hu';cases hu';rw[hd] at ha;cases ha
 have noSl:∀ {t e:TypeId} {d:TypeDesc},P.underlying t=some d->sl P t=some e->d = .slice e:=fun hu h=>by
  have:=xIL h
  rw[hu] at this;cases this;rfl
 induction hr with
 | int hu _=>exact⟨fun h=>absurd h (noAgg hu rfl),fun e he=>absurd (noSl hu he) (by simp)⟩
 | bool hu=>exact⟨fun h=>absurd h (noAgg hu rfl),fun e he=>absurd (noSl hu he) (by simp)⟩
 | str hu _=>exact⟨fun h=>absurd h (noAgg hu rfl),fun e he=>absurd (noSl hu he) (by simp)⟩
 | flt hu=>exact⟨fun h=>absurd h (noAgg hu rfl),fun e he=>absurd (noSl hu he) (by simp)⟩
 | snil hu=>exact⟨fun h=>absurd h (noAgg hu rfl),fun e he ht=>⟨none,rfl⟩⟩
 | bytes hu he8 _ _ _ _ =>
  refine⟨fun h=>absurd h (noAgg hu rfl),fun e he ht=>?_⟩
  have:=noSl hu he
  cases this;exact absurd ht (noAgg he8 rfl)
 | list hu he8 hi hok hlen hcap hmax hsz hc hr ih =>
  rename_i t' e' cap ad i vs ds;refine⟨fun h=>absurd h (noAgg hu rfl),fun e he ht=>?_⟩
  have:=noSl hu he
  cases this;obtain⟨l,rfl⟩:=yAD (f:=Fl.d) (ds:=ds) (fun x hx=>by
   obtain⟨j,hj,hjx⟩:=List.mem_iff_getElem.1 hx;have hj2:j<vs.length:=by omega
   exact(ih j _ x (List.getElem?_eq_getElem hj2) (by rw[List.getElem?_eq_getElem hj,hjx])).1 ht)
  exact⟨some l,by simp[encF,xSG]⟩
 | row hu hd hlen hlen' h1 hr ih =>
  rename_i t' d' vs ds;refine⟨fun h=>?_,fun e he ht=>?_⟩
  rotate_left
  ·have:=noSl hu he
   subst this;simp[zHA] at hd
  have h0:=h;unfold isFl at h;simp only[baZ] at h;obtain⟨ha,h⟩:=h;split at h
  ·rename_i a b c d'' e f g hh hty;simp only[baZ,dtZ] at h;obtain⟨⟨⟨⟨⟨⟨⟨q1,q2⟩,q3⟩,q4⟩,q5⟩,q6⟩,q7⟩,q8⟩:=h;have cell:∀(j:Nat) (u:TypeId) (x:D),(tys P t')[j]? = some u->ds[j]? = some x -> ∃v',vs[j]? = some v':=fun j u x hj hx=>by
    have hj2:j<vs.length:=by rw[hlen];exact(List.getElem?_eq_some_iff.1 hj).1
    exact⟨vs[j],List.getElem?_eq_getElem hj2⟩
   rw[hty] at hlen' hr ih cell
   match ds,hlen' with
   | [x1,x2,x3,x4,x5,x6,x7,x8],_ =>
    obtain⟨v1,r1⟩:=cell 0 a x1 rfl rfl;obtain⟨v2,r2⟩:=cell 1 b x2 rfl rfl;obtain⟨v3,r3⟩:=cell 2 c x3 rfl rfl;obtain⟨v4,r4⟩:=cell 3 d'' x4 rfl rfl;obtain⟨v5,r5⟩:=cell 4 e x5 rfl rfl;obtain⟨v6,r6⟩:=cell 5 f x6 rfl rfl;obtain⟨v7,r7⟩:=cell 6 g x7 rfl rfl;obtain⟨v8,r8⟩:=cell 7 hh x8 rfl rfl;obtain⟨n1,rfl,_⟩:=ySB q1 (hr 0 a v1 x1 rfl r1 rfl);obtain⟨n2,rfl,_⟩:=ySB q2 (hr 1 b v2 x2 rfl r2 rfl);obtain⟨n3,rfl,_⟩:=ySB q3 (hr 2 c v3 x3 rfl r3 rfl);obtain⟨n4,rfl,_⟩:=ySB q4 (hr 3 d'' v4 x4 rfl r4 rfl);obtain⟨n5,rfl,_⟩:=ySB q5 (hr 4 e v5 x5 rfl r5 rfl);obtain⟨n6,rfl,_⟩:=ySB q6 (hr 5 f v6 x6 rfl r6 rfl);obtain⟨n7,rfl,_⟩:=ySB q7 (hr 6 g v7 x7 rfl r7 rfl);obtain⟨l,rfl⟩:=(ih 7 hh v8 x8 rfl r8 rfl).2 t' q8 h0;exact⟨.mk n1 n2 n3 n4 n5 n6 n7 l,by simp[Fl.d]⟩
  ·cases h
 | pnil hu=>exact⟨fun h=>absurd h (noAgg hu rfl),fun e he=>absurd (noSl hu he) (by simp)⟩
 | ptr hu _ _ _ _=>exact⟨fun h=>absurd h (noAgg hu rfl),fun e he=>absurd (noSl hu he) (by simp)⟩
 | mnil hu=>exact⟨fun h=>absurd h (noAgg hu rfl),fun e he=>absurd (noSl hu he) (by simp)⟩
 | map hu _ _ _ _ _ _ _ _ _ _=>exact⟨fun h=>absurd h (noAgg hu rfl),fun e he=>absurd (noSl hu he) (by simp)⟩
theorem qQK{k:K}{t:TypeId}{v:Value}{d:D}(h:isK P k t=true)(hr:Rep P ok w t v d):KOk k d:=by
 cases k with
 | int k=>exact ySB h hr
 | bool=>exact qUG h hr
 | str=>exact xNI h hr
 | pstr=>exact rep_pstr h hr
 | byts=>exact zAF h hr
 | rdr=>cases h
 | tree=>exact(xNF hr).1 h
 | trees =>
  simp only[isK,qSK] at h;split at h
  ·rename_i e he;exact(xNF hr).2 e he h
  ·cases h
 | tag=>exact yML h hr
 | tags=>exact yTJ h hr
 | fl=>exact(xMI hr).1 h
 | fls =>
  simp only[isK,isFls] at h;split at h
  ·rename_i e he;exact(xMI hr).2 e he h
  ·cases h
 | idt=>exact rep_id h hr
 | msg =>
  simp only[isK,isMsg,baZ] at h;obtain⟨ha,h⟩:=h;obtain⟨ds,rfl,hlen,hcell⟩:=xMF ha hr;split at h
  ·rename_i a b hty;simp only[baZ] at h;rw[hty] at hlen hcell
   match ds,hlen with
   | [x,y],_ =>
    obtain⟨v1,r1⟩:=hcell 0 a x rfl rfl;obtain⟨v2,r2⟩:=hcell 1 b y rfl rfl;obtain⟨n,rfl,_⟩:=ySB h.2 r2;have h1:=h.1;unfold isFls at h1;split at h1
    ·rename_i e he;obtain⟨s,rfl⟩:=(xMI r1).2 e he h1;exact⟨s,n,rfl⟩
    ·cases h1
  ·cases h
end
def isA(P:Program):K->AK->Bool
 | k,.val t=>isK P k t
 | .byts,.own t=>isBy P t
 | .byts,.rd t false=>isBy P t
 | .rdr,.rd t true=>isBy P t
 | _,_=>false
def areA(P:Program):List K->List AK->Bool
 | [],[]=>true
 | k::ks,a::as=>isA P k a&&areA P ks as
 | _,_=>false
inductive KsOk:List K->List D->Prop where
 | nil:KsOk [] []
 | cons {k d ks ds} (h:KOk k d) (hs:KsOk ks ds):KsOk (k::ks) (d::ds)
theorem own_byts{P:Program}{ok:Nat->Prop}{w:World}{t:TypeId}{v:Value}{d:D}(h:isBy P t=true)(hr:ySA P ok w t v d):KOk .byts d:=by
 obtain⟨e,hu,he⟩:=qPK h;obtain⟨e',i,n,xs,hu',hi,hown,hD⟩:=hr;rw[hu] at hu';cases hu'
 cases hD with
 | nil=>exact⟨none,rfl⟩
 | bytes=>exact⟨some _,rfl⟩
 | list _ he'=>exact absurd he he'
theorem zHF{P:Program}{ok:Nat->Prop}{w:World}:∀ {ks:List K} {as:List AK} {vs:List Value} {ds:List D},areA P ks as=true->ArgsOk P ok w as vs ds->KsOk ks ds
 | [],[],_,_,_,h=>by cases h;exact .nil
 | k::ks,a::as,_,_,h,.cons hr hs=>by
  simp only[areA,baZ] at h;refine .cons ?_ (zHF h.2 hs);have h1:=h.1;cases hr with
  | val hr=>exact qQK h1 hr
  | own hr =>
   cases k <;> simp only[isA,bfZ] at h1
   exact own_byts h1 hr
  | mcell=>cases k <;> simp[isA] at h1
  | wcell=>cases k <;> simp[isA] at h1
  | ccell=>cases k <;> simp[isA] at h1
  | @rd t m b v d ty hh ht h1' hwf hr =>
   cases m with
   | false =>
    cases k <;> simp only[isA,bfZ] at h1
    exact qQK (k:=.byts) h1 hr
   | true =>
    cases k <;> simp only[isA,bfZ] at h1
    obtain⟨bb,hbb⟩:=hwf rfl;obtain⟨s,hs⟩:=qQK (k:=.byts) h1 hr;exact⟨s,bb,hs,hbb⟩
 | [],_::_,_,_,h,_=>by simp[areA] at h
 | _::_,[],_,_,h,_=>by simp[areA] at h
end Go.Mx
namespace Go.Mx
open Go Go.Dx
def deK:Nat->DE
 | 2=>de2
 | 3=>de3
 | 4=>de4
 | 5=>de5
 | 6=>de6
 | 7=>de7
 | 10=>de10
 | 11=>de11
 | 12=>de12
 | 13=>de13
 | 14=>de14
 | 15=>de15
 | 17=>de17
 | 19=>de19
 | 20=>de20
 | 21=>de21
 | 22=>de22
 | 29=>de29
 | 30=>de30
 | 31=>de31
 | 40=>de40
 | 41=>de41
 | 44=>de44
 | 45=>de45
 | 46=>de46
 | 47=>de47
 | 48=>de48
 | 49=>de49
 | 50=>de50
 | 51=>de51
 | 52=>de52
 | 53=>de53
 | 54=>de54
 | 55=>de55
 | 56=>de56
 | 57=>de57
 | 58=>de58
 | 59=>de59
 | _=>.k .nil
def obK:Nat->List Ob
 | 2=>ob2
 | 3=>ob3
 | 4=>ob4
 | 5=>ob5
 | 6=>ob6
 | 7=>ob7
 | 10=>ob10
 | 11=>ob11
 | 12=>ob12
 | 13=>ob13
 | 14=>ob14
 | 15=>ob15
 | 17=>ob17
 | 19=>ob19
 | 20=>ob20
 | 21=>ob21
 | 22=>ob22
 | 29=>ob29
 | 30=>ob30
 | 31=>ob31
 | 40=>ob40
 | 41=>ob41
 | 44=>ob44
 | 45=>ob45
 | 46=>ob46
 | 47=>ob47
 | 48=>ob48
 | 49=>ob49
 | 50=>ob50
 | 51=>ob51
 | 52=>ob52
 | 53=>ob53
 | 54=>ob54
 | 55=>ob55
 | 56=>ob56
 | 57=>ob57
 | 58=>ob58
 | 59=>ob59
 | _=>[]
def sig:Nat->List K
 | 2=>[.byts,.bool]
 | 3=>[.byts,.int .i8]
 | 4=>[.byts,.int .i16]
 | 5=>[.byts,.int .u16]
 | 6=>[.byts,.int .i32]
 | 7=>[.byts,.int .i64]
 | 10=>[.byts,.int .u32]
 | 11=>[.byts,.str]
 | 12=>[.byts,.str]
 | 13=>[.byts,.pstr]
 | 14=>[.byts,.pstr]
 | 15=>[.byts,.byts]
 | 17=>[.byts,.byts]
 | 19=>[.byts,.int .i64]
 | 20=>[.byts,.int .i64]
 | 21=>[.byts,.int .i64,.bool]
 | 22=>[.byts,.int .i64,.bool]
 | 29=>[.byts,.int .u64]
 | 30=>[.byts,.int .u32]
 | 31=>[.int .u32]
 | 40=>[.tree,.int .i64]
 | 41=>[.fls,.tags]
 | 44=>[.tree]
 | 45=>[.int .i64,.int .i64]
 | 46=>[.int .u64]
 | 47=>[.fls,.int .i64,.bool,.tree]
 | 48=>[.int .i64,.fls,.bool,.int .i64,.bool,.tree]
 | 49=>[.fl,.int .i64,.bool,.tree]
 | 50=>[.fl,.tree]
 | 51=>[.fls]
 | 52=>[.byts,.byts]
 | 53=>[.bool,.bool,.int .i64,.int .i64]
 | 54=>[.tree]
 | 55=>[.int .i64]
 | 56=>[.fl,.int .i64,.tree]
 | 57=>[.fl,.int .i64]
 | 58=>[.int .u8,.int .i64]
 | 59=>[.msg,.int .i64,.tree]
 | _=>[]
def rank:Nat->Nat
 | 4=>1
 | 6=>1
 | 7=>1
 | 10=>1
 | 11=>2
 | 12=>2
 | 13=>3
 | 14=>3
 | 15=>2
 | 17=>3
 | 19=>2
 | 20=>2
 | 21=>2
 | 22=>2
 | 41=>1
 | 44=>5
 | 47=>5
 | 48=>5
 | 49=>5
 | 50=>5
 | 53=>1
 | 59=>6
 | _=>0
def known?:Nat->Bool
 | 2=>true
 | 3=>true
 | 4=>true
 | 5=>true
 | 6=>true
 | 7=>true
 | 10=>true
 | 11=>true
 | 12=>true
 | 13=>true
 | 14=>true
 | 15=>true
 | 17=>true
 | 19=>true
 | 20=>true
 | 21=>true
 | 22=>true
 | 29=>true
 | 30=>true
 | 31=>true
 | 40=>true
 | 41=>true
 | 44=>true
 | 45=>true
 | 46=>true
 | 47=>true
 | 48=>true
 | 49=>true
 | 50=>true
 | 51=>true
 | 52=>true
 | 53=>true
 | 54=>true
 | 55=>true
 | 56=>true
 | 57=>true
 | 58=>true
 | 59=>true
 | _=>false
theorem wf_u8{n:Int}(h:(Lit.int .u8 n).wf=true):0<=n/\n<256:=by
 simp[Lit.wf,IntKind.min,IntKind.max,IntKind.signed,IntKind.bits] at h;omega
theorem xUJ{n:Int}(h:(Lit.int .u32 n).wf=true):0<=n/\n<4294967296:=by
 simp[Lit.wf,IntKind.min,IntKind.max,IntKind.signed,IntKind.bits] at h;omega
theorem wf_u64{n:Int}(h:(Lit.int .u64 n).wf=true):0<=n/\n<18446744073709551616:=by
 simp[Lit.wf,IntKind.min,IntKind.max,IntKind.signed,IntKind.bits] at h;omega
mutual
theorem Ob.mono{Y:Nat->List D->D}{P Q:Nat->List D->Prop}(h:∀k ds,P k ds->Q k ds):∀(o:Ob) (J:List D),o.holds Y P J->o.holds Y Q J
 | .room _ _,_,ho=>ho
 | .cap _ _,_,ho=>ho
 | .nz _,_,ho=>ho
 | .ge0 _,_,ho=>ho
 | .term _ _ _ _,_,ho=>ho
 | .idx _ _ _,_,ho=>ho
 | .pre _ _,_,ho=>h _ _ ho
 | .all _ _ _ os,_,ho=>fun k hk=>Obs.mono h os _ (ho k hk)
 | .when _ _ os,_,ho=>fun hc=>Obs.mono h os _ (ho hc)
theorem Obs.mono{Y:Nat->List D->D}{P Q:Nat->List D->Prop}(h:∀k ds,P k ds->Q k ds):∀(os:List Ob) (J:List D),zCA Y P os J->zCA Y Q os J
 | [],_,_=>trivial
 | o::os,_,ho=>⟨Ob.mono h o _ ho.1,Obs.mono h os _ ho.2⟩
end
theorem yOA{n k:Nat}{ds:List D}(h:Pre n k ds):side k ds:=h.2
theorem yBD{P:Program}{Y:Nat->List D->D}{A B:Nat->List D->Prop}{f:FuncId}{c:Ctr}(h:∀ds,B c.fn ds->A c.fn ds)(hc:qRA P Y A f c):qRA P Y B f c :=
 ⟨hc.1,fun ok w vs ds h1 h2 h3 h4=>hc.2 ok w vs ds h1 h2 h3 (fun hp=>h ds (h4 hp))⟩
theorem evA2:∀(ds:List D),KsOk (sig 2) ds->side 2 ds->zCA X side (obK 2) ds/\(deK 2).eval X ds=X 2 ds:=fun ds hk h=>by
 obtain @⟨⟩ | @⟨_,d1,_,_,k1,hk⟩:=hk;obtain @⟨⟩ | @⟨_,d2,_,_,k2,hk⟩:=hk;cases hk;obtain⟨x1,rfl⟩:=k1;obtain⟨x2,rfl⟩:=k2;have e:=ev2 x1 x2 0 h;exact⟨Obs.mono (fun _ _ h=>yOA h) _ _ e.1,e.2⟩
theorem evA3:∀(ds:List D),KsOk (sig 3) ds->side 3 ds->zCA X side (obK 3) ds/\(deK 3).eval X ds=X 3 ds:=fun ds hk h=>by
 obtain @⟨⟩ | @⟨_,d1,_,_,k1,hk⟩:=hk;obtain @⟨⟩ | @⟨_,d2,_,_,k2,hk⟩:=hk;cases hk;obtain⟨x1,rfl⟩:=k1;obtain⟨x2,rfl,w2⟩:=k2;have e:=ev3 x1 x2 0 h;exact⟨Obs.mono (fun _ _ h=>yOA h) _ _ e.1,e.2⟩
theorem evA4:∀(ds:List D),KsOk (sig 4) ds->side 4 ds->zCA X side (obK 4) ds/\(deK 4).eval X ds=X 4 ds:=fun ds hk h=>by
 obtain @⟨⟩ | @⟨_,d1,_,_,k1,hk⟩:=hk;obtain @⟨⟩ | @⟨_,d2,_,_,k2,hk⟩:=hk;cases hk;obtain⟨x1,rfl⟩:=k1;obtain⟨x2,rfl,w2⟩:=k2;have e:=ev4 x1 x2 0 h;exact⟨Obs.mono (fun _ _ h=>yOA h) _ _ e.1,e.2⟩
theorem evA5:∀(ds:List D),KsOk (sig 5) ds->side 5 ds->zCA X side (obK 5) ds/\(deK 5).eval X ds=X 5 ds:=fun ds hk h=>by
 obtain @⟨⟩ | @⟨_,d1,_,_,k1,hk⟩:=hk;obtain @⟨⟩ | @⟨_,d2,_,_,k2,hk⟩:=hk;cases hk;obtain⟨x1,rfl⟩:=k1;obtain⟨x2,rfl,w2⟩:=k2;have e:=ev5 x1 x2 0 h;exact⟨Obs.mono (fun _ _ h=>yOA h) _ _ e.1,e.2⟩
theorem evA6:∀(ds:List D),KsOk (sig 6) ds->side 6 ds->zCA X side (obK 6) ds/\(deK 6).eval X ds=X 6 ds:=fun ds hk h=>by
 obtain @⟨⟩ | @⟨_,d1,_,_,k1,hk⟩:=hk;obtain @⟨⟩ | @⟨_,d2,_,_,k2,hk⟩:=hk;cases hk;obtain⟨x1,rfl⟩:=k1;obtain⟨x2,rfl,w2⟩:=k2;have e:=ev6 x1 x2 0 h;exact⟨Obs.mono (fun _ _ h=>yOA h) _ _ e.1,e.2⟩
theorem evA7:∀(ds:List D),KsOk (sig 7) ds->side 7 ds->zCA X side (obK 7) ds/\(deK 7).eval X ds=X 7 ds:=fun ds hk h=>by
 obtain @⟨⟩ | @⟨_,d1,_,_,k1,hk⟩:=hk;obtain @⟨⟩ | @⟨_,d2,_,_,k2,hk⟩:=hk;cases hk;obtain⟨x1,rfl⟩:=k1;obtain⟨x2,rfl,w2⟩:=k2;have e:=ev7 x1 x2 0 h;exact⟨Obs.mono (fun _ _ h=>yOA h) _ _ e.1,e.2⟩
theorem evA10:∀(ds:List D),KsOk (sig 10) ds->side 10 ds->zCA X side (obK 10) ds/\(deK 10).eval X ds=X 10 ds:=fun ds hk h=>by
 obtain @⟨⟩ | @⟨_,d1,_,_,k1,hk⟩:=hk;obtain @⟨⟩ | @⟨_,d2,_,_,k2,hk⟩:=hk;cases hk;obtain⟨x1,rfl⟩:=k1;obtain⟨x2,rfl,w2⟩:=k2;have e:=ev10 x1 x2 0 (xUJ w2).1 (xUJ w2).2 h;exact⟨Obs.mono (fun _ _ h=>yOA h) _ _ e.1,e.2⟩
theorem evA11:∀(ds:List D),KsOk (sig 11) ds->side 11 ds->zCA X side (obK 11) ds/\(deK 11).eval X ds=X 11 ds:=fun ds hk h=>by
 obtain @⟨⟩ | @⟨_,d1,_,_,k1,hk⟩:=hk;obtain @⟨⟩ | @⟨_,d2,_,_,k2,hk⟩:=hk;cases hk;obtain⟨x1,rfl⟩:=k1;obtain⟨x2,rfl⟩:=k2;have e:=ev11 x1 x2 0 h;exact⟨Obs.mono (fun _ _ h=>yOA h) _ _ e.1,e.2⟩
theorem evA12:∀(ds:List D),KsOk (sig 12) ds->side 12 ds->zCA X side (obK 12) ds/\(deK 12).eval X ds=X 12 ds:=fun ds hk h=>by
 obtain @⟨⟩ | @⟨_,d1,_,_,k1,hk⟩:=hk;obtain @⟨⟩ | @⟨_,d2,_,_,k2,hk⟩:=hk;cases hk;obtain⟨x1,rfl⟩:=k1;obtain⟨x2,rfl⟩:=k2;have e:=ev12 x1 x2 0 h;exact⟨Obs.mono (fun _ _ h=>yOA h) _ _ e.1,e.2⟩
theorem evA13:∀(ds:List D),KsOk (sig 13) ds->side 13 ds->zCA X side (obK 13) ds/\(deK 13).eval X ds=X 13 ds:=fun ds hk h=>by
 obtain @⟨⟩ | @⟨_,d1,_,_,k1,hk⟩:=hk;obtain @⟨⟩ | @⟨_,d2,_,_,k2,hk⟩:=hk;cases hk;obtain⟨x1,rfl⟩:=k1;obtain⟨x2,rfl⟩:=k2;have e:=ev13 x1 x2 0 h;exact⟨Obs.mono (fun _ _ h=>yOA h) _ _ e.1,e.2⟩
theorem evA14:∀(ds:List D),KsOk (sig 14) ds->side 14 ds->zCA X side (obK 14) ds/\(deK 14).eval X ds=X 14 ds:=fun ds hk h=>by
 obtain @⟨⟩ | @⟨_,d1,_,_,k1,hk⟩:=hk;obtain @⟨⟩ | @⟨_,d2,_,_,k2,hk⟩:=hk;cases hk;obtain⟨x1,rfl⟩:=k1;obtain⟨x2,rfl⟩:=k2;have e:=ev14 x1 x2 0 h;exact⟨Obs.mono (fun _ _ h=>yOA h) _ _ e.1,e.2⟩
theorem evA15:∀(ds:List D),KsOk (sig 15) ds->side 15 ds->zCA X side (obK 15) ds/\(deK 15).eval X ds=X 15 ds:=fun ds hk h=>by
 obtain @⟨⟩ | @⟨_,d1,_,_,k1,hk⟩:=hk;obtain @⟨⟩ | @⟨_,d2,_,_,k2,hk⟩:=hk;cases hk;obtain⟨x1,rfl⟩:=k1;obtain⟨x2,rfl⟩:=k2;have e:=ev15 x1 x2 0 h;exact⟨Obs.mono (fun _ _ h=>yOA h) _ _ e.1,e.2⟩
theorem evA17:∀(ds:List D),KsOk (sig 17) ds->side 17 ds->zCA X side (obK 17) ds/\(deK 17).eval X ds=X 17 ds:=fun ds hk h=>by
 obtain @⟨⟩ | @⟨_,d1,_,_,k1,hk⟩:=hk;obtain @⟨⟩ | @⟨_,d2,_,_,k2,hk⟩:=hk;cases hk;obtain⟨x1,rfl⟩:=k1;obtain⟨x2,rfl⟩:=k2;have e:=ev17 x1 x2 0 h;exact⟨Obs.mono (fun _ _ h=>yOA h) _ _ e.1,e.2⟩
theorem evA19:∀(ds:List D),KsOk (sig 19) ds->side 19 ds->zCA X side (obK 19) ds/\(deK 19).eval X ds=X 19 ds:=fun ds hk h=>by
 obtain @⟨⟩ | @⟨_,d1,_,_,k1,hk⟩:=hk;obtain @⟨⟩ | @⟨_,d2,_,_,k2,hk⟩:=hk;cases hk;obtain⟨x1,rfl⟩:=k1;obtain⟨x2,rfl,w2⟩:=k2;have e:=ev19 x1 x2 0 h;exact⟨Obs.mono (fun _ _ h=>yOA h) _ _ e.1,e.2⟩
theorem evA20:∀(ds:List D),KsOk (sig 20) ds->side 20 ds->zCA X side (obK 20) ds/\(deK 20).eval X ds=X 20 ds:=fun ds hk h=>by
 obtain @⟨⟩ | @⟨_,d1,_,_,k1,hk⟩:=hk;obtain @⟨⟩ | @⟨_,d2,_,_,k2,hk⟩:=hk;cases hk;obtain⟨x1,rfl⟩:=k1;obtain⟨x2,rfl,w2⟩:=k2;have e:=ev20 x1 x2 0 h;exact⟨Obs.mono (fun _ _ h=>yOA h) _ _ e.1,e.2⟩
theorem evA21:∀(ds:List D),KsOk (sig 21) ds->side 21 ds->zCA X side (obK 21) ds/\(deK 21).eval X ds=X 21 ds:=fun ds hk h=>by
 obtain @⟨⟩ | @⟨_,d1,_,_,k1,hk⟩:=hk;obtain @⟨⟩ | @⟨_,d2,_,_,k2,hk⟩:=hk;obtain @⟨⟩ | @⟨_,d3,_,_,k3,hk⟩:=hk;cases hk;obtain⟨x1,rfl⟩:=k1;obtain⟨x2,rfl,w2⟩:=k2;obtain⟨x3,rfl⟩:=k3;have e:=ev21 x1 x2 x3 0 h;exact⟨Obs.mono (fun _ _ h=>yOA h) _ _ e.1,e.2⟩
theorem evA22:∀(ds:List D),KsOk (sig 22) ds->side 22 ds->zCA X side (obK 22) ds/\(deK 22).eval X ds=X 22 ds:=fun ds hk h=>by
 obtain @⟨⟩ | @⟨_,d1,_,_,k1,hk⟩:=hk;obtain @⟨⟩ | @⟨_,d2,_,_,k2,hk⟩:=hk;obtain @⟨⟩ | @⟨_,d3,_,_,k3,hk⟩:=hk;cases hk;obtain⟨x1,rfl⟩:=k1;obtain⟨x2,rfl,w2⟩:=k2;obtain⟨x3,rfl⟩:=k3;have e:=ev22 x1 x2 x3 0 h;exact⟨Obs.mono (fun _ _ h=>yOA h) _ _ e.1,e.2⟩
theorem evA29:∀(ds:List D),KsOk (sig 29) ds->side 29 ds->zCA X side (obK 29) ds/\(deK 29).eval X ds=X 29 ds:=fun ds hk h=>by
 obtain @⟨⟩ | @⟨_,d1,_,_,k1,hk⟩:=hk;obtain @⟨⟩ | @⟨_,d2,_,_,k2,hk⟩:=hk;cases hk;obtain⟨x1,rfl⟩:=k1;obtain⟨x2,rfl,w2⟩:=k2;have e:=ev29 x1 x2 0 h;exact⟨Obs.mono (fun _ _ h=>yOA h) _ _ e.1,e.2⟩
theorem evA30:∀(ds:List D),KsOk (sig 30) ds->side 30 ds->zCA X side (obK 30) ds/\(deK 30).eval X ds=X 30 ds:=fun ds hk h=>by
 obtain @⟨⟩ | @⟨_,d1,_,_,k1,hk⟩:=hk;obtain @⟨⟩ | @⟨_,d2,_,_,k2,hk⟩:=hk;cases hk;obtain⟨x1,rfl⟩:=k1;obtain⟨x2,rfl,w2⟩:=k2;have e:=ev30 x1 x2 0 h;exact⟨Obs.mono (fun _ _ h=>yOA h) _ _ e.1,e.2⟩
theorem evA31:∀(ds:List D),KsOk (sig 31) ds->side 31 ds->zCA X side (obK 31) ds/\(deK 31).eval X ds=X 31 ds:=fun ds hk h=>by
 obtain @⟨⟩ | @⟨_,d1,_,_,k1,hk⟩:=hk;cases hk;obtain⟨x1,rfl,w1⟩:=k1;have e:=ev31 x1 0 (xUJ w1).1 (xUJ w1).2;exact⟨Obs.mono (fun _ _ h=>yOA h) _ _ e.1,e.2⟩
theorem evA40:∀(ds:List D),KsOk (sig 40) ds->side 40 ds->zCA X side (obK 40) ds/\(deK 40).eval X ds=X 40 ds:=fun ds hk h=>by
 obtain @⟨⟩ | @⟨_,d1,_,_,k1,hk⟩:=hk;obtain @⟨⟩ | @⟨_,d2,_,_,k2,hk⟩:=hk;cases hk;obtain⟨x1,rfl⟩:=k1;obtain⟨x2,rfl,w2⟩:=k2;have e:=ev40 x1 x2 h 0;exact⟨Obs.mono (fun _ _ h=>yOA h) _ _ e.1,e.2⟩
theorem evA41:∀(ds:List D),KsOk (sig 41) ds->side 41 ds->zCA X side (obK 41) ds/\(deK 41).eval X ds=X 41 ds:=fun ds hk h=>by
 obtain @⟨⟩ | @⟨_,d1,_,_,k1,hk⟩:=hk;obtain @⟨⟩ | @⟨_,d2,_,_,k2,hk⟩:=hk;cases hk;obtain⟨x1,rfl⟩:=k1;obtain⟨x2,rfl⟩:=k2;have e:=ev41 x1 x2 0 (by rw[qXG,zLA] at h;exact h);exact⟨Obs.mono (fun _ _ h=>yOA h) _ _ e.1,e.2⟩
theorem evR44(n:Nat):∀(ds:List D),KsOk (sig 44) ds->Pre (n+1) 44 ds->zCA X (Pre n) (obK 44) ds/\(deK 44).eval X ds=X 44 ds:=fun ds hk h=>by
 obtain @⟨⟩ | @⟨_,d1,_,_,k1,hk⟩:=hk;cases hk;obtain⟨x1,rfl⟩:=k1;exact ev44 x1 n h
theorem evA45:∀(ds:List D),KsOk (sig 45) ds->side 45 ds->zCA X side (obK 45) ds/\(deK 45).eval X ds=X 45 ds:=fun ds hk h=>by
 obtain @⟨⟩ | @⟨_,d1,_,_,k1,hk⟩:=hk;obtain @⟨⟩ | @⟨_,d2,_,_,k2,hk⟩:=hk;cases hk;obtain⟨x1,rfl,w1⟩:=k1;obtain⟨x2,rfl,w2⟩:=k2;have e:=ev45 x1 x2 0 (by rw[zSD] at h;exact h.1) (by rw[zSD] at h;exact h.2);exact⟨Obs.mono (fun _ _ h=>yOA h) _ _ e.1,e.2⟩
theorem evA46:∀(ds:List D),KsOk (sig 46) ds->side 46 ds->zCA X side (obK 46) ds/\(deK 46).eval X ds=X 46 ds:=fun ds hk h=>by
 obtain @⟨⟩ | @⟨_,d1,_,_,k1,hk⟩:=hk;cases hk;obtain⟨x1,rfl,w1⟩:=k1;have e:=ev46 x1 (wf_u64 w1).1 (wf_u64 w1).2 0;exact⟨Obs.mono (fun _ _ h=>yOA h) _ _ e.1,e.2⟩
theorem evR47(n:Nat):∀(ds:List D),KsOk (sig 47) ds->Pre (n+1) 47 ds->zCA X (Pre n) (obK 47) ds/\(deK 47).eval X ds=X 47 ds:=fun ds hk h=>by
 obtain @⟨⟩ | @⟨_,d1,_,_,k1,hk⟩:=hk;obtain @⟨⟩ | @⟨_,d2,_,_,k2,hk⟩:=hk;obtain @⟨⟩ | @⟨_,d3,_,_,k3,hk⟩:=hk;obtain @⟨⟩ | @⟨_,d4,_,_,k4,hk⟩:=hk;cases hk;obtain⟨x1,rfl⟩:=k1;obtain⟨x2,rfl,w2⟩:=k2;obtain⟨x3,rfl⟩:=k3;obtain⟨x4,rfl⟩:=k4;exact ev47 (fs:=x1) (v:=x2) (x:=x3) (t:=x4) n h
theorem evR48(n:Nat):∀(ds:List D),KsOk (sig 48) ds->Pre (n+1) 48 ds->zCA X (Pre n) (obK 48) ds/\(deK 48).eval X ds=X 48 ds:=fun ds hk h=>by
 obtain @⟨⟩ | @⟨_,d1,_,_,k1,hk⟩:=hk;obtain @⟨⟩ | @⟨_,d2,_,_,k2,hk⟩:=hk;obtain @⟨⟩ | @⟨_,d3,_,_,k3,hk⟩:=hk;obtain @⟨⟩ | @⟨_,d4,_,_,k4,hk⟩:=hk;obtain @⟨⟩ | @⟨_,d5,_,_,k5,hk⟩:=hk;obtain @⟨⟩ | @⟨_,d6,_,_,k6,hk⟩:=hk;cases hk;obtain⟨x1,rfl,w1⟩:=k1;obtain⟨x2,rfl⟩:=k2;obtain⟨x3,rfl⟩:=k3;obtain⟨x4,rfl,w4⟩:=k4;obtain⟨x5,rfl⟩:=k5;obtain⟨x6,rfl⟩:=k6;exact ev48 x1 x2 x3 x4 x5 x6 n h
theorem evR49(n:Nat):∀(ds:List D),KsOk (sig 49) ds->Pre (n+1) 49 ds->zCA X (Pre n) (obK 49) ds/\(deK 49).eval X ds=X 49 ds:=fun ds hk h=>by
 obtain @⟨⟩ | @⟨_,d1,_,_,k1,hk⟩:=hk;obtain @⟨⟩ | @⟨_,d2,_,_,k2,hk⟩:=hk;obtain @⟨⟩ | @⟨_,d3,_,_,k3,hk⟩:=hk;obtain @⟨⟩ | @⟨_,d4,_,_,k4,hk⟩:=hk;cases hk;obtain⟨x1,rfl⟩:=k1;obtain⟨x2,rfl,w2⟩:=k2;obtain⟨x3,rfl⟩:=k3;obtain⟨x4,rfl⟩:=k4;exact ev49 x1 x2 x3 x4 n h
theorem evR50(n:Nat):∀(ds:List D),KsOk (sig 50) ds->Pre (n+1) 50 ds->zCA X (Pre n) (obK 50) ds/\(deK 50).eval X ds=X 50 ds:=fun ds hk h=>by
 obtain @⟨⟩ | @⟨_,d1,_,_,k1,hk⟩:=hk;obtain @⟨⟩ | @⟨_,d2,_,_,k2,hk⟩:=hk;cases hk;obtain⟨x1,rfl⟩:=k1;obtain⟨x2,rfl⟩:=k2;exact ev50 x1 x2 n h
theorem evA51:∀(ds:List D),KsOk (sig 51) ds->side 51 ds->zCA X side (obK 51) ds/\(deK 51).eval X ds=X 51 ds:=fun ds hk h=>by
 obtain @⟨⟩ | @⟨_,d1,_,_,k1,hk⟩:=hk;cases hk;obtain⟨x1,rfl⟩:=k1;have e:=ev51 x1 (by rw[qDI,zLA] at h;exact h) 0;exact⟨Obs.mono (fun _ _ h=>yOA h) _ _ e.1,e.2⟩
theorem evA52:∀(ds:List D),KsOk (sig 52) ds->side 52 ds->zCA X side (obK 52) ds/\(deK 52).eval X ds=X 52 ds:=fun ds hk h=>by
 obtain @⟨⟩ | @⟨_,d1,_,_,k1,hk⟩:=hk;obtain @⟨⟩ | @⟨_,d2,_,_,k2,hk⟩:=hk;cases hk;obtain⟨x1,rfl⟩:=k1;obtain⟨x2,rfl⟩:=k2;have e:=ev52 x1 x2 0;exact⟨Obs.mono (fun _ _ h=>yOA h) _ _ e.1,e.2⟩
theorem evA53:∀(ds:List D),KsOk (sig 53) ds->side 53 ds->zCA X side (obK 53) ds/\(deK 53).eval X ds=X 53 ds:=fun ds hk h=>by
 obtain @⟨⟩ | @⟨_,d1,_,_,k1,hk⟩:=hk;obtain @⟨⟩ | @⟨_,d2,_,_,k2,hk⟩:=hk;obtain @⟨⟩ | @⟨_,d3,_,_,k3,hk⟩:=hk;obtain @⟨⟩ | @⟨_,d4,_,_,k4,hk⟩:=hk;cases hk;obtain⟨x1,rfl⟩:=k1;obtain⟨x2,rfl⟩:=k2;obtain⟨x3,rfl,w3⟩:=k3;obtain⟨x4,rfl,w4⟩:=k4;have e:=ev53 x1 x2 x3 x4 0 (by rw[xKE] at h;exact h.1) (by rw[xKE] at h;exact h.2.1) (by rw[xKE] at h;exact h.2.2);exact⟨Obs.mono (fun _ _ h=>yOA h) _ _ e.1,e.2⟩
theorem evA54:∀(ds:List D),KsOk (sig 54) ds->side 54 ds->zCA X side (obK 54) ds/\(deK 54).eval X ds=X 54 ds:=fun ds hk h=>by
 obtain @⟨⟩ | @⟨_,d1,_,_,k1,hk⟩:=hk;cases hk;obtain⟨x1,rfl⟩:=k1;have e:=ev54 x1 0;exact⟨Obs.mono (fun _ _ h=>yOA h) _ _ e.1,e.2⟩
theorem evA55:∀(ds:List D),KsOk (sig 55) ds->side 55 ds->zCA X side (obK 55) ds/\(deK 55).eval X ds=X 55 ds:=fun ds hk h=>by
 obtain @⟨⟩ | @⟨_,d1,_,_,k1,hk⟩:=hk;cases hk;obtain⟨x1,rfl,w1⟩:=k1;exact⟨trivial,ev55 x1⟩
theorem evA56:∀(ds:List D),KsOk (sig 56) ds->side 56 ds->zCA X side (obK 56) ds/\(deK 56).eval X ds=X 56 ds:=fun ds hk h=>by
 obtain @⟨⟩ | @⟨_,d1,_,_,k1,hk⟩:=hk;obtain @⟨⟩ | @⟨_,d2,_,_,k2,hk⟩:=hk;obtain @⟨⟩ | @⟨_,d3,_,_,k3,hk⟩:=hk;cases hk;obtain⟨x1,rfl⟩:=k1;obtain⟨x2,rfl,w2⟩:=k2;obtain⟨x3,rfl⟩:=k3;exact⟨trivial,ev56 x1 x2 x3⟩
theorem evA57:∀(ds:List D),KsOk (sig 57) ds->side 57 ds->zCA X side (obK 57) ds/\(deK 57).eval X ds=X 57 ds:=fun ds hk h=>by
 obtain @⟨⟩ | @⟨_,d1,_,_,k1,hk⟩:=hk;obtain @⟨⟩ | @⟨_,d2,_,_,k2,hk⟩:=hk;cases hk;obtain⟨x1,rfl⟩:=k1;obtain⟨x2,rfl,w2⟩:=k2;exact⟨trivial,ev57 x1 x2⟩
theorem evA58:∀(ds:List D),KsOk (sig 58) ds->side 58 ds->zCA X side (obK 58) ds/\(deK 58).eval X ds=X 58 ds:=fun ds hk h=>by
 obtain @⟨⟩ | @⟨_,d1,_,_,k1,hk⟩:=hk;obtain @⟨⟩ | @⟨_,d2,_,_,k2,hk⟩:=hk;cases hk;obtain⟨x1,rfl,w1⟩:=k1;obtain⟨x2,rfl,w2⟩:=k2;have e:=ev58 x1 x2 0 (wf_u8 w1).1 (wf_u8 w1).2 (by rw[qEI] at h;exact h.2.1) (by rw[qEI] at h;exact h.2.2);exact⟨Obs.mono (fun _ _ h=>yOA h) _ _ e.1,e.2⟩
theorem evA59:∀(ds:List D),KsOk (sig 59) ds->side 59 ds->zCA X side (obK 59) ds/\(deK 59).eval X ds=X 59 ds:=fun ds hk h=>by
 obtain @⟨⟩ | @⟨_,d1,_,_,k1,hk⟩:=hk;obtain @⟨⟩ | @⟨_,d2,_,_,k2,hk⟩:=hk;obtain @⟨⟩ | @⟨_,d3,_,_,k3,hk⟩:=hk;cases hk;obtain⟨x1,y1,rfl⟩:=k1;obtain⟨x2,rfl,w2⟩:=k2;obtain⟨x3,rfl⟩:=k3;have e:=ev59 x1 y1 x2 x3 (3*wFs x1+1) h (by omega);exact⟨Obs.mono (fun _ _ h=>yOA h) _ _ e.1,e.2⟩
theorem evA(k:Nat)(hk:known? k=true)(hr:yRA k=false):∀(ds:List D),KsOk (sig k) ds->side k ds->zCA X side (obK k) ds/\(deK k).eval X ds=X k ds:=by
 unfold known? at hk;split at hk
 ·exact evA2
 ·exact evA3
 ·exact evA4
 ·exact evA5
 ·exact evA6
 ·exact evA7
 ·exact evA10
 ·exact evA11
 ·exact evA12
 ·exact evA13
 ·exact evA14
 ·exact evA15
 ·exact evA17
 ·exact evA19
 ·exact evA20
 ·exact evA21
 ·exact evA22
 ·exact evA29
 ·exact evA30
 ·exact evA31
 ·exact evA40
 ·exact evA41
 ·simp[yRA] at hr
 ·exact evA45
 ·exact evA46
 ·simp[yRA] at hr
 ·simp[yRA] at hr
 ·simp[yRA] at hr
 ·simp[yRA] at hr
 ·exact evA51
 ·exact evA52
 ·exact evA53
 ·exact evA54
 ·exact evA55
 ·exact evA56
 ·exact evA57
 ·exact evA58
 ·exact evA59
 ·cases hk
theorem evR(k:Nat)(hk:known? k=true)(hr:yRA k=true)(n:Nat):∀(ds:List D),KsOk (sig k) ds->Pre (n+1) k ds->zCA X (Pre n) (obK k) ds/\(deK k).eval X ds=X k ds:=by
 unfold known? at hk;split at hk
 ·simp[yRA] at hr
 ·simp[yRA] at hr
 ·simp[yRA] at hr
 ·simp[yRA] at hr
 ·simp[yRA] at hr
 ·simp[yRA] at hr
 ·simp[yRA] at hr
 ·simp[yRA] at hr
 ·simp[yRA] at hr
 ·simp[yRA] at hr
 ·simp[yRA] at hr
 ·simp[yRA] at hr
 ·simp[yRA] at hr
 ·simp[yRA] at hr
 ·simp[yRA] at hr
 ·simp[yRA] at hr
 ·simp[yRA] at hr
 ·simp[yRA] at hr
 ·simp[yRA] at hr
 ·simp[yRA] at hr
 ·simp[yRA] at hr
 ·simp[yRA] at hr
 ·exact evR44 n
 ·simp[yRA] at hr
 ·simp[yRA] at hr
 ·exact evR47 n
 ·exact evR48 n
 ·exact evR49 n
 ·exact evR50 n
 ·simp[yRA] at hr
 ·simp[yRA] at hr
 ·simp[yRA] at hr
 ·simp[yRA] at hr
 ·simp[yRA] at hr
 ·simp[yRA] at hr
 ·simp[yRA] at hr
 ·simp[yRA] at hr
 ·simp[yRA] at hr
 ·cases hk
def ctrs(tab:List (Nat×Ctr))(r:Nat)(f:FuncId):Option Ctr :=
 match lk f tab with
 | some c=>if rank c.fn<r || (r==5&&yRA c.fn) then some c else none
 | none=>none
def noRd:RK->Bool
 | .rd _ m=>m
 | _=>true
theorem zGE{c:Ctr}(h:noRd c.res=true)(d:D):GoodR c d:=fun t ht=>by rw[ht] at h;cases h
def yTL(P:Program)(tab:List (Nat×Ctr))(f:FuncId)(c:Ctr):Bool :=
 match P.funcs[f]? with
 | some fn =>
  match runF ⟨P,ctrs tab (rank c.fn),fun _ _ _=>none⟩ 100000 8 c fn with
  | some (d,os)=>noRd c.res&&(d.beq (deK c.fn)&&qAC os (obK c.fn))
  | none=>false
 | none=>false
def ctrOk?(P:Program)(tab:List (Nat×Ctr))(f:FuncId)(c:Ctr):Bool :=
 known? c.fn&&areA P (sig c.fn) c.args&&c.pre&&yTL P tab f c
theorem rank5{k:Nat}(hk:known? k=true):rank k=5↔yRA k=true:=by
 unfold known? at hk;split at hk
 all_goals first|cases hk;done|decide
theorem zOF{tab:List (Nat×Ctr)}{r:Nat}{f:FuncId}{c:Ctr}(h:ctrs tab r f=some c):lk f tab=some c/\(rank c.fn<r∨(r=5/\yRA c.fn=true)):=by
 unfold ctrs at h;split at h
 ·rename_i c' hc;split at h
  ·rename_i hb;cases h;simp only[Bool.or_eq_true,dtZ,baZ,beq_iff_eq] at hb;exact⟨hc,hb⟩
  ·cases h
 ·cases h
theorem zUL{P:Program}{A B:Nat->List D->Prop}{tab:List (Nat×Ctr)}(hnm:xJA P)(hord:P.follows .mixedOrders=true){f:FuncId}{c:Ctr}(hrun:yTL P tab f c=true)(hsig:areA P (sig c.fn) c.args=true)(hpre:c.pre=true)
  (hc:∀g d,ctrs tab (rank c.fn) g=some d->qRA P X A g d) (hX:∀ds,KsOk (sig c.fn) ds->B c.fn ds->zCA X A (obK c.fn) ds/\(deK c.fn).eval X ds=X c.fn ds):qRA P X B f c:=by
 unfold yTL at hrun;split at hrun
 rotate_left
 ·cases hrun
 rename_i fn hf;split at hrun
 rotate_left
 ·cases hrun
 rename_i d os hr;simp only[baZ] at hrun;have e1:=DE.beq_eq hrun.2.1;have e2:=xTB hrun.2.2;subst e1;subst e2
 exact qPC (C:=⟨P,ctrs tab (rank c.fn),fun _ _ _=>none⟩) hnm hord hc hf hr (fun ok w vs ds hA hp=>by
  obtain⟨q1,q2⟩:=hX ds (zHF hsig hA) (hp hpre);exact⟨q1,q2,zGE hrun.1 _⟩)
theorem tab_ok{P:Program}{tab:List (Nat×Ctr)}{hand:Nat->Bool}(hnm:xJA P)(hord:P.follows .mixedOrders=true)
  (hh:∀f c,lk f tab=some c->hand c.fn=true->qRA P X side f c) (hchk:∀f c,lk f tab=some c->hand c.fn=false->ctrOk? P tab f c=true) (hhr:∀k,hand k=true->yRA k=false):∀r f c,lk f tab=some c->rank c.fn=r->qRA P X side f c:=by
 intro r
 induction r using Nat.strongRecOn with
 | ind r ih =>
  intro f c hl hr;cases hx:hand c.fn with
  | true=>exact hh f c hl hx
  | false =>
   have h:=hchk f c hl hx;unfold ctrOk? at h;simp only[baZ] at h;obtain⟨⟨⟨hk,hsig⟩,hpre⟩,hrun⟩:=h;cases hrec:yRA c.fn with
   | false =>
    refine zUL hnm hord hrun hsig hpre (A:=side) (fun g d hg=>?_) (evA c.fn hk hrec);obtain⟨h1,h2⟩:=zOF hg;rcases h2 with h2|⟨h2,_⟩
    ·exact ih _ (by omega) g d h1 rfl
    ·have:=(rank5 hk).1 h2
     rw[hrec] at this;cases this
   | true =>
    have h5:r=5:=by rw[<- hr];exact(rank5 hk).2 hrec
    have main:∀n f c,lk f tab=some c->known? c.fn=true->yRA c.fn=true->areA P (sig c.fn) c.args=true->c.pre=true->yTL P tab f c=true->qRA P X (Pre n) f c:=by
     intro n
     induction n with
     | zero =>
      intro f c hl hk hrec hsig hpre hrun;refine zUL hnm hord hrun hsig hpre (A:=fun _ _=>False) (fun g d hg=>?_) (fun ds _ hB=>?_)
      ·have hg':=zOF hg;have hdx:hand d.fn=false∨hand d.fn=true:=by cases hand d.fn <;> simp
       have hex:∃fn b,P.funcs[g]? = some fn/\fn.body=some b/\d.pre=true∨qRA P X side g d:=by
        rcases hdx with hdx|hdx
        ·have h:=hchk g d hg'.1 hdx;unfold ctrOk? at h;simp only[baZ] at h;obtain⟨⟨⟨_,_⟩,hp⟩,hr⟩:=h;unfold yTL at hr;split at hr
         ·rename_i fn hf;split at hr
          ·rename_i d' os hr';unfold runF at hr';split at hr'
           ·rename_i body q hb _;exact⟨fn,body,.inl ⟨hf,hb,hp⟩⟩
           ·cases hr'
          ·cases hr
         ·cases hr
        ·have:=hh g d hg'.1 hdx
         obtain⟨fn,b,_,_⟩:=this.1;exact⟨fn,b,.inr this⟩
       obtain⟨fn,b,h|h⟩:=hex
       ·exact⟨⟨fn,b,h.1,h.2.1⟩,fun ok w vs ds _ _ _ h4=>(h4 h.2.2).elim⟩
       ·exact yBD (fun _ h=>h.elim) h
      ·exact absurd (hB.1 hrec) (by omega)
     | succ n ihn =>
      intro f c hl hk hrec hsig hpre hrun;refine zUL hnm hord hrun hsig hpre (A:=Pre n) (fun g d hg=>?_) (evR c.fn hk hrec n);obtain⟨h1,h2⟩:=zOF hg;have hr5:=(rank5 hk).2 hrec;by_cases hd:rank d.fn<5
      ·exact yBD (fun _ h=>h.2) (ih (rank d.fn) (by omega) g d h1 rfl)
      ·have hdr:yRA d.fn=true:=by
        rcases h2 with h2|h2
        ·omega
        ·exact h2.2
       cases hdx:hand d.fn with
       | true=>exact yBD (fun _ h=>h.2) (hh g d h1 hdx)
       | false =>
        have h:=hchk g d h1 hdx;unfold ctrOk? at h;simp only[baZ] at h;obtain⟨⟨⟨q1,q2⟩,q3⟩,q4⟩:=h;exact ihn g d h1 q1 hdr q2 q3 q4
    have hfin:=fun n=>main n f c hl hk hrec hsig hpre hrun
    refine⟨(hfin 0).1,fun ok w vs ds h1 h2 h3 h4=>?_⟩;exact(hfin (meas c.fn ds+1)).2 ok w vs ds h1 h2 h3 (fun hp=>⟨fun _=>by omega,h4 hp⟩)
theorem all_ok{P:Program}{tab:List (Nat×Ctr)}{hand:Nat->Bool}(hnm:xJA P)(hord:P.follows .mixedOrders=true)
  (hh:∀f c,lk f tab=some c->hand c.fn=true->qRA P X side f c) (hchk:∀f c,lk f tab=some c->hand c.fn=false->ctrOk? P tab f c=true) (hhr:∀k,hand k=true->yRA k=false):∀f c,lk f tab=some c->qRA P X side f c :=
 fun f c h=>tab_ok hnm hord hh hchk hhr _ f c h rfl
end Go.Mx
namespace Go.Dx
open Go
section
variable {P:Program} {X:Nat->List D->D} {Pre:Nat->List D->Prop} {J:List D}
theorem yKG{ks:List (Nat×Int)}{ds:List D}(hk:∀j k,lk j ks=some k->ds.getD j .nil = .int k)(g:Gh):∀(l:List SV) (i:Nat),dens X ds g (qBD ks i l)=dens X ds g l/\(oks X ds l->oks X ds (qBD ks i l))/\(qBD ks i l).length=l.length
 | [],i=>⟨rfl,id,rfl⟩
 | v::r,i=>by
  obtain⟨h1,h2,h3⟩:=yKG hk g r (i+1);have main:∀u:SV,qBD ks i (v::r)=u::qBD ks (i+1) r->u.den X ds g=v.den X ds g->(v.ok X ds->u.ok X ds)->dens X ds g (qBD ks i (v::r))=dens X ds g (v::r)/\(oks X ds (v::r)->oks X ds (qBD ks i (v::r)))/\(qBD ks i (v::r)).length=(v::r).length:=fun u e e1 e2=>by
   rw[e];refine⟨by simp only[dens];rw[e1,h1],fun h=>?_,by simp[h3]⟩;simp only[oks] at h ⊢;exact⟨e2 h.1,h2 h.2⟩
  simp only[qBD] at main ⊢;split at main
  ·rename_i t j;split at main
   ·rename_i k hj;refine main _ rfl ?_ (fun h=>?_)
    ·simp only[SV.den,DE.eval,hk j k hj]
    ·simp only[SV.ok,SV.okk] at h ⊢
     first
      | trivial
      | (have e:=hk j k hj;simp only[DE.eval] at h ⊢;rw[e] at h;exact h)
   ·exact main _ rfl rfl id
  ·exact main _ rfl rfl id
theorem xLD:∀(l:List SV) (i s:Nat) (sv:SV),l[s]? = some sv->lk (i+s) (qJC i l)=some sv
 | [],_,_,_,h=>by simp at h
 | x::l,i,0,sv,h=>by
  simp only[List.getElem?_cons_zero,Option.some.injEq] at h;subst h
  simp[qJC,xDA,yLA]
 | x::l,i,s+1,sv,h=>by
  simp only[List.getElem?_cons_succ] at h
  have:=xLD l (i+1) s sv h
  have hne:(i+(s+1)==i)=false:=by simp
  simp only[qJC,xDA,yLA,hne];rw[show i+(s+1)=i+1+s by omega];simpa using this
theorem zZK{ok:Nat->Prop}{w:World}{ks:List AK}{vs:List Value}{ds:List D}{nt:Nat}{q:Sa}{cs:List (Nat×Int)}(hq:yNA P 0 ks=some q)(ho:owns ks<=1)(hnt:ks.length<=nt)
  (h:ArgsOk P ok w ks vs ds) (hok:∀b,ok b->b<w.heap.size /\ ¬Wr w ks vs b) (hk:∀j k,lk j cs=some k->ds.getD j .nil = .int k)  (hgl:GlOk X (qEF ok w ks vs)):
  Mem P X (qEF ok w ks vs) ds (ySC ks.length { q with as:=qBD cs 0 q.as } nt) (qMA ok w ks vs) w/\Env X ds (ySC ks.length { q with as:=qBD cs 0 q.as } nt) (qMA ok w ks vs) { tmps:=vs.toArray++Array.replicate (nt-vs.toArray.size) undef,defers:=[] }:=by
 obtain⟨hm,he⟩:=qHH (X:=X) hq ho hnt h hok hgl;obtain⟨o1,o2,o3⟩:=yKG (X:=X) hk (qMA ok w ks vs) q.as 0;refine⟨hm.same rfl rfl rfl rfl,⟨fun s sv hs=>?_,he.df,he.sz⟩⟩;obtain⟨_,hs'⟩:=qSD (qBD cs 0 q.as) 0 s sv hs;rw[Nat.sub_zero] at hs';have hlt:s<q.as.length:=by rw[<- o3];exact(List.getElem?_eq_some_iff.1 hs').1
 have hu:q.as[s]? = some q.as[s]:=List.getElem?_eq_getElem hlt;have hl:=xLD q.as 0 s _ hu;rw[Nat.zero_add] at hl;obtain⟨t1,_⟩:=he.tm s _ hl;have e1:(dens X ds (qMA ok w ks vs) (qBD cs 0 q.as))[s]? = some (sv.den X ds (qMA ok w ks vs)):=by rw[zSA,List.getElem?_map,hs'];rfl
 have e2:(dens X ds (qMA ok w ks vs) q.as)[s]? = some (q.as[s].den X ds (qMA ok w ks vs)):=by rw[zSA,List.getElem?_map,hu];rfl
 rw[o1,e2] at e1;refine⟨by rw[<- Option.some.inj e1];exact t1,?_⟩;have hall:oks X ds q.as:=yFA.2 fun x hx=>by
  obtain⟨j,hj,hjx⟩:=List.mem_iff_getElem.1 hx
  have:=xLD q.as 0 j x (by rw[List.getElem?_eq_getElem hj,hjx])
  rw[Nat.zero_add] at this;exact(he.tm j x this).2
 exact yFA.1 (o2 hall) sv (List.mem_of_getElem? hs')
end
section
variable {X:Nat->List D->D} {Pre:Nat->List D->Prop}
theorem callK{C:Cfg}(hnm:xJA C.P)(hord:C.P.follows .mixedOrders=true)(hctr:∀f c,C.ctr f=some c->qRA C.P X Pre f c){n dp:Nat}{f:FuncId}{c:Ctr}{fn:Func}{de:DE}{os:List Ob}{ks:List (Nat×Int)}
  (hf:C.P.funcs[f]? = some fn) (hrun:runFK C n dp c fn ks=some (de,os)) {ok:Nat->Prop} {w:World} {vs:List Value} {ds:List D} (hA:ArgsOk C.P ok w c.args vs ds)
  (hok:∀b,ok b->b<w.heap.size /\ ¬Wr w c.args vs b) (hk:∀j k,lk j ks=some k->ds.getD j .nil = .int k) (hob:zCA X Pre os ds) (hde:de.eval X ds=X c.fn ds) (hgood:GoodR c (X c.fn ds)) (hgl:GlOk X (qEF ok w c.args vs):=by exact fun _ hk=>absurd rfl hk) :
  Calls C.P f vs.toArray w fun e w'=>∃v,e = .returned v/\Fr (Wr w c.args vs) w w'/\xKB C.P ok w w' c vs v (X c.fn ds):=by
 unfold runFK at hrun;split at hrun
 rotate_left
 ·cases hrun
 rename_i body q hbody hq;split at hrun
 rotate_left
 ·cases hrun
 rename_i hoc;simp only[baZ,dtZ] at hoc;obtain⟨hoo,hnt⟩:=hoc;split at hrun
 rotate_left
 ·cases hrun
 rename_i outs houts;split at hrun
 rotate_left
 ·cases hrun
 rename_i hall;split at hrun
 rotate_left
 ·cases hrun
 rename_i dl hdl;split at hrun
 rotate_left
 ·cases hrun
 rename_i d' o' htd hto;cases hrun;obtain⟨hm,he⟩:=zZK (X:=X) hq (zXL hoo) hnt hA hok hk hgl;have hsound:=ySE hnm hord hctr n dp;refine calls_of_wp hf hbody (zWA ?_);refine hsound.sound _ ds [body] _ outs _ w _ hm he houts (fun o ho hpc=>xFB hto hob (o.pc,o.st.obl) (List.mem_map.2 ⟨o,ho,rfl⟩) hpc) _ (fun o ho hpc g' w' a' k1 k2 k3=>?_);obtain⟨dd,hod,hdm⟩:=yYF hdl o ho;unfold outD at hod;split at hod
 rotate_left
 ·cases hod
 rename_i l hrs;obtain⟨d2,hd2,rfl⟩:=Option.map_eq_some_iff.1 hod;have hev:de.eval X ds=d2.eval X ds:=xEB htd _ hdm hpc;obtain⟨r1,r2⟩:=xRC k2 k3 hrs;have hfr:Fr (Wr w c.args vs) w w':=k2.fr;have hres:xKB C.P ok w w' c vs ((tupS l).den X ds g') (X c.fn ds):=by
  rw[<- hde,hev];have k1':Ext (ySC c.args.length q fn.ntmps) (qMA ok w c.args vs) o.st g':=⟨fun n vi hn=>k1.rv n vi hn,fun o cs ho=>k1.rb o cs ho⟩;exact ret_ok k2 hoo hq hA k1' r2 hd2 (fun t ht=>by rw[<- hev,hde];exact hgood t ht)
 have hpost:a'.defers=[] /\ ∃v,(results fn a'.tmps).run C.P w' = .ok v w'/\(∃v',Ending.returned v = .returned v'/\Fr (Wr w c.args vs) w w'/\xKB C.P ok w w' c vs v' (X c.fn ds)) :=
  ⟨k3.df,_,r1,_,rfl,hfr,hres⟩
 rcases qIC hall o ho with hx|hx
 ·rw[hx];exact hpost
 ·rw[hx];exact hpost
end
end Go.Dx
namespace Go.Mx
open Go Go.Dx
theorem qYG:∀ {l:List T},(∀x∈l,smT x=true)->smTl l=true
 | [],_=>rfl
 | x::l,h=>by
  simp only[smTl,baZ];exact⟨h x (by simp),qYG (fun y hy=>h y (by simp[hy]))⟩
mutual
def flE:Fl->DE
 | .mk k f t n g d o s=>.f .mkrow [.k (.int k),.k (.int f),.k (.int t),.k (.int n),.k (.int g),.k (.int d),.k (.int o),scE s]
def scE:Option (List Fl)->DE
 | none=>.k .nil
 | some l=>.f .mklist (flEs l)
def flEs:List Fl->List DE
 | []=>[]
 | f::r=>flE f::flEs r
end
mutual
theorem flE_eval(J:List D):∀f:Fl,(flE f).eval X J=f.d
 | .mk k f t n g d o s=>by
  simp only[flE,ev_f,zAA,zBA,ev_k,qTA,qVG J s,Fl.d]
theorem qVG(J:List D):∀s:Option (List Fl),(scE s).eval X J=encF s
 | none=>rfl
 | some l=>by simp only[scE,ev_f,yMC,yGH J l,encF]
theorem yGH(J:List D):∀l:List Fl,zDA X (flEs l) J=fds l
 | []=>rfl
 | f::r=>by simp only[flEs,zAA,flE_eval J f,yGH J r,fds]
end
structure Made (m:Nat) (fs:Option (List Fl)) (fx most:Int):Prop where
 wf:wfFs fs=true
 most0:0<=most
 most1:most<=1000
 made:∀(v:Int) (t:T),0<=v->v<=most->xAD t=true->(yPA fs v (zRA fx v) t).length<=lim->(X m [.int v,(given (FitS fs v t)).d]).asStr=yPA fs v (zRA fx v) t/\side m [.int v,(given (FitS fs v t)).d]
end Go.Mx
namespace Go.Mx
open Go Go.Dx
theorem zCF:∀ {l:List T},wfTl l=true ↔ ∀x∈l,wfT x=true
 | []=>by simp[wfTl]
 | a::l=>by simp[wfTl,zCF (l:=l)]
section
variable {P:Program} {ok:Nat->Prop} {w:World}
theorem isI_u32{n:Int}(h:(Lit.int .u32 n).wf=true):0<=n/\n<4294967296:=by
 simp[Lit.wf,IntKind.min,IntKind.max,IntKind.signed,IntKind.bits] at h;omega
theorem rep_tagW{t:TypeId}{v:Value}{x:Tg}(h:yOH P t=true)(hr:Rep P ok w t v x.d):wfTg x=true:=by
 unfold yOH at h;simp only[baZ] at h;obtain⟨ha,h⟩:=h;obtain⟨ds,hd,hlen,hcell⟩:=xMF ha hr;have hd':ds=[.int x.key,encB x.val]:=by simp only[Tg.d,D.row.injEq] at hd;exact hd.symm
 subst hd';split at h
 ·rename_i a b hty;simp only[baZ] at h;rw[hty] at hcell;obtain⟨v1,r1⟩:=hcell 0 a _ rfl rfl;obtain⟨n,hn,hw⟩:=ySB h.1 r1;cases hn
  have:=isI_u32 hw
  simp[wfTg,this]
 ·cases h
theorem yNL{t:TypeId}{v:Value}{l:Option (List Tg)}(h:yAG P t=true)(hr:Rep P ok w t v (encU l)):(l.getD []).all wfTg=true:=by
 unfold yAG at h;split at h
 ·rename_i e he;rcases ySJ he (yPH h) hr with hx|⟨ds,hx,hall⟩
  ·cases l with
   | none=>rfl
   | some l=>simp[encU] at hx
  ·cases l with
   | none=>rfl
   | some l =>
    simp only[encU,D.list.injEq] at hx;subst hx;refine List.all_eq_true.2 fun x hx=>?_
    obtain⟨v',hv⟩:=hall x.d (List.mem_map.2 ⟨x,hx,rfl⟩);exact rep_tagW h hv
 ·cases h
theorem yOL{t:TypeId}{v:Value}{d:D}(hr:Rep P ok w t v d):(yOC P t=true -> ∀x:T,d=x.d->wfT x=true) /\ ∀e,sl P t=some e->yOC P e=true -> ∀l,d=encT l->wfTo l=true:=by
 have noAgg:∀ {t:TypeId} {d:TypeDesc},P.underlying t=some d->zHA d=false -> ¬yOC P t=true:=fun hu hd h=>by
  obtain⟨d',hu',ha⟩:=zOH (yBG h);rw[hu] at hu';cases hu';rw[hd] at ha;cases ha
 have noSl:∀ {t e:TypeId} {d:TypeDesc},P.underlying t=some d->sl P t=some e->d = .slice e:=fun hu h=>by
  have:=xIL h
  rw[hu] at this;cases this;rfl
 induction hr with
 | int hu _=>exact⟨fun h=>absurd h (noAgg hu rfl),fun e he=>absurd (noSl hu he) (by simp)⟩
 | bool hu=>exact⟨fun h=>absurd h (noAgg hu rfl),fun e he=>absurd (noSl hu he) (by simp)⟩
 | str hu _=>exact⟨fun h=>absurd h (noAgg hu rfl),fun e he=>absurd (noSl hu he) (by simp)⟩
 | flt hu=>exact⟨fun h=>absurd h (noAgg hu rfl),fun e he=>absurd (noSl hu he) (by simp)⟩
 | snil hu =>
  refine⟨fun h=>absurd h (noAgg hu rfl),fun e he ht l hl=>?_⟩;cases l with
  | none=>rfl
  | some l=>simp[encT] at hl
 | bytes hu he8 _ _ _ _ =>
  refine⟨fun h=>absurd h (noAgg hu rfl),fun e he ht=>?_⟩
  have:=noSl hu he
  cases this;exact absurd ht (noAgg he8 rfl)
 | list hu he8 hi hok hlen hcap hmax hsz hc hr ih =>
  rename_i t' e' cap ad i vs ds;refine⟨fun h=>absurd h (noAgg hu rfl),fun e he ht l hl=>?_⟩
  have:=noSl hu he
  cases this;cases l with
  | none=>rfl
  | some l =>
   simp only[encT,D.list.injEq,yBC] at hl;subst hl;refine zCF.2 fun x hx=>?_
   obtain⟨j,hj,hjx⟩:=List.mem_iff_getElem.1 hx;have hj1:(l.map T.d)[j]? = some x.d:=by rw[List.getElem?_map,List.getElem?_eq_getElem hj,hjx];rfl
   have hj2:j<vs.length:=by simp at hlen;omega
   exact(ih j _ _ (List.getElem?_eq_getElem hj2) hj1).1 ht x rfl
 | row hu hd hlen hlen' h1 hr ih =>
  rename_i t' d' vs ds;refine⟨fun h x hx=>?_,fun e he ht=>?_⟩
  rotate_left
  ·have:=noSl hu he
   subst this;simp[zHA] at hd
  have h0:=h;unfold yOC at h;simp only[baZ] at h;obtain⟨ha,h⟩:=h;split at h
  ·rename_i a b c d'' e hty;simp only[baZ,dtZ] at h;obtain⟨⟨⟨⟨q1,q2⟩,q3⟩,q4⟩,q5⟩:=h;obtain⟨n,s,bb,l,u⟩:=x;simp only[T.d,D.row.injEq] at hx;subst hx;have cell:∀(j:Nat),j<5 -> ∃v',vs[j]? = some v':=fun j hj=>by
    have hj2:j<vs.length:=by rw[hlen,hty];exact hj
    exact⟨vs[j],List.getElem?_eq_getElem hj2⟩
   rw[hty] at hr ih;obtain⟨v1,r1⟩:=cell 0 (by omega);obtain⟨v4,r4⟩:=cell 3 (by omega);obtain⟨v5,r5⟩:=cell 4 (by omega);obtain⟨n',hn,hw⟩:=ySB q1 (hr 0 a v1 _ rfl r1 rfl);cases hn;have hl:=(ih 3 d'' v4 _ rfl r4 rfl).2 t' q4 h0 l rfl;have hu:=yNL q5 (hr 4 e v5 _ rfl r5 rfl);simp only[wfT,baZ];exact⟨⟨hw,hl⟩,hu⟩
  ·cases h
 | pnil hu=>exact⟨fun h=>absurd h (noAgg hu rfl),fun e he=>absurd (noSl hu he) (by simp)⟩
 | ptr hu _ _ _ _=>exact⟨fun h=>absurd h (noAgg hu rfl),fun e he=>absurd (noSl hu he) (by simp)⟩
 | mnil hu=>exact⟨fun h=>absurd h (noAgg hu rfl),fun e he=>absurd (noSl hu he) (by simp)⟩
 | map hu _ _ _ _ _ _ _ _ _ _=>exact⟨fun h=>absurd h (noAgg hu rfl),fun e he=>absurd (noSl hu he) (by simp)⟩
end
end Go.Mx
namespace Go.Mx
open Go Go.Dx
theorem yHD(x:Tg):∀(l:List Tg) (y:Tg),y∈xEA x l->y=x∨y∈l
 | [],y,h=>by simp[xEA] at h;exact .inl h
 | t::r,y,h=>by
  simp only[xEA] at h;split at h
  ·rcases List.mem_cons.1 h with rfl|h
   ·simp
   ·rcases yHD x r y h with h|h
    ·exact .inl h
    ·exact .inr (by simp[h])
  ·split at h
   ·exact .inr h
   ·rcases List.mem_cons.1 h with h|h
    ·exact .inl h
    ·exact .inr h
theorem zYG(x:Tg):∀(l:List Tg),SrtT l->SrtT (xEA x l)
 | [],_=>by simp[xEA,SrtT]
 | t::r,h=>by
  obtain⟨h1,h2⟩:=List.pairwise_cons.1 h;simp only[xEA];split
  ·rename_i hlt;refine List.pairwise_cons.2 ⟨fun y hy=>?_,zYG x r h2⟩;rcases yHD x r y hy with rfl|hy
   ·exact hlt
   ·exact h1 y hy
  ·split
   ·exact h
   ·refine List.pairwise_cons.2 ⟨fun y hy=>?_,h⟩;rcases List.mem_cons.1 hy with rfl|hy
    ·omega
    ·have:=h1 y hy;omega
theorem yEF(x:Tg):∀(l:List Tg),(∀y∈l,y.key<x.key)->xEA x l=l++[x]
 | [],_=>rfl
 | t::r,h=>by
  simp only[xEA,if_pos (h t (by simp))];rw[yEF x r (fun y hy=>h y (by simp[hy]))];rfl
theorem zFH(k:Int):∀(l out:List Tg),SrtT out->(∀y∈out,k<=y.key)->SrtT (l.foldl (fun out t=>if t.key<k then out else xEA t out) out) /\ ∀y∈l.foldl (fun out t=>if t.key<k then out else xEA t out) out,k<=y.key/\(y∈out∨y∈l)
 | [],out,h,hk=>⟨h,fun y hy=>⟨hk y hy,.inl hy⟩⟩
 | t::l,out,h,hk=>by
  simp only[List.foldl];by_cases c:t.key<k
  ·rw[if_pos c];obtain⟨a,b⟩:=zFH k l out h hk;exact⟨a,fun y hy=>⟨(b y hy).1,(b y hy).2.imp id (fun h=>by simp[h])⟩⟩
  ·rw[if_neg c];obtain⟨a,b⟩:=zFH k l (xEA t out) (zYG t out h) (fun y hy=>by
    rcases yHD t out y hy with rfl|hy
    ·omega
    ·exact hk y hy)
   refine⟨a,fun y hy=>⟨(b y hy).1,?_⟩⟩;rcases(b y hy).2 with h|h
   ·rcases yHD t out y h with rfl|h
    ·exact .inr (by simp)
    ·exact .inl h
   ·exact .inr (by simp[h])
theorem xMJ(fs:List Fl)(u:Option (List Tg)):SrtT (zTA fs u) /\ ∀y∈zTA fs u,(qBA fs:Int)<=y.key/\y∈u.getD []:=by
 obtain⟨a,b⟩:=zFH (qBA fs) ((u.getD []).take Most) [] List.Pairwise.nil (fun y hy=>by cases hy);refine⟨a,fun y hy=>⟨(b y hy).1,?_⟩⟩;rcases(b y hy).2 with h|h
 ·cases h
 ·exact List.mem_of_mem_take h
theorem qLF(k:Int):∀(l out:List Tg),SrtT (out++l)->(∀y∈l,k<=y.key)->l.foldl (fun out t=>if t.key<k then out else xEA t out) out=out++l
 | [],out,_,_=>by simp
 | t::l,out,h,hk=>by
  simp only[List.foldl];rw[if_neg (by have:=hk t (by simp);omega),yEF t out (fun y hy=>(List.pairwise_append.1 h).2.2 y hy t (by simp))];rw[qLF k l (out++[t]) (by simpa using h) (fun y hy=>hk y (by simp[hy]))]
  simp
theorem unk_id(fs:List Fl)(l:List Tg)(h:SrtT l)(hk:∀y∈l,(qBA fs:Int)<=y.key)(hl:l.length<=Most):zTA fs (nz l)=l:=by
 unfold zTA;rw[yXA,List.take_of_length_le hl]
 have:=qLF (qBA fs) l [] (by simpa using h) hk
 simpa using this
theorem xKL{l:List Tg}(h:SrtT l):SrtT (l.map cut):=List.pairwise_map.2 (h.imp fun h=>h)
theorem unk_cut(fs:List Fl)(u:Option (List Tg)):zTA fs (nz ((zTA fs u).map cut))=(zTA fs u).map cut:=by
 obtain⟨a,b⟩:=xMJ fs u;refine unk_id fs _ (xKL a) (fun y hy=>?_) (by rw[List.length_map];exact zGC fs u);obtain⟨z,hz,rfl⟩:=List.mem_map.1 hy;exact(b z hz).1
theorem unkB_cut(x:Tg):unkB (cut x)=unkB x:=by
 unfold unkB cut;simp only[yKB];rw[List.take_take];simp
mutual
def okU:Fl->Bool
 | .mk _ _ _ n _ _ _ s=>decide (n<=0)&&okUs s
def okUs:Option (List Fl)->Bool
 | none=>true
 | some l=>okUl l
def okUl:List Fl->Bool
 | []=>true
 | f::r=>okU f&&okUl r
end
mutual
def okG:Fl->Bool
 | .mk k a b n g d o s=>(decide (g<0) || (okU (.mk k a b n g d o s)&&(decide (k≠11) || decide (n<0))))&&(decide (k≠11) || decide (o≠11))&&okGs s
def okGs:Option (List Fl)->Bool
 | none=>true
 | some l=>okGl l
def okGl:List Fl->Bool
 | []=>true
 | f::r=>okG f&&okGl r
end
theorem yFJ:∀ {l:List Fl},okGl l=true -> ∀f∈l,okG f=true
 | a::l,h,f,hf=>by
  simp only[okGl,baZ] at h;rcases List.mem_cons.1 hf with rfl|hf
  ·exact h.1
  ·exact yFJ h.2 f hf
theorem at_nz(l:List T)(i:Nat)(n:Int)(s:Option (List UInt8))(b:Bool)(u:Option (List Tg)):at' (.mk n s b (nz l) u) i=l.getD i T.zero:=by
 have:(T.mk n s b (nz l) u).L=l:=by show (nz l).getD []=l;exact yXA l
 unfold at';rw[this];by_cases h:i<l.length
 ·rw[if_pos (by omega)];rfl
 ·rw[if_neg (by omega),List.getD_eq_getElem?_getD,List.getElem?_eq_none (by omega)];rfl
theorem yZE{A B:Type}{g g':Nat->A->B}:∀(l:List A) (k:Nat),(∀i a,l[i]? = some a->g (k+i) a=g' (k+i) a)->mapI g k l=mapI g' k l
 | [],_,_=>rfl
 | a::l,k,h=>by
  simp only[mapI];have h0:g k a=g' k a:=h 0 a rfl;have h1:mapI g (k+1) l=mapI g' (k+1) l:=yZE l (k+1) (fun i b hb=>by
   have:=h (i+1) b hb
   rwa [show k+(i+1)=k+1+i by omega] at this)
  rw[h0,h1]
theorem zSJ(n:Int)(s:Option (List UInt8))(b:Bool)(l:List T)(u:Option (List Tg)):given (.mk n s b (nz l) u) = .mk n s b (nz (l.map given)) (nz (u.getD [])):=by
 cases l with
 | nil=>rfl
 | cons a l=>simp only[nz,given,xUE,yGD]
theorem gF(fs:Option (List Fl))(v:Int)(t:T):given (FitS fs v t) = .mk 0 none false (nz (mapI (fun i f=>given (yBB f v (at' t i))) 0 (fs.getD []))) (nz ((zTA (fs.getD []) t.u).map cut)):=by
 rw[FitS_eq,zSJ,qDB,yXA]
theorem at_gF(fs:Option (List Fl))(v:Int)(t:T)(i:Nat)(f:Fl)(h:(fs.getD [])[i]? = some f):at' (given (FitS fs v t)) i=given (yBB f v (at' t i)):=by
 rw[gF,at_nz,List.getD_eq_getElem?_getD,qWE _ _ 0 i f h,Nat.zero_add];rfl
theorem u_gF(fs:Option (List Fl))(v:Int)(t:T):zTA (fs.getD []) (given (FitS fs v t)).u=(zTA (fs.getD []) t.u).map cut:=by
 rw[gF];exact unk_cut _ _
theorem qOK(t:T):(given t).n=t.n:=by cases t;rfl
theorem given_s(t:T):(given t).s=t.s:=by cases t;rfl
theorem qSJ(t:T):(given t).null=t.null:=by cases t;rfl
theorem yKI(t:T):(given t).L=t.L.map given:=by
 obtain⟨n,s,b,l,u⟩:=t;show (xUE l).getD []=(l.getD []).map given;cases l with
 | none=>rfl
 | some l=>rw[xUE,yXA,yGD];rfl
theorem qAG(t:T):(given t).u=nz t.U:=by cases t;rfl
end Go.Mx
namespace Go.Mx
open Go Go.Dx
theorem partS_nl(fs:Option (List Fl))(v:Int)(x:Bool){a b:T}(hl:a.L=b.L)(hu:zTA (fs.getD []) a.u=zTA (fs.getD []) b.u):yPA fs v x a=yPA fs v x b:=by
 have hat:∀i,at' a i=at' b i:=fun i=>by unfold at';rw[hl]
 have e:rowP v x a=rowP v x b:=by funext i f;unfold rowP;rw[hat]
 rw[zQC,zQC];unfold qMG;rw[e,hu]
theorem qIL(fs:Option (List Fl)){a b:T}(hl:a.L=b.L)(hu:zTA (fs.getD []) a.u=zTA (fs.getD []) b.u):yGE fs a=yGE fs b:=by
 rw[zHC,zHC,hu];have hat:∀i,at' a i=at' b i:=fun i=>by unfold at';rw[hl]
 have:∀(l:List Fl) (i:Nat),yJB l i a=yJB l i b:=fun l=>by
  induction l with
  | nil=>intro i;rfl
  | cons f r ih=>intro i;rw[yJB,yJB,hat,ih]
 rw[this]
def gB(kind:Int)(b:Bool)(sub:Option (List Fl))(v:Int)(t:T):T:=given (xHC kind b t (FitS sub v t))
theorem xXG(kind:Int)(b:Bool)(sub:Option (List Fl))(v:Int)(t:T):(gB kind b sub v t).null=if kind=8∨kind=9∨kind=10 then b else false:=by
 unfold gB xHC;rw[qSJ];by_cases h1:kind=8∨kind=9
 ·rw[if_pos h1,if_pos (by omega)];rfl
 ·rw[if_neg h1];by_cases h2:kind=10
  ·rw[if_pos h2,if_pos (by omega)];rfl
  ·rw[if_neg h2,if_neg (by omega)];rfl
theorem gB_S(kind:Int)(b:Bool)(sub:Option (List Fl))(v:Int)(t:T)(h:kind≠10):(gB kind b sub v t).S=if kind=8∨kind=9 then t.S.take Most else t.S:=by
 unfold gB xHC T.S;rw[given_s];by_cases h1:kind=8∨kind=9
 ·rw[if_pos h1,if_pos h1];exact yKB _
 ·rw[if_neg h1,if_neg h1,if_neg h];rfl
theorem gB_n(kind:Int)(b:Bool)(sub:Option (List Fl))(v:Int)(t:T)(h:kind≠10)(h8:kind≠8)(h9:kind≠9):(gB kind b sub v t).n=t.n:=by
 unfold gB xHC;rw[qOK,if_neg (by omega),if_neg h];rfl
theorem qNK(b:Bool)(sub:Option (List Fl))(v:Int)(t:T):(gB 10 b sub v t).L=(given (FitS sub v t)).L/\(gB 10 b sub v t).u=(given (FitS sub v t)).u:=by
 unfold gB xHC;rw[if_neg (by decide),if_pos rfl,yKI,yKI,qAG,qAG];exact⟨rfl,rfl⟩
theorem yNJ(b:Bool)(sub:Option (List Fl))(v:Int)(x:Bool)(t:T):yPA sub v x (gB 10 b sub v t)=yPA sub v x (given (FitS sub v t)) :=
 partS_nl _ _ _ (qNK b sub v t).1 (by rw[(qNK b sub v t).2])
theorem yAC{A:Type}(l:List A)(n:Nat):(l.take n).take n=l.take n:=by rw[List.take_take];simp
theorem qLL(kind:Int)(b:Bool)(sub:Option (List Fl))(v:Int)(x:Bool)(t:T)(hp:yPA sub v x (given (FitS sub v t))=yPA sub v x t) :
  yZA kind b x (gB kind b sub v t) (yPA sub v x (gB kind b sub v t))=yZA kind b x t (yPA sub v x t):=by
 by_cases h10:kind=10
 ·subst h10;unfold yZA;simp only[show ¬((10:Int)=0) by decide,show ¬((10:Int)=7) by decide,show ¬((10:Int)=8) by decide,show ¬((10:Int)=9) by decide,if_true,if_false];rw[yNJ,hp]
 ·unfold yZA;by_cases h8:kind=8
  ·subst h8;rw[gB_S _ _ _ _ _ (by omega),if_pos (show (8:Int)=8∨(8:Int)=9 from .inl rfl)];simp only[show ¬((8:Int)=0) by decide,show ¬((8:Int)=7) by decide,if_true,if_false,yAC]
  ·by_cases h9:kind=9
   ·subst h9;rw[gB_S _ _ _ _ _ (by omega),if_pos (show (9:Int)=8∨(9:Int)=9 from .inr rfl)];simp only[show ¬((9:Int)=0) by decide,show ¬((9:Int)=7) by decide,show ¬((9:Int)=8) by decide,if_true,if_false,yAC]
   ·rw[gB_S _ _ _ _ _ h10,gB_n _ _ _ _ _ h10 h8 h9,if_neg (show ¬(kind=8∨kind=9) by omega)];simp only[h8,h9,h10,if_false]
theorem zCE(k fr to nl tg df of:Int)(sub:Option (List Fl))(v:Int)(t:T)(h:k≠11):given (yBB (.mk k fr to nl tg df of sub) v t)=gB k (Mx.null (.mk k fr to nl tg df of sub) v t) sub v t:=by
 rw[yBB,if_neg h];rfl
theorem zBE(fr to nl tg df of:Int)(sub:Option (List Fl))(v:Int)(t:T):given (yBB (.mk 11 fr to nl tg df of sub) v t) = .mk 0 none (Mx.null (.mk 11 fr to nl tg df of sub) v t || (decide (0<=tg)&&t.L.length==0)) (nz ((t.L.take Most).map (gB of false sub v))) none:=by
 rw[yBB,if_pos rfl,zSJ,List.map_map];rfl
theorem mk_L(n:Int)(s:Option (List UInt8))(b:Bool)(l:List T)(u:Option (List Tg)):(T.mk n s b (nz l) u).L=l:=by show (nz l).getD []=l;exact yXA l
theorem zGD(f:Fl)(v:Int)(t:T):Mx.null f v t=(t.null&&(decide (0<=f.null)&&decide (f.null<=v))):=rfl
theorem qXH:∀(l:List Fl) (a b:T) (i:Nat),(∀k f,l[k]? = some f->qSA f (at' a (i+k:Nat))=qSA f (at' b (i+k:Nat)))->yJB l i a=yJB l i b
 | [],_,_,_,_=>rfl
 | f::r,a,b,i,h=>by
  rw[yJB,yJB,show qSA f (at' a i)=qSA f (at' b i) from h 0 f rfl,qXH r a b (i+1) (fun k g hg=>by
   have:=h (k+1) g hg
   rwa [show i+(k+1)=i+1+k by omega] at this)]
theorem xPJ(k fr to nl tg df of:Int)(sub:Option (List Fl))(t:T):qSA (.mk k fr to nl tg df of sub) t=if k=0 then decide (t.n%2=df) else if k=7 then (t.S.take 16).all (· == 0) else
  if k=8∨k=9 then (if 0<=nl then t.null else t.S.length==0) else if k=11 then t.L.length==0 else
  if k=10 then yGE sub t else zMA t.n (yUD k).toNat==zMA df (yUD k).toNat:=by
 rw[qSA]
mutual
theorem usualG:∀(f:Fl) (v:Int) (t:T),0<=v->okU f=true->qSA f (given (yBB f v t))=qSA f t
 | .mk k fr to nl tg df of sub,v,t,hv,h=>by
  simp only[okU,baZ,dtZ] at h;obtain⟨hn,hs⟩:=h;have hsub:=usualGs sub v t hv hs;rw[xPJ,xPJ];by_cases h11:k=11
  ·subst h11;rw[zBE];simp only[show ¬((11:Int)=0) by decide,show ¬((11:Int)=7) by decide,show ¬((11:Int)=8∨(11:Int)=9) by decide,if_true,if_false];rw[mk_L]
   have:((t.L.take Most).map (gB of false sub v)).length=min Most t.L.length:=by simp
   rw[this];have e:(min Most t.L.length==0)=(t.L.length==0):=by
    rw[Bool.eq_iff_iff];simp[Most]
   rw[e]
  ·rw[zCE _ _ _ _ _ _ _ _ _ _ h11];by_cases h10:k=10
   ·subst h10;simp only[show ¬((10:Int)=0) by decide,show ¬((10:Int)=7) by decide,show ¬((10:Int)=8∨(10:Int)=9) by decide,show ¬((10:Int)=11) by decide,if_true,if_false];rw[<- hsub];exact qIL _ (qNK _ sub v t).1 (by rw[(qNK _ sub v t).2])
   ·rw[gB_S _ _ _ _ _ h10,xXG];by_cases h89:k=8∨k=9
    ·have h0:k≠0:=by omega
     have h7:k≠7:=by omega
     have h8a:k=8∨k=9∨k=10:=by omega
     simp only[if_neg h0,if_neg h7,if_pos h89,if_pos h8a];by_cases hz:0<=nl
     ·have:nl=0:=by omega
      subst this;simp[Mx.null,Fl.null,hv]
     ·rw[if_neg hz,if_neg hz]
      have:(t.S.take Most).length=min Most t.S.length:=by simp
      rw[this,Bool.eq_iff_iff];simp[Most]
    ·rw[gB_n _ _ _ _ _ h10 (by omega) (by omega)];simp only[if_neg h89,if_neg h10,if_neg h11]
theorem usualGs:∀(fs:Option (List Fl)) (v:Int) (t:T),0<=v->okUs fs=true->yGE fs (given (FitS fs v t))=yGE fs t
 | none,v,t,hv,h=>by
  rw[zHC,zHC,u_gF,List.length_map];rfl
 | some l,v,t,hv,h=>by
  have hl:=qHL l v hv h;have e:yJB l 0 (given (FitS (some l) v t))=yJB l 0 t:=qXH l _ _ 0 (fun k f hk=>by
   have:=hl f (List.mem_of_getElem? hk) (at' t k)
   rw[Nat.zero_add,at_gF (some l) v t k f hk];exact this)
  rw[zHC,zHC,u_gF,List.length_map];show (yJB l 0 (given (FitS (some l) v t))&&_)=(yJB l 0 t&&_);rw[e]
theorem qHL:∀(l:List Fl) (v:Int),0<=v->okUl l=true -> ∀f∈l,∀t,qSA f (given (yBB f v t))=qSA f t
 | [],_,_,_,f,hf,_=>by cases hf
 | g::r,v,hv,h,f,hf,t=>by
  simp only[okUl,baZ] at h;rcases List.mem_cons.1 hf with h1|h1
  ·rw[h1];exact usualG g v t hv h.1
  ·exact qHL r v hv h.2 f h1 t
end
theorem yFH{A:Type}{a b:List A}{B:Type}(p:A->Option B)(h:a.map p=b.map p):a.filterMap p=b.filterMap p:=by
 have e:∀l:List A,l.filterMap p=(l.map p).filterMap id:=fun l=>by rw[List.filterMap_map];rfl
 rw[e,e,h]
theorem xEH(v:Int)(x:Bool)(fs:List Fl)(u u':Option (List Tg))(rows rows':List (Fl×T×List UInt8))(hu:zTA fs u'=(zTA fs u).map cut)
  (h1:(rows'.map fun r=>if r.1.tag<0/\has r.1 v=true then r.2.2 else [])=rows.map fun r=>if r.1.tag<0/\has r.1 v=true then r.2.2 else [])
  (h2:∀g:Nat,(rows'.map fun r=>if r.1.tag=(g:Int)/\qSA r.1 r.2.1=false then some (tagB g r.2.2) else none)=rows.map fun r=>if r.1.tag=(g:Int)/\qSA r.1 r.2.1=false then some (tagB g r.2.2) else none):qMG v x fs u' rows'=qMG v x fs u rows:=by
 unfold qMG;have ht:yDK rows' (qBA fs)=yDK rows (qBA fs):=by
  unfold yDK
  congr 1
  funext g;exact yFH _ (h2 g)
 have hm:(zTA fs u').map (fun x=>tagB (IntKind.u64.wrap x.key).toNat ((x.val.getD []).take Most))=(zTA fs u).map (fun x=>tagB (IntKind.u64.wrap x.key).toNat ((x.val.getD []).take Most)):=by
  rw[hu,List.map_map];apply List.map_congr_left;intro z _;exact unkB_cut z
 rw[h1,ht,hm]
mutual
theorem fieldG:∀(f:Fl) (v:Int) (x:Bool) (t:T),0<=v->okG f=true->(f.tag<0∨qSA f t=false)->field f v x (given (yBB f v t))=field f v x t
 | .mk k fr to nl tg df of sub,v,x,t,hv,h,hu=>by
  simp only[okG,baZ,Bool.or_eq_true,dtZ] at h;obtain⟨⟨hg,ho⟩,hs⟩:=h;have hsub:∀t,yPA sub v x (given (FitS sub v t))=yPA sub v x t:=fun t=>partG sub v x t hv hs
  rw[xFC,xFC];simp only[Fl.kind,Fl.null,Fl.sub,Fl.of];by_cases h11:k=11
  ·subst h11;have hn:Mx.null (.mk 11 fr to nl tg df of sub) v (given (yBB (.mk 11 fr to nl tg df of sub) v t))=Mx.null (.mk 11 fr to nl tg df of sub) v t:=by
    rw[zBE,zGD];simp only[T.null,Fl.null];rcases hu with hu|hu
    ·simp only[Fl.tag] at hu
     have:decide (0<=tg)=false:=by simp;omega
     rw[this,zGD];simp only[Fl.null];cases t.null <;> cases decide (0<=nl) <;> cases decide (nl<=v) <;> simp
    ·have h5:(t.L.length==0)=false:=by
      rw[xOJ] at hu;simpa[Fl.kind] using hu
     rw[h5,zGD];simp only[Fl.null];cases t.null <;> cases decide (0<=nl) <;> cases decide (nl<=v) <;> simp
   rw[hn,zBE];unfold zMC;rw[if_pos rfl,if_pos rfl,mk_L];have ht:((t.L.take Most).map (gB of false sub v)).take Most=(t.L.take Most).map (gB of false sub v):=by
    rw[<- List.map_take,yAC]
   cases Mx.null (.mk 11 fr to nl tg df of sub) v t with
   | true=>rfl
   | false =>
    simp only[bfZ,if_false];rw[ht,List.length_map,List.map_map]
    congr 2
    apply List.map_congr_left;intro z _;exact qLL of false sub v x z (hsub z)
  ·have hn:Mx.null (.mk k fr to nl tg df of sub) v (given (yBB (.mk k fr to nl tg df of sub) v t))=if k=8∨k=9∨k=10 then Mx.null (.mk k fr to nl tg df of sub) v t else false:=by
    rw[zCE _ _ _ _ _ _ _ _ _ _ h11,zGD,xXG];simp only[Fl.null];split
    ·rw[zGD];simp only[Fl.null]
     cases t.null <;> cases decide (0<=nl) <;> cases decide (nl<=v) <;> simp
    ·rfl
   rw[hn,zCE _ _ _ _ _ _ _ _ _ _ h11];generalize Mx.null (.mk k fr to nl tg df of sub) v t=b;unfold zMC;rw[if_neg h11,if_neg h11];by_cases hk:k=8∨k=9∨k=10
   ·rw[if_pos hk,qLL k b sub v x t (hsub t)];by_cases h10:k=10
    ·subst h10;show (if (10:Int)=10/\0<=nl then if b=true then zMA (-1) 1 else zMA 1 1++yPA sub v x (gB 10 b sub v t) else _)=(if (10:Int)=10/\0<=nl then if b=true then zMA (-1) 1 else zMA 1 1++yPA sub v x t else _);rw[yNJ,hsub]
    ·rw[if_neg (by omega),if_neg (by omega)]
   ·rw[if_neg hk,if_neg (by omega),if_neg (by omega)];have hv:∀b':Bool,∀t' p,yZA k b' x t' p=yZA k b x t' p:=fun b' t' p=>by
     unfold yZA;rw[if_neg (show ¬k=8 by omega),if_neg (show ¬k=9 by omega),if_neg (show ¬k=8 by omega),if_neg (show ¬k=9 by omega)]
    rw[hv];exact qLL k b sub v x t (hsub t)
theorem partG:∀(fs:Option (List Fl)) (v:Int) (x:Bool) (t:T),0<=v->okGs fs=true->yPA fs v x (given (FitS fs v t))=yPA fs v x t
 | none,v,x,t,hv,h=>by
  have hu:zTA [] (given (FitS none v t)).u=(zTA [] t.u).map cut:=u_gF none v t;rw[zQC,zQC];exact xEH v x [] _ _ _ _ hu rfl (fun _=>rfl)
 | some l,v,x,t,hv,h=>by
  have hl:=partGl l v x hv h;have hu:zTA l (given (FitS (some l) v t)).u=(zTA l t.u).map cut:=u_gF (some l) v t;rw[zQC,zQC];refine xEH v x l _ _ _ _ hu ?_ ?_
  ·rw[qDB,qDB];refine yZE l 0 (fun i f hf=>?_);have hm:=List.mem_of_getElem? hf;simp only[rowP,Nat.zero_add];by_cases c:f.tag<0/\has f v=true
   ·rw[if_pos c,if_pos c,at_gF (some l) v t i f hf,hl f hm _ (.inl c.1)]
   ·rw[if_neg c,if_neg c]
  ·intro g;rw[qDB,qDB];refine yZE l 0 (fun i f hf=>?_);have hm:=List.mem_of_getElem? hf;simp only[rowP,Nat.zero_add];rw[at_gF (some l) v t i f hf];by_cases c:f.tag=(g:Int)
   ·have ho:=yFJ h f hm;have hu':okU f=true:=by
     cases f;simp only[Fl.tag] at c;simp only[okG,baZ,Bool.or_eq_true,dtZ] at ho;rcases ho.1.1 with h1|h1
     ·omega
     ·exact h1.1
    rw[usualG f v _ hv hu'];by_cases d:qSA f (at' t i)=false
    ·rw[if_pos ⟨c,d⟩,if_pos ⟨c,d⟩,hl f hm _ (.inr d)]
    ·rw[if_neg (fun h=>d h.2),if_neg (fun h=>d h.2)]
   ·rw[if_neg (fun h=>c h.1),if_neg (fun h=>c h.1)]
theorem partGl:∀(l:List Fl) (v:Int) (x:Bool),0<=v->okGl l=true -> ∀f∈l,∀t,(f.tag<0∨qSA f t=false)->field f v x (given (yBB f v t))=field f v x t
 | [],_,_,_,_,f,hf,_,_=>by cases hf
 | g::r,v,x,hv,h,f,hf,t,hu=>by
  simp only[okGl,baZ] at h;rcases List.mem_cons.1 hf with h1|h1
  ·rw[h1] at hu ⊢;exact fieldG g v x t hv h.1 hu
  ·exact partGl r v x hv h.2 f h1 t hu
end
end Go.Mx
