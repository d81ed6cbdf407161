/- Part of a verified symbolic run of the program's code (no condition of its own). -/
import Derived.Test.YtblndkbbnboldaaGreatDoorQ3
import Derived.Laws.Bits64
set_option linter.unusedVariables false
set_option linter.unusedSimpArgs false
namespace Go.Mx
open Go Go.Dx
def de2:DE:=(.f .ite [.v 1,.f .app [.v 0,.f .mkbytes [.k (.int 1)]],.f .app [.v 0,.f .mkbytes [.k (.int 0)]]])
def ob2:List Ob:=[.when (.v 1) true [.room (.f .app [.v 0,.f .mkbytes [.k (.int 1)]]) 1],.when (.v 1) false [.room (.f .app [.v 0,.f .mkbytes [.k (.int 0)]]) 1]]
def de4:DE:=(.f (.ext 5) [.v 0,.f (.wrap .u16) [.v 1]])
def ob4:List Ob:=[.pre 5 [.v 0,.f (.wrap .u16) [.v 1]]]
def de5:DE:=(.f .app [.v 0,.f .mkbytes [.f (.wrap .u8) [.f (.shr .u16) [.v 1,.k (.int 8)]],.f (.wrap .u8) [.v 1]]])
def ob5:List Ob:=[.room (.f .app [.v 0,.f .mkbytes [.f (.wrap .u8) [.f (.shr .u16) [.v 1,.k (.int 8)]],.f (.wrap .u8) [.v 1]]]) 1]
def de6:DE:=(.f (.ext 30) [.v 0,.f (.wrap .u32) [.v 1]])
def ob6:List Ob:=[.pre 30 [.v 0,.f (.wrap .u32) [.v 1]]]
def de7:DE:=(.f (.ext 29) [.v 0,.f (.wrap .u64) [.v 1]])
def ob7:List Ob:=[.pre 29 [.v 0,.f (.wrap .u64) [.v 1]]]
def de10:DE:=(.f .ite [.f .eqI [.f (.ext 31) [.v 1],.k (.int 5)],.f .app [.v 0,.f .mkbytes [.f (.wrap .u8) [.f (.bor .u32) [.f (.band .u32) [.v 1,.k (.int 127)],.k (.int 128)]],.f (.wrap .u8) [.f (.bor .u32) [.f (.band .u32) [.f (.shr .u32) [.v 1,.k (.int 7)],.k (.int 127)],.k (.int 128)]],.f (.wrap .u8) [.f (.bor .u32) [.f (.band .u32) [.f (.shr .u32) [.v 1,.k (.int 14)],.k (.int 127)],.k (.int 128)]],.f (.wrap .u8) [.f (.bor .u32) [.f (.band .u32) [.f (.shr .u32) [.v 1,.k (.int 21)],.k (.int 127)],.k (.int 128)]],.f (.wrap .u8) [.f (.shr .u32) [.v 1,.k (.int 28)]]]],.f .ite [.f .eqI [.f (.ext 31) [.v 1],.k (.int 4)],.f .app [.v 0,.f .mkbytes [.f (.wrap .u8) [.f (.bor .u32) [.f (.band .u32) [.v 1,.k (.int 127)],.k (.int 128)]],.f (.wrap .u8) [.f (.bor .u32) [.f (.band .u32) [.f (.shr .u32) [.v 1,.k (.int 7)],.k (.int 127)],.k (.int 128)]],.f (.wrap .u8) [.f (.bor .u32) [.f (.band .u32) [.f (.shr .u32) [.v 1,.k (.int 14)],.k (.int 127)],.k (.int 128)]],.f (.wrap .u8) [.f (.shr .u32) [.v 1,.k (.int 21)]]]],.f .ite [.f .eqI [.f (.ext 31) [.v 1],.k (.int 3)],.f .app [.v 0,.f .mkbytes [.f (.wrap .u8) [.f (.bor .u32) [.f (.band .u32) [.v 1,.k (.int 127)],.k (.int 128)]],.f (.wrap .u8) [.f (.bor .u32) [.f (.band .u32) [.f (.shr .u32) [.v 1,.k (.int 7)],.k (.int 127)],.k (.int 128)]],.f (.wrap .u8) [.f (.shr .u32) [.v 1,.k (.int 14)]]]],.f .ite [.f .eqI [.f (.ext 31) [.v 1],.k (.int 2)],.f .app [.v 0,.f .mkbytes [.f (.wrap .u8) [.f (.bor .u32) [.f (.band .u32) [.v 1,.k (.int 127)],.k (.int 128)]],.f (.wrap .u8) [.f (.shr .u32) [.v 1,.k (.int 7)]]]],.f .ite [.f .eqI [.f (.ext 31) [.v 1],.k (.int 1)],.f .app [.v 0,.f .mkbytes [.f (.wrap .u8) [.v 1]]],.v 0]]]]])
def ob10:List Ob:=[.when (.f .eqI [.f (.ext 31) [.v 1],.k (.int 5)]) true [.room (.f .app [.v 0,.f .mkbytes [.f (.wrap .u8) [.f (.bor .u32) [.f (.band .u32) [.v 1,.k (.int 127)],.k (.int 128)]],.f (.wrap .u8) [.f (.bor .u32) [.f (.band .u32) [.f (.shr .u32) [.v 1,.k (.int 7)],.k (.int 127)],.k (.int 128)]],.f (.wrap .u8) [.f (.bor .u32) [.f (.band .u32) [.f (.shr .u32) [.v 1,.k (.int 14)],.k (.int 127)],.k (.int 128)]],.f (.wrap .u8) [.f (.bor .u32) [.f (.band .u32) [.f (.shr .u32) [.v 1,.k (.int 21)],.k (.int 127)],.k (.int 128)]],.f (.wrap .u8) [.f (.shr .u32) [.v 1,.k (.int 28)]]]]) 1],.when (.f .eqI [.f (.ext 31) [.v 1],.k (.int 5)]) false [.when (.f .eqI [.f (.ext 31) [.v 1],.k (.int 4)]) true [.room (.f .app [.v 0,.f .mkbytes [.f (.wrap .u8) [.f (.bor .u32) [.f (.band .u32) [.v 1,.k (.int 127)],.k (.int 128)]],.f (.wrap .u8) [.f (.bor .u32) [.f (.band .u32) [.f (.shr .u32) [.v 1,.k (.int 7)],.k (.int 127)],.k (.int 128)]],.f (.wrap .u8) [.f (.bor .u32) [.f (.band .u32) [.f (.shr .u32) [.v 1,.k (.int 14)],.k (.int 127)],.k (.int 128)]],.f (.wrap .u8) [.f (.shr .u32) [.v 1,.k (.int 21)]]]]) 1],.when (.f .eqI [.f (.ext 31) [.v 1],.k (.int 4)]) false [.when (.f .eqI [.f (.ext 31) [.v 1],.k (.int 3)]) true [.room (.f .app [.v 0,.f .mkbytes [.f (.wrap .u8) [.f (.bor .u32) [.f (.band .u32) [.v 1,.k (.int 127)],.k (.int 128)]],.f (.wrap .u8) [.f (.bor .u32) [.f (.band .u32) [.f (.shr .u32) [.v 1,.k (.int 7)],.k (.int 127)],.k (.int 128)]],.f (.wrap .u8) [.f (.shr .u32) [.v 1,.k (.int 14)]]]]) 1],.when (.f .eqI [.f (.ext 31) [.v 1],.k (.int 3)]) false [.when (.f .eqI [.f (.ext 31) [.v 1],.k (.int 2)]) true [.room (.f .app [.v 0,.f .mkbytes [.f (.wrap .u8) [.f (.bor .u32) [.f (.band .u32) [.v 1,.k (.int 127)],.k (.int 128)]],.f (.wrap .u8) [.f (.shr .u32) [.v 1,.k (.int 7)]]]]) 1],.when (.f .eqI [.f (.ext 31) [.v 1],.k (.int 2)]) false [.when (.f .eqI [.f (.ext 31) [.v 1],.k (.int 1)]) true [.room (.f .app [.v 0,.f .mkbytes [.f (.wrap .u8) [.v 1]]]) 1]]]]],.pre 31 [.v 1]]
def de11:DE:=(.f .app [.f (.ext 4) [.v 0,.f (.wrap .i16) [.f .len [.v 1]]],.v 1])
def ob11:List Ob:=[.room (.f .app [.f (.ext 4) [.v 0,.f (.wrap .i16) [.f .len [.v 1]]],.v 1]) 1,.pre 4 [.v 0,.f (.wrap .i16) [.f .len [.v 1]]]]
def de12:DE:=(.f .app [.f (.ext 10) [.v 0,.f (.add .u32) [.k (.int 1),.f (.wrap .u32) [.f .len [.v 1]]]],.v 1])
def ob12:List Ob:=[.room (.f .app [.f (.ext 10) [.v 0,.f (.add .u32) [.k (.int 1),.f (.wrap .u32) [.f .len [.v 1]]]],.v 1]) 1,.pre 10 [.v 0,.f (.add .u32) [.k (.int 1),.f (.wrap .u32) [.f .len [.v 1]]]]]
def de15:DE:=(.f .app [.f (.ext 6) [.v 0,.f (.wrap .i32) [.f .len [.v 1]]],.v 1])
def ob15:List Ob:=[.room (.f .app [.f (.ext 6) [.v 0,.f (.wrap .i32) [.f .len [.v 1]]],.v 1]) 1,.pre 6 [.v 0,.f (.wrap .i32) [.f .len [.v 1]]]]
def de17:DE:=(.f .ite [.f .isNil [.v 1],.f (.ext 6) [.v 0,.k (.int (-1))],.f (.ext 15) [.v 0,.v 1]])
def ob17:List Ob:=[.when (.f .isNil [.v 1]) true [.pre 6 [.v 0,.k (.int (-1))]],.when (.f .isNil [.v 1]) false [.pre 15 [.v 0,.v 1]]]
def de29:DE:=(.f .app [.v 0,.f .mkbytes [.f (.wrap .u8) [.f (.shr .u64) [.v 1,.k (.int 56)]],.f (.wrap .u8) [.f (.shr .u64) [.v 1,.k (.int 48)]],.f (.wrap .u8) [.f (.shr .u64) [.v 1,.k (.int 40)]],.f (.wrap .u8) [.f (.shr .u64) [.v 1,.k (.int 32)]],.f (.wrap .u8) [.f (.shr .u64) [.v 1,.k (.int 24)]],.f (.wrap .u8) [.f (.shr .u64) [.v 1,.k (.int 16)]],.f (.wrap .u8) [.f (.shr .u64) [.v 1,.k (.int 8)]],.f (.wrap .u8) [.v 1]]])
def ob29:List Ob:=[.room (.f .app [.v 0,.f .mkbytes [.f (.wrap .u8) [.f (.shr .u64) [.v 1,.k (.int 56)]],.f (.wrap .u8) [.f (.shr .u64) [.v 1,.k (.int 48)]],.f (.wrap .u8) [.f (.shr .u64) [.v 1,.k (.int 40)]],.f (.wrap .u8) [.f (.shr .u64) [.v 1,.k (.int 32)]],.f (.wrap .u8) [.f (.shr .u64) [.v 1,.k (.int 24)]],.f (.wrap .u8) [.f (.shr .u64) [.v 1,.k (.int 16)]],.f (.wrap .u8) [.f (.shr .u64) [.v 1,.k (.int 8)]],.f (.wrap .u8) [.v 1]]]) 1]
def de30:DE:=(.f .app [.v 0,.f .mkbytes [.f (.wrap .u8) [.f (.shr .u32) [.v 1,.k (.int 24)]],.f (.wrap .u8) [.f (.shr .u32) [.v 1,.k (.int 16)]],.f (.wrap .u8) [.f (.shr .u32) [.v 1,.k (.int 8)]],.f (.wrap .u8) [.v 1]]])
def ob30:List Ob:=[.room (.f .app [.v 0,.f .mkbytes [.f (.wrap .u8) [.f (.shr .u32) [.v 1,.k (.int 24)]],.f (.wrap .u8) [.f (.shr .u32) [.v 1,.k (.int 16)]],.f (.wrap .u8) [.f (.shr .u32) [.v 1,.k (.int 8)]],.f (.wrap .u8) [.v 1]]]) 1]
def de40:DE:=(.f .ite [.f .ltI [.v 1,.f .len [.f (.get 3) [.v 0]]],.f .at [.f (.get 3) [.v 0],.v 1],.f .mkrow [.k (.int 0),.k .nil,.k (.bool false),.k .nil,.k .nil]])
def ob40:List Ob:=[.when (.f .ltI [.v 1,.f .len [.f (.get 3) [.v 0]]]) true [.idx (.v 1) (.f (.get 3) [.v 0]) true]]
def de41:DE:=(.fold 2 (.f .take [.v 1,.f .imin [.f .len [.v 1],.k (.int 32767)]]) [.k .nil] [.f .ite [.f .ite [.f .ltI [.f (.get 0) [.v 3],.f (.ext 51) [.v 0]],.k (.bool true),.f .ite [.f .ltI [.fold 5 (.f .iota [.wh 5 (.f .ite [.f .ltI [.v 7,.f .len [.v 4]],.f .ltI [.f (.get 0) [.f .at [.v 4,.v 7]],.f (.get 0) [.v 3]],.k (.bool false)]) [.k (.int 0)] [.f (.add .i64) [.v 7,.k (.int 1)]]]) [.k (.int 0)] [.f (.add .i64) [.v 7,.k (.int 1)]] 0,.f .len [.v 4]],.f .eqI [.f (.get 0) [.f .at [.v 4,.fold 5 (.f .iota [.wh 5 (.f .ite [.f .ltI [.v 7,.f .len [.v 4]],.f .ltI [.f (.get 0) [.f .at [.v 4,.v 7]],.f (.get 0) [.v 3]],.k (.bool false)]) [.k (.int 0)] [.f (.add .i64) [.v 7,.k (.int 1)]]]) [.k (.int 0)] [.f (.add .i64) [.v 7,.k (.int 1)]] 0]],.f (.get 0) [.v 3]],.k (.bool false)]],.v 4,.f .setAt [.fold 5 (.f .iota [.wh 5 (.f .ltI [.fold 5 (.f .iota [.wh 5 (.f .ite [.f .ltI [.v 7,.f .len [.v 4]],.f .ltI [.f (.get 0) [.f .at [.v 4,.v 7]],.f (.get 0) [.v 3]],.k (.bool false)]) [.k (.int 0)] [.f (.add .i64) [.v 7,.k (.int 1)]]]) [.k (.int 0)] [.f (.add .i64) [.v 7,.k (.int 1)]] 0,.v 7]) [.f (.sub .i64) [.f .len [.f .app [.v 4,.f .mklist [.f .mkrow [.k (.int 0),.k .nil]]]],.k (.int 1)],.f .app [.v 4,.f .mklist [.f .mkrow [.k (.int 0),.k .nil]]]] [.f (.sub .i64) [.v 7,.k (.int 1)],.f .setAt [.v 8,.v 7,.f .at [.v 8,.f (.sub .i64) [.v 7,.k (.int 1)]]]]]) [.f (.sub .i64) [.f .len [.f .app [.v 4,.f .mklist [.f .mkrow [.k (.int 0),.k .nil]]]],.k (.int 1)],.f .app [.v 4,.f .mklist [.f .mkrow [.k (.int 0),.k .nil]]]] [.f (.sub .i64) [.v 7,.k (.int 1)],.f .setAt [.v 8,.v 7,.f .at [.v 8,.f (.sub .i64) [.v 7,.k (.int 1)]]]] 1,.fold 5 (.f .iota [.wh 5 (.f .ite [.f .ltI [.v 7,.f .len [.v 4]],.f .ltI [.f (.get 0) [.f .at [.v 4,.v 7]],.f (.get 0) [.v 3]],.k (.bool false)]) [.k (.int 0)] [.f (.add .i64) [.v 7,.k (.int 1)]]]) [.k (.int 0)] [.f (.add .i64) [.v 7,.k (.int 1)]] 0,.v 3]]] 0)
def ob41:List Ob:=[.all (.f .take [.v 1,.f .imin [.f .len [.v 1],.k (.int 32767)]]) [.k .nil] [.f .ite [.f .ite [.f .ltI [.f (.get 0) [.v 3],.f (.ext 51) [.v 0]],.k (.bool true),.f .ite [.f .ltI [.fold 5 (.f .iota [.wh 5 (.f .ite [.f .ltI [.v 7,.f .len [.v 4]],.f .ltI [.f (.get 0) [.f .at [.v 4,.v 7]],.f (.get 0) [.v 3]],.k (.bool false)]) [.k (.int 0)] [.f (.add .i64) [.v 7,.k (.int 1)]]]) [.k (.int 0)] [.f (.add .i64) [.v 7,.k (.int 1)]] 0,.f .len [.v 4]],.f .eqI [.f (.get 0) [.f .at [.v 4,.fold 5 (.f .iota [.wh 5 (.f .ite [.f .ltI [.v 7,.f .len [.v 4]],.f .ltI [.f (.get 0) [.f .at [.v 4,.v 7]],.f (.get 0) [.v 3]],.k (.bool false)]) [.k (.int 0)] [.f (.add .i64) [.v 7,.k (.int 1)]]]) [.k (.int 0)] [.f (.add .i64) [.v 7,.k (.int 1)]] 0]],.f (.get 0) [.v 3]],.k (.bool false)]],.v 4,.f .setAt [.fold 5 (.f .iota [.wh 5 (.f .ltI [.fold 5 (.f .iota [.wh 5 (.f .ite [.f .ltI [.v 7,.f .len [.v 4]],.f .ltI [.f (.get 0) [.f .at [.v 4,.v 7]],.f (.get 0) [.v 3]],.k (.bool false)]) [.k (.int 0)] [.f (.add .i64) [.v 7,.k (.int 1)]]]) [.k (.int 0)] [.f (.add .i64) [.v 7,.k (.int 1)]] 0,.v 7]) [.f (.sub .i64) [.f .len [.f .app [.v 4,.f .mklist [.f .mkrow [.k (.int 0),.k .nil]]]],.k (.int 1)],.f .app [.v 4,.f .mklist [.f .mkrow [.k (.int 0),.k .nil]]]] [.f (.sub .i64) [.v 7,.k (.int 1)],.f .setAt [.v 8,.v 7,.f .at [.v 8,.f (.sub .i64) [.v 7,.k (.int 1)]]]]]) [.f (.sub .i64) [.f .len [.f .app [.v 4,.f .mklist [.f .mkrow [.k (.int 0),.k .nil]]]],.k (.int 1)],.f .app [.v 4,.f .mklist [.f .mkrow [.k (.int 0),.k .nil]]]] [.f (.sub .i64) [.v 7,.k (.int 1)],.f .setAt [.v 8,.v 7,.f .at [.v 8,.f (.sub .i64) [.v 7,.k (.int 1)]]]] 1,.fold 5 (.f .iota [.wh 5 (.f .ite [.f .ltI [.v 7,.f .len [.v 4]],.f .ltI [.f (.get 0) [.f .at [.v 4,.v 7]],.f (.get 0) [.v 3]],.k (.bool false)]) [.k (.int 0)] [.f (.add .i64) [.v 7,.k (.int 1)]]]) [.k (.int 0)] [.f (.add .i64) [.v 7,.k (.int 1)]] 0,.v 3]]] [.when (.f .ite [.f .ltI [.f (.get 0) [.v 3],.f (.ext 51) [.v 0]],.k (.bool true),.f .ite [.f .ltI [.fold 5 (.f .iota [.wh 5 (.f .ite [.f .ltI [.v 7,.f .len [.v 4]],.f .ltI [.f (.get 0) [.f .at [.v 4,.v 7]],.f (.get 0) [.v 3]],.k (.bool false)]) [.k (.int 0)] [.f (.add .i64) [.v 7,.k (.int 1)]]]) [.k (.int 0)] [.f (.add .i64) [.v 7,.k (.int 1)]] 0,.f .len [.v 4]],.f .eqI [.f (.get 0) [.f .at [.v 4,.fold 5 (.f .iota [.wh 5 (.f .ite [.f .ltI [.v 7,.f .len [.v 4]],.f .ltI [.f (.get 0) [.f .at [.v 4,.v 7]],.f (.get 0) [.v 3]],.k (.bool false)]) [.k (.int 0)] [.f (.add .i64) [.v 7,.k (.int 1)]]]) [.k (.int 0)] [.f (.add .i64) [.v 7,.k (.int 1)]] 0]],.f (.get 0) [.v 3]],.k (.bool false)]]) false [.idx (.fold 5 (.f .iota [.wh 5 (.f .ite [.f .ltI [.v 7,.f .len [.v 4]],.f .ltI [.f (.get 0) [.f .at [.v 4,.v 7]],.f (.get 0) [.v 3]],.k (.bool false)]) [.k (.int 0)] [.f (.add .i64) [.v 7,.k (.int 1)]]]) [.k (.int 0)] [.f (.add .i64) [.v 7,.k (.int 1)]] 0) (.fold 5 (.f .iota [.wh 5 (.f .ltI [.fold 5 (.f .iota [.wh 5 (.f .ite [.f .ltI [.v 7,.f .len [.v 4]],.f .ltI [.f (.get 0) [.f .at [.v 4,.v 7]],.f (.get 0) [.v 3]],.k (.bool false)]) [.k (.int 0)] [.f (.add .i64) [.v 7,.k (.int 1)]]]) [.k (.int 0)] [.f (.add .i64) [.v 7,.k (.int 1)]] 0,.v 7]) [.f (.sub .i64) [.f .len [.f .app [.v 4,.f .mklist [.f .mkrow [.k (.int 0),.k .nil]]]],.k (.int 1)],.f .app [.v 4,.f .mklist [.f .mkrow [.k (.int 0),.k .nil]]]] [.f (.sub .i64) [.v 7,.k (.int 1)],.f .setAt [.v 8,.v 7,.f .at [.v 8,.f (.sub .i64) [.v 7,.k (.int 1)]]]]]) [.f (.sub .i64) [.f .len [.f .app [.v 4,.f .mklist [.f .mkrow [.k (.int 0),.k .nil]]]],.k (.int 1)],.f .app [.v 4,.f .mklist [.f .mkrow [.k (.int 0),.k .nil]]]] [.f (.sub .i64) [.v 7,.k (.int 1)],.f .setAt [.v 8,.v 7,.f .at [.v 8,.f (.sub .i64) [.v 7,.k (.int 1)]]]] 1) true,.idx (.fold 5 (.f .iota [.wh 5 (.f .ite [.f .ltI [.v 7,.f .len [.v 4]],.f .ltI [.f (.get 0) [.f .at [.v 4,.v 7]],.f (.get 0) [.v 3]],.k (.bool false)]) [.k (.int 0)] [.f (.add .i64) [.v 7,.k (.int 1)]]]) [.k (.int 0)] [.f (.add .i64) [.v 7,.k (.int 1)]] 0) (.fold 5 (.f .iota [.wh 5 (.f .ltI [.fold 5 (.f .iota [.wh 5 (.f .ite [.f .ltI [.v 7,.f .len [.v 4]],.f .ltI [.f (.get 0) [.f .at [.v 4,.v 7]],.f (.get 0) [.v 3]],.k (.bool false)]) [.k (.int 0)] [.f (.add .i64) [.v 7,.k (.int 1)]]]) [.k (.int 0)] [.f (.add .i64) [.v 7,.k (.int 1)]] 0,.v 7]) [.f (.sub .i64) [.f .len [.f .app [.v 4,.f .mklist [.f .mkrow [.k (.int 0),.k .nil]]]],.k (.int 1)],.f .app [.v 4,.f .mklist [.f .mkrow [.k (.int 0),.k .nil]]]] [.f (.sub .i64) [.v 7,.k (.int 1)],.f .setAt [.v 8,.v 7,.f .at [.v 8,.f (.sub .i64) [.v 7,.k (.int 1)]]]]]) [.f (.sub .i64) [.f .len [.f .app [.v 4,.f .mklist [.f .mkrow [.k (.int 0),.k .nil]]]],.k (.int 1)],.f .app [.v 4,.f .mklist [.f .mkrow [.k (.int 0),.k .nil]]]] [.f (.sub .i64) [.v 7,.k (.int 1)],.f .setAt [.v 8,.v 7,.f .at [.v 8,.f (.sub .i64) [.v 7,.k (.int 1)]]]] 1) true,(.term 5 (.f .ltI [.fold 5 (.f .iota [.wh 5 (.f .ite [.f .ltI [.v 7,.f .len [.v 4]],.f .ltI [.f (.get 0) [.f .at [.v 4,.v 7]],.f (.get 0) [.v 3]],.k (.bool false)]) [.k (.int 0)] [.f (.add .i64) [.v 7,.k (.int 1)]]]) [.k (.int 0)] [.f (.add .i64) [.v 7,.k (.int 1)]] 0,.v 7]) [.f (.sub .i64) [.f .len [.f .app [.v 4,.f .mklist [.f .mkrow [.k (.int 0),.k .nil]]]],.k (.int 1)],.f .app [.v 4,.f .mklist [.f .mkrow [.k (.int 0),.k .nil]]]] [.f (.sub .i64) [.v 7,.k (.int 1)],.f .setAt [.v 8,.v 7,.f .at [.v 8,.f (.sub .i64) [.v 7,.k (.int 1)]]]]),.all (.f .iotaS [.wh 5 (.f .ltI [.fold 5 (.f .iota [.wh 5 (.f .ite [.f .ltI [.v 7,.f .len [.v 4]],.f .ltI [.f (.get 0) [.f .at [.v 4,.v 7]],.f (.get 0) [.v 3]],.k (.bool false)]) [.k (.int 0)] [.f (.add .i64) [.v 7,.k (.int 1)]]]) [.k (.int 0)] [.f (.add .i64) [.v 7,.k (.int 1)]] 0,.v 7]) [.f (.sub .i64) [.f .len [.f .app [.v 4,.f .mklist [.f .mkrow [.k (.int 0),.k .nil]]]],.k (.int 1)],.f .app [.v 4,.f .mklist [.f .mkrow [.k (.int 0),.k .nil]]]] [.f (.sub .i64) [.v 7,.k (.int 1)],.f .setAt [.v 8,.v 7,.f .at [.v 8,.f (.sub .i64) [.v 7,.k (.int 1)]]]]]) [.f (.sub .i64) [.f .len [.f .app [.v 4,.f .mklist [.f .mkrow [.k (.int 0),.k .nil]]]],.k (.int 1)],.f .app [.v 4,.f .mklist [.f .mkrow [.k (.int 0),.k .nil]]]] [.f (.sub .i64) [.v 7,.k (.int 1)],.f .setAt [.v 8,.v 7,.f .at [.v 8,.f (.sub .i64) [.v 7,.k (.int 1)]]]] [.when (.f .ltI [.fold 5 (.f .iota [.wh 5 (.f .ite [.f .ltI [.v 7,.f .len [.v 4]],.f .ltI [.f (.get 0) [.f .at [.v 4,.v 7]],.f (.get 0) [.v 3]],.k (.bool false)]) [.k (.int 0)] [.f (.add .i64) [.v 7,.k (.int 1)]]]) [.k (.int 0)] [.f (.add .i64) [.v 7,.k (.int 1)]] 0,.v 7]) true [.idx (.v 7) (.v 8) true,.idx (.v 7) (.v 8) true,.idx (.f (.sub .i64) [.v 7,.k (.int 1)]) (.v 8) true,.idx (.f (.sub .i64) [.v 7,.k (.int 1)]) (.v 8) true]],.room (.f .app [.v 4,.f .mklist [.f .mkrow [.k (.int 0),.k .nil]]]) 32],.when (.f .ltI [.f (.get 0) [.v 3],.f (.ext 51) [.v 0]]) false [.when (.f .ltI [.fold 5 (.f .iota [.wh 5 (.f .ite [.f .ltI [.v 7,.f .len [.v 4]],.f .ltI [.f (.get 0) [.f .at [.v 4,.v 7]],.f (.get 0) [.v 3]],.k (.bool false)]) [.k (.int 0)] [.f (.add .i64) [.v 7,.k (.int 1)]]]) [.k (.int 0)] [.f (.add .i64) [.v 7,.k (.int 1)]] 0,.f .len [.v 4]]) true [.idx (.fold 5 (.f .iota [.wh 5 (.f .ite [.f .ltI [.v 7,.f .len [.v 4]],.f .ltI [.f (.get 0) [.f .at [.v 4,.v 7]],.f (.get 0) [.v 3]],.k (.bool false)]) [.k (.int 0)] [.f (.add .i64) [.v 7,.k (.int 1)]]]) [.k (.int 0)] [.f (.add .i64) [.v 7,.k (.int 1)]] 0) (.v 4) true,.idx (.fold 5 (.f .iota [.wh 5 (.f .ite [.f .ltI [.v 7,.f .len [.v 4]],.f .ltI [.f (.get 0) [.f .at [.v 4,.v 7]],.f (.get 0) [.v 3]],.k (.bool false)]) [.k (.int 0)] [.f (.add .i64) [.v 7,.k (.int 1)]]]) [.k (.int 0)] [.f (.add .i64) [.v 7,.k (.int 1)]] 0) (.v 4) true]],(.term 5 (.f .ite [.f .ltI [.v 7,.f .len [.v 4]],.f .ltI [.f (.get 0) [.f .at [.v 4,.v 7]],.f (.get 0) [.v 3]],.k (.bool false)]) [.k (.int 0)] [.f (.add .i64) [.v 7,.k (.int 1)]]),.all (.f .iotaS [.wh 5 (.f .ite [.f .ltI [.v 7,.f .len [.v 4]],.f .ltI [.f (.get 0) [.f .at [.v 4,.v 7]],.f (.get 0) [.v 3]],.k (.bool false)]) [.k (.int 0)] [.f (.add .i64) [.v 7,.k (.int 1)]]]) [.k (.int 0)] [.f (.add .i64) [.v 7,.k (.int 1)]] [.when (.f .ltI [.v 7,.f .len [.v 4]]) true [.idx (.v 7) (.v 4) true,.idx (.v 7) (.v 4) true]]],.idx (.f .imin [.f .len [.v 1],.k (.int 32767)]) (.v 1) false,.pre 51 [.v 0]]
def de42:DE:=(.f .ite [.f .ite [.f .eqI [.f (.get 0) [.v 0],.k (.int 8)],.f .eqI [.f (.get 0) [.v 0],.k (.int 8)],.f .eqI [.f (.get 0) [.v 0],.k (.int 9)]],.f .mkrow [.k (.int 0),.f .take [.f (.get 1) [.v 2],.f .imin [.f .len [.f (.get 1) [.v 2]],.k (.int 32767)]],.f (.ext 56) [.v 0,.v 1,.v 2],.k .nil,.k .nil],.f .ite [.f .eqI [.f (.get 0) [.v 0],.k (.int 10)],.f .mkrow [.f (.get 0) [.f (.ext 43) [.f (.get 7) [.v 0],.v 1,.v 2]],.f (.get 1) [.f (.ext 43) [.f (.get 7) [.v 0],.v 1,.v 2]],.f (.ext 56) [.v 0,.v 1,.v 2],.f (.get 3) [.f (.ext 43) [.f (.get 7) [.v 0],.v 1,.v 2]],.f (.get 4) [.f (.ext 43) [.f (.get 7) [.v 0],.v 1,.v 2]]],.f .ite [.f .eqI [.f (.get 0) [.v 0],.k (.int 11)],.f .mkrow [.k (.int 0),.k .nil,.f .ite [.f (.ext 56) [.v 0,.v 1,.v 2],.k (.bool true),.f .ite [.f .leI [.k (.int 0),.f (.get 4) [.v 0]],.f .eqI [.f .len [.f (.get 3) [.v 2]],.k (.int 0)],.k (.bool false)]],.fold 3 (.f .take [.f (.get 3) [.v 2],.f .imin [.f .len [.f (.get 3) [.v 2]],.k (.int 32767)]]) [.k .nil] [.f .app [.v 5,.f .mklist [.f (.ext 42) [.f .mkrow [.f (.get 6) [.v 0],.f (.get 1) [.v 0],.f (.get 2) [.v 0],.k (.int (-1)),.k (.int (-1)),.f (.get 5) [.v 0],.f (.get 6) [.v 0],.f (.get 7) [.v 0]],.v 1,.v 4]]]] 0,.k .nil],.f .mkrow [.f (.get 0) [.v 2],.f (.get 1) [.v 2],.k (.bool false),.k .nil,.k .nil]]]])
def ob42:List Ob:=[.when (.f .ite [.f .eqI [.f (.get 0) [.v 0],.k (.int 8)],.f .eqI [.f (.get 0) [.v 0],.k (.int 8)],.f .eqI [.f (.get 0) [.v 0],.k (.int 9)]]) true [.idx (.f .imin [.f .len [.f (.get 1) [.v 2]],.k (.int 32767)]) (.f (.get 1) [.v 2]) false],.when (.f .ite [.f .eqI [.f (.get 0) [.v 0],.k (.int 8)],.f .eqI [.f (.get 0) [.v 0],.k (.int 8)],.f .eqI [.f (.get 0) [.v 0],.k (.int 9)]]) false [.when (.f .eqI [.f (.get 0) [.v 0],.k (.int 10)]) true [.pre 43 [.f (.get 7) [.v 0],.v 1,.v 2]],.when (.f .eqI [.f (.get 0) [.v 0],.k (.int 10)]) false [.when (.f .eqI [.f (.get 0) [.v 0],.k (.int 11)]) true [.all (.f .take [.f (.get 3) [.v 2],.f .imin [.f .len [.f (.get 3) [.v 2]],.k (.int 32767)]]) [.k .nil] [.f .app [.v 5,.f .mklist [.f (.ext 42) [.f .mkrow [.f (.get 6) [.v 0],.f (.get 1) [.v 0],.f (.get 2) [.v 0],.k (.int (-1)),.k (.int (-1)),.f (.get 5) [.v 0],.f (.get 6) [.v 0],.f (.get 7) [.v 0]],.v 1,.v 4]]]] [.room (.f .app [.v 5,.f .mklist [.f (.ext 42) [.f .mkrow [.f (.get 6) [.v 0],.f (.get 1) [.v 0],.f (.get 2) [.v 0],.k (.int (-1)),.k (.int (-1)),.f (.get 5) [.v 0],.f (.get 6) [.v 0],.f (.get 7) [.v 0]],.v 1,.v 4]]]) 88,.pre 42 [.f .mkrow [.f (.get 6) [.v 0],.f (.get 1) [.v 0],.f (.get 2) [.v 0],.k (.int (-1)),.k (.int (-1)),.f (.get 5) [.v 0],.f (.get 6) [.v 0],.f (.get 7) [.v 0]],.v 1,.v 4]],.idx (.f .imin [.f .len [.f (.get 3) [.v 2]],.k (.int 32767)]) (.f (.get 3) [.v 2]) false]]],.pre 56 [.v 0,.v 1,.v 2]]
def de45:DE:=(.fold 2 (.f .iota [.wh 2 (.f .leI [.k (.int 0),.v 4]) [.f (.sub .i64) [.v 1,.k (.int 1)],.k .nil] [.f (.sub .i64) [.v 4,.k (.int 1)],.f .app [.v 5,.f .mkbytes [.f (.wrap .u8) [.f (.shr .i64) [.v 0,.f (.mul .i64) [.k (.int 8),.v 4]]]]]]]) [.f (.sub .i64) [.v 1,.k (.int 1)],.k .nil] [.f (.sub .i64) [.v 4,.k (.int 1)],.f .app [.v 5,.f .mkbytes [.f (.wrap .u8) [.f (.shr .i64) [.v 0,.f (.mul .i64) [.k (.int 8),.v 4]]]]]] 1)
def ob45:List Ob:=[(.term 2 (.f .leI [.k (.int 0),.v 4]) [.f (.sub .i64) [.v 1,.k (.int 1)],.k .nil] [.f (.sub .i64) [.v 4,.k (.int 1)],.f .app [.v 5,.f .mkbytes [.f (.wrap .u8) [.f (.shr .i64) [.v 0,.f (.mul .i64) [.k (.int 8),.v 4]]]]]]),.all (.f .iotaS [.wh 2 (.f .leI [.k (.int 0),.v 4]) [.f (.sub .i64) [.v 1,.k (.int 1)],.k .nil] [.f (.sub .i64) [.v 4,.k (.int 1)],.f .app [.v 5,.f .mkbytes [.f (.wrap .u8) [.f (.shr .i64) [.v 0,.f (.mul .i64) [.k (.int 8),.v 4]]]]]]]) [.f (.sub .i64) [.v 1,.k (.int 1)],.k .nil] [.f (.sub .i64) [.v 4,.k (.int 1)],.f .app [.v 5,.f .mkbytes [.f (.wrap .u8) [.f (.shr .i64) [.v 0,.f (.mul .i64) [.k (.int 8),.v 4]]]]]] [.when (.f .leI [.k (.int 0),.v 4]) true [.room (.f .app [.v 5,.f .mkbytes [.f (.wrap .u8) [.f (.shr .i64) [.v 0,.f (.mul .i64) [.k (.int 8),.v 4]]]]]) 1,(.ge0 (.f (.mul .i64) [.k (.int 8),.v 4]))]]]
def de46:DE:=(.f .app [.fold 1 (.f .iota [.wh 1 (.f .ltI [.k (.int 127),.v 4]) [.k .nil,.v 0] [.f .app [.v 3,.f .mkbytes [.f (.bor .u8) [.f (.wrap .u8) [.f (.band .u64) [.v 4,.k (.int 127)]],.k (.int 128)]]],.f (.shr .u64) [.v 4,.k (.int 7)]]]) [.k .nil,.v 0] [.f .app [.v 3,.f .mkbytes [.f (.bor .u8) [.f (.wrap .u8) [.f (.band .u64) [.v 4,.k (.int 127)]],.k (.int 128)]]],.f (.shr .u64) [.v 4,.k (.int 7)]] 0,.f .mkbytes [.f (.wrap .u8) [.fold 1 (.f .iota [.wh 1 (.f .ltI [.k (.int 127),.v 4]) [.k .nil,.v 0] [.f .app [.v 3,.f .mkbytes [.f (.bor .u8) [.f (.wrap .u8) [.f (.band .u64) [.v 4,.k (.int 127)]],.k (.int 128)]]],.f (.shr .u64) [.v 4,.k (.int 7)]]]) [.k .nil,.v 0] [.f .app [.v 3,.f .mkbytes [.f (.bor .u8) [.f (.wrap .u8) [.f (.band .u64) [.v 4,.k (.int 127)]],.k (.int 128)]]],.f (.shr .u64) [.v 4,.k (.int 7)]] 1]]])
def ob46:List Ob:=[.room (.f .app [.fold 1 (.f .iota [.wh 1 (.f .ltI [.k (.int 127),.v 4]) [.k .nil,.v 0] [.f .app [.v 3,.f .mkbytes [.f (.bor .u8) [.f (.wrap .u8) [.f (.band .u64) [.v 4,.k (.int 127)]],.k (.int 128)]]],.f (.shr .u64) [.v 4,.k (.int 7)]]]) [.k .nil,.v 0] [.f .app [.v 3,.f .mkbytes [.f (.bor .u8) [.f (.wrap .u8) [.f (.band .u64) [.v 4,.k (.int 127)]],.k (.int 128)]]],.f (.shr .u64) [.v 4,.k (.int 7)]] 0,.f .mkbytes [.f (.wrap .u8) [.fold 1 (.f .iota [.wh 1 (.f .ltI [.k (.int 127),.v 4]) [.k .nil,.v 0] [.f .app [.v 3,.f .mkbytes [.f (.bor .u8) [.f (.wrap .u8) [.f (.band .u64) [.v 4,.k (.int 127)]],.k (.int 128)]]],.f (.shr .u64) [.v 4,.k (.int 7)]]]) [.k .nil,.v 0] [.f .app [.v 3,.f .mkbytes [.f (.bor .u8) [.f (.wrap .u8) [.f (.band .u64) [.v 4,.k (.int 127)]],.k (.int 128)]]],.f (.shr .u64) [.v 4,.k (.int 7)]] 1]]]) 1,(.term 1 (.f .ltI [.k (.int 127),.v 4]) [.k .nil,.v 0] [.f .app [.v 3,.f .mkbytes [.f (.bor .u8) [.f (.wrap .u8) [.f (.band .u64) [.v 4,.k (.int 127)]],.k (.int 128)]]],.f (.shr .u64) [.v 4,.k (.int 7)]]),.all (.f .iotaS [.wh 1 (.f .ltI [.k (.int 127),.v 4]) [.k .nil,.v 0] [.f .app [.v 3,.f .mkbytes [.f (.bor .u8) [.f (.wrap .u8) [.f (.band .u64) [.v 4,.k (.int 127)]],.k (.int 128)]]],.f (.shr .u64) [.v 4,.k (.int 7)]]]) [.k .nil,.v 0] [.f .app [.v 3,.f .mkbytes [.f (.bor .u8) [.f (.wrap .u8) [.f (.band .u64) [.v 4,.k (.int 127)]],.k (.int 128)]]],.f (.shr .u64) [.v 4,.k (.int 7)]] [.when (.f .ltI [.k (.int 127),.v 4]) true [.room (.f .app [.v 3,.f .mkbytes [.f (.bor .u8) [.f (.wrap .u8) [.f (.band .u64) [.v 4,.k (.int 127)]],.k (.int 128)]]]) 1]]]
def de47:DE:=(.f .ite [.f .not [.v 2],.fold 4 (.v 0) [.k .nil] [.f .ite [.f .ite [.f .ltI [.f (.get 4) [.v 5],.k (.int 0)],.f (.ext 57) [.v 5,.v 1],.k (.bool false)],.f .app [.v 6,.f (.ext 49) [.v 5,.v 1,.v 2,.f (.ext 40) [.v 3,.v 4]]],.v 6]] 0,.f .app [.f .app [.fold 4 (.v 0) [.k .nil] [.f .ite [.f .ite [.f .ltI [.f (.get 4) [.v 5],.k (.int 0)],.f (.ext 57) [.v 5,.v 1],.k (.bool false)],.f .app [.v 6,.f (.ext 49) [.v 5,.v 1,.v 2,.f (.ext 40) [.v 3,.v 4]]],.v 6]] 0,.f (.ext 46) [.f (.wrap .u64) [.fold 4 (.f (.ext 41) [.v 0,.f (.get 4) [.v 3]]) [.fold 4 (.f .iota [.f (.wrap .i64) [.f (.ext 51) [.v 0]]]) [.k (.int 0),.k .nil] [.fold 8 (.v 0) [.v 7,.v 6] [.f .ite [.f .ite [.f .eqI [.f (.get 4) [.v 9],.v 4],.f .not [.f (.ext 50) [.v 9,.f (.ext 40) [.v 3,.v 8]]],.k (.bool false)],.f .app [.f .app [.f .app [.v 10,.f (.ext 46) [.f (.wrap .u64) [.v 4]]],.f (.ext 46) [.f (.wrap .u64) [.f .len [.f (.ext 49) [.v 9,.v 1,.v 2,.f (.ext 40) [.v 3,.v 8]]]]]],.f (.ext 49) [.v 9,.v 1,.v 2,.f (.ext 40) [.v 3,.v 8]]],.v 10],.f .ite [.f .ite [.f .eqI [.f (.get 4) [.v 9],.v 4],.f .not [.f (.ext 50) [.v 9,.f (.ext 40) [.v 3,.v 8]]],.k (.bool false)],.f (.add .i64) [.v 11,.k (.int 1)],.v 11]] 1,.fold 8 (.v 0) [.v 7,.v 6] [.f .ite [.f .ite [.f .eqI [.f (.get 4) [.v 9],.v 4],.f .not [.f (.ext 50) [.v 9,.f (.ext 40) [.v 3,.v 8]]],.k (.bool false)],.f .app [.f .app [.f .app [.v 10,.f (.ext 46) [.f (.wrap .u64) [.v 4]]],.f (.ext 46) [.f (.wrap .u64) [.f .len [.f (.ext 49) [.v 9,.v 1,.v 2,.f (.ext 40) [.v 3,.v 8]]]]]],.f (.ext 49) [.v 9,.v 1,.v 2,.f (.ext 40) [.v 3,.v 8]]],.v 10],.f .ite [.f .ite [.f .eqI [.f (.get 4) [.v 9],.v 4],.f .not [.f (.ext 50) [.v 9,.f (.ext 40) [.v 3,.v 8]]],.k (.bool false)],.f (.add .i64) [.v 11,.k (.int 1)],.v 11]] 0] 1,.fold 4 (.f .iota [.f (.wrap .i64) [.f (.ext 51) [.v 0]]]) [.k (.int 0),.k .nil] [.fold 8 (.v 0) [.v 7,.v 6] [.f .ite [.f .ite [.f .eqI [.f (.get 4) [.v 9],.v 4],.f .not [.f (.ext 50) [.v 9,.f (.ext 40) [.v 3,.v 8]]],.k (.bool false)],.f .app [.f .app [.f .app [.v 10,.f (.ext 46) [.f (.wrap .u64) [.v 4]]],.f (.ext 46) [.f (.wrap .u64) [.f .len [.f (.ext 49) [.v 9,.v 1,.v 2,.f (.ext 40) [.v 3,.v 8]]]]]],.f (.ext 49) [.v 9,.v 1,.v 2,.f (.ext 40) [.v 3,.v 8]]],.v 10],.f .ite [.f .ite [.f .eqI [.f (.get 4) [.v 9],.v 4],.f .not [.f (.ext 50) [.v 9,.f (.ext 40) [.v 3,.v 8]]],.k (.bool false)],.f (.add .i64) [.v 11,.k (.int 1)],.v 11]] 1,.fold 8 (.v 0) [.v 7,.v 6] [.f .ite [.f .ite [.f .eqI [.f (.get 4) [.v 9],.v 4],.f .not [.f (.ext 50) [.v 9,.f (.ext 40) [.v 3,.v 8]]],.k (.bool false)],.f .app [.f .app [.f .app [.v 10,.f (.ext 46) [.f (.wrap .u64) [.v 4]]],.f (.ext 46) [.f (.wrap .u64) [.f .len [.f (.ext 49) [.v 9,.v 1,.v 2,.f (.ext 40) [.v 3,.v 8]]]]]],.f (.ext 49) [.v 9,.v 1,.v 2,.f (.ext 40) [.v 3,.v 8]]],.v 10],.f .ite [.f .ite [.f .eqI [.f (.get 4) [.v 9],.v 4],.f .not [.f (.ext 50) [.v 9,.f (.ext 40) [.v 3,.v 8]]],.k (.bool false)],.f (.add .i64) [.v 11,.k (.int 1)],.v 11]] 0] 0] [.f .app [.f .app [.f .app [.v 6,.f (.ext 46) [.f (.wrap .u64) [.f (.get 0) [.v 5]]]],.f (.ext 46) [.f (.wrap .u64) [.f .len [.f .take [.f (.get 1) [.v 5],.f .imin [.f .len [.f (.get 1) [.v 5]],.k (.int 32767)]]]]]],.f .take [.f (.get 1) [.v 5],.f .imin [.f .len [.f (.get 1) [.v 5]],.k (.int 32767)]]],.f (.add .i64) [.v 7,.k (.int 1)]] 1]]],.fold 4 (.f (.ext 41) [.v 0,.f (.get 4) [.v 3]]) [.fold 4 (.f .iota [.f (.wrap .i64) [.f (.ext 51) [.v 0]]]) [.k (.int 0),.k .nil] [.fold 8 (.v 0) [.v 7,.v 6] [.f .ite [.f .ite [.f .eqI [.f (.get 4) [.v 9],.v 4],.f .not [.f (.ext 50) [.v 9,.f (.ext 40) [.v 3,.v 8]]],.k (.bool false)],.f .app [.f .app [.f .app [.v 10,.f (.ext 46) [.f (.wrap .u64) [.v 4]]],.f (.ext 46) [.f (.wrap .u64) [.f .len [.f (.ext 49) [.v 9,.v 1,.v 2,.f (.ext 40) [.v 3,.v 8]]]]]],.f (.ext 49) [.v 9,.v 1,.v 2,.f (.ext 40) [.v 3,.v 8]]],.v 10],.f .ite [.f .ite [.f .eqI [.f (.get 4) [.v 9],.v 4],.f .not [.f (.ext 50) [.v 9,.f (.ext 40) [.v 3,.v 8]]],.k (.bool false)],.f (.add .i64) [.v 11,.k (.int 1)],.v 11]] 1,.fold 8 (.v 0) [.v 7,.v 6] [.f .ite [.f .ite [.f .eqI [.f (.get 4) [.v 9],.v 4],.f .not [.f (.ext 50) [.v 9,.f (.ext 40) [.v 3,.v 8]]],.k (.bool false)],.f .app [.f .app [.f .app [.v 10,.f (.ext 46) [.f (.wrap .u64) [.v 4]]],.f (.ext 46) [.f (.wrap .u64) [.f .len [.f (.ext 49) [.v 9,.v 1,.v 2,.f (.ext 40) [.v 3,.v 8]]]]]],.f (.ext 49) [.v 9,.v 1,.v 2,.f (.ext 40) [.v 3,.v 8]]],.v 10],.f .ite [.f .ite [.f .eqI [.f (.get 4) [.v 9],.v 4],.f .not [.f (.ext 50) [.v 9,.f (.ext 40) [.v 3,.v 8]]],.k (.bool false)],.f (.add .i64) [.v 11,.k (.int 1)],.v 11]] 0] 1,.fold 4 (.f .iota [.f (.wrap .i64) [.f (.ext 51) [.v 0]]]) [.k (.int 0),.k .nil] [.fold 8 (.v 0) [.v 7,.v 6] [.f .ite [.f .ite [.f .eqI [.f (.get 4) [.v 9],.v 4],.f .not [.f (.ext 50) [.v 9,.f (.ext 40) [.v 3,.v 8]]],.k (.bool false)],.f .app [.f .app [.f .app [.v 10,.f (.ext 46) [.f (.wrap .u64) [.v 4]]],.f (.ext 46) [.f (.wrap .u64) [.f .len [.f (.ext 49) [.v 9,.v 1,.v 2,.f (.ext 40) [.v 3,.v 8]]]]]],.f (.ext 49) [.v 9,.v 1,.v 2,.f (.ext 40) [.v 3,.v 8]]],.v 10],.f .ite [.f .ite [.f .eqI [.f (.get 4) [.v 9],.v 4],.f .not [.f (.ext 50) [.v 9,.f (.ext 40) [.v 3,.v 8]]],.k (.bool false)],.f (.add .i64) [.v 11,.k (.int 1)],.v 11]] 1,.fold 8 (.v 0) [.v 7,.v 6] [.f .ite [.f .ite [.f .eqI [.f (.get 4) [.v 9],.v 4],.f .not [.f (.ext 50) [.v 9,.f (.ext 40) [.v 3,.v 8]]],.k (.bool false)],.f .app [.f .app [.f .app [.v 10,.f (.ext 46) [.f (.wrap .u64) [.v 4]]],.f (.ext 46) [.f (.wrap .u64) [.f .len [.f (.ext 49) [.v 9,.v 1,.v 2,.f (.ext 40) [.v 3,.v 8]]]]]],.f (.ext 49) [.v 9,.v 1,.v 2,.f (.ext 40) [.v 3,.v 8]]],.v 10],.f .ite [.f .ite [.f .eqI [.f (.get 4) [.v 9],.v 4],.f .not [.f (.ext 50) [.v 9,.f (.ext 40) [.v 3,.v 8]]],.k (.bool false)],.f (.add .i64) [.v 11,.k (.int 1)],.v 11]] 0] 0] [.f .app [.f .app [.f .app [.v 6,.f (.ext 46) [.f (.wrap .u64) [.f (.get 0) [.v 5]]]],.f (.ext 46) [.f (.wrap .u64) [.f .len [.f .take [.f (.get 1) [.v 5],.f .imin [.f .len [.f (.get 1) [.v 5]],.k (.int 32767)]]]]]],.f .take [.f (.get 1) [.v 5],.f .imin [.f .len [.f (.get 1) [.v 5]],.k (.int 32767)]]],.f (.add .i64) [.v 7,.k (.int 1)]] 0]])
def ob47:List Ob:=[.when (.f .not [.v 2]) false [.room (.f .app [.f .app [.fold 4 (.v 0) [.k .nil] [.f .ite [.f .ite [.f .ltI [.f (.get 4) [.v 5],.k (.int 0)],.f (.ext 57) [.v 5,.v 1],.k (.bool false)],.f .app [.v 6,.f (.ext 49) [.v 5,.v 1,.v 2,.f (.ext 40) [.v 3,.v 4]]],.v 6]] 0,.f (.ext 46) [.f (.wrap .u64) [.fold 4 (.f (.ext 41) [.v 0,.f (.get 4) [.v 3]]) [.fold 4 (.f .iota [.f (.wrap .i64) [.f (.ext 51) [.v 0]]]) [.k (.int 0),.k .nil] [.fold 8 (.v 0) [.v 7,.v 6] [.f .ite [.f .ite [.f .eqI [.f (.get 4) [.v 9],.v 4],.f .not [.f (.ext 50) [.v 9,.f (.ext 40) [.v 3,.v 8]]],.k (.bool false)],.f .app [.f .app [.f .app [.v 10,.f (.ext 46) [.f (.wrap .u64) [.v 4]]],.f (.ext 46) [.f (.wrap .u64) [.f .len [.f (.ext 49) [.v 9,.v 1,.v 2,.f (.ext 40) [.v 3,.v 8]]]]]],.f (.ext 49) [.v 9,.v 1,.v 2,.f (.ext 40) [.v 3,.v 8]]],.v 10],.f .ite [.f .ite [.f .eqI [.f (.get 4) [.v 9],.v 4],.f .not [.f (.ext 50) [.v 9,.f (.ext 40) [.v 3,.v 8]]],.k (.bool false)],.f (.add .i64) [.v 11,.k (.int 1)],.v 11]] 1,.fold 8 (.v 0) [.v 7,.v 6] [.f .ite [.f .ite [.f .eqI [.f (.get 4) [.v 9],.v 4],.f .not [.f (.ext 50) [.v 9,.f (.ext 40) [.v 3,.v 8]]],.k (.bool false)],.f .app [.f .app [.f .app [.v 10,.f (.ext 46) [.f (.wrap .u64) [.v 4]]],.f (.ext 46) [.f (.wrap .u64) [.f .len [.f (.ext 49) [.v 9,.v 1,.v 2,.f (.ext 40) [.v 3,.v 8]]]]]],.f (.ext 49) [.v 9,.v 1,.v 2,.f (.ext 40) [.v 3,.v 8]]],.v 10],.f .ite [.f .ite [.f .eqI [.f (.get 4) [.v 9],.v 4],.f .not [.f (.ext 50) [.v 9,.f (.ext 40) [.v 3,.v 8]]],.k (.bool false)],.f (.add .i64) [.v 11,.k (.int 1)],.v 11]] 0] 1,.fold 4 (.f .iota [.f (.wrap .i64) [.f (.ext 51) [.v 0]]]) [.k (.int 0),.k .nil] [.fold 8 (.v 0) [.v 7,.v 6] [.f .ite [.f .ite [.f .eqI [.f (.get 4) [.v 9],.v 4],.f .not [.f (.ext 50) [.v 9,.f (.ext 40) [.v 3,.v 8]]],.k (.bool false)],.f .app [.f .app [.f .app [.v 10,.f (.ext 46) [.f (.wrap .u64) [.v 4]]],.f (.ext 46) [.f (.wrap .u64) [.f .len [.f (.ext 49) [.v 9,.v 1,.v 2,.f (.ext 40) [.v 3,.v 8]]]]]],.f (.ext 49) [.v 9,.v 1,.v 2,.f (.ext 40) [.v 3,.v 8]]],.v 10],.f .ite [.f .ite [.f .eqI [.f (.get 4) [.v 9],.v 4],.f .not [.f (.ext 50) [.v 9,.f (.ext 40) [.v 3,.v 8]]],.k (.bool false)],.f (.add .i64) [.v 11,.k (.int 1)],.v 11]] 1,.fold 8 (.v 0) [.v 7,.v 6] [.f .ite [.f .ite [.f .eqI [.f (.get 4) [.v 9],.v 4],.f .not [.f (.ext 50) [.v 9,.f (.ext 40) [.v 3,.v 8]]],.k (.bool false)],.f .app [.f .app [.f .app [.v 10,.f (.ext 46) [.f (.wrap .u64) [.v 4]]],.f (.ext 46) [.f (.wrap .u64) [.f .len [.f (.ext 49) [.v 9,.v 1,.v 2,.f (.ext 40) [.v 3,.v 8]]]]]],.f (.ext 49) [.v 9,.v 1,.v 2,.f (.ext 40) [.v 3,.v 8]]],.v 10],.f .ite [.f .ite [.f .eqI [.f (.get 4) [.v 9],.v 4],.f .not [.f (.ext 50) [.v 9,.f (.ext 40) [.v 3,.v 8]]],.k (.bool false)],.f (.add .i64) [.v 11,.k (.int 1)],.v 11]] 0] 0] [.f .app [.f .app [.f .app [.v 6,.f (.ext 46) [.f (.wrap .u64) [.f (.get 0) [.v 5]]]],.f (.ext 46) [.f (.wrap .u64) [.f .len [.f .take [.f (.get 1) [.v 5],.f .imin [.f .len [.f (.get 1) [.v 5]],.k (.int 32767)]]]]]],.f .take [.f (.get 1) [.v 5],.f .imin [.f .len [.f (.get 1) [.v 5]],.k (.int 32767)]]],.f (.add .i64) [.v 7,.k (.int 1)]] 1]]],.fold 4 (.f (.ext 41) [.v 0,.f (.get 4) [.v 3]]) [.fold 4 (.f .iota [.f (.wrap .i64) [.f (.ext 51) [.v 0]]]) [.k (.int 0),.k .nil] [.fold 8 (.v 0) [.v 7,.v 6] [.f .ite [.f .ite [.f .eqI [.f (.get 4) [.v 9],.v 4],.f .not [.f (.ext 50) [.v 9,.f (.ext 40) [.v 3,.v 8]]],.k (.bool false)],.f .app [.f .app [.f .app [.v 10,.f (.ext 46) [.f (.wrap .u64) [.v 4]]],.f (.ext 46) [.f (.wrap .u64) [.f .len [.f (.ext 49) [.v 9,.v 1,.v 2,.f (.ext 40) [.v 3,.v 8]]]]]],.f (.ext 49) [.v 9,.v 1,.v 2,.f (.ext 40) [.v 3,.v 8]]],.v 10],.f .ite [.f .ite [.f .eqI [.f (.get 4) [.v 9],.v 4],.f .not [.f (.ext 50) [.v 9,.f (.ext 40) [.v 3,.v 8]]],.k (.bool false)],.f (.add .i64) [.v 11,.k (.int 1)],.v 11]] 1,.fold 8 (.v 0) [.v 7,.v 6] [.f .ite [.f .ite [.f .eqI [.f (.get 4) [.v 9],.v 4],.f .not [.f (.ext 50) [.v 9,.f (.ext 40) [.v 3,.v 8]]],.k (.bool false)],.f .app [.f .app [.f .app [.v 10,.f (.ext 46) [.f (.wrap .u64) [.v 4]]],.f (.ext 46) [.f (.wrap .u64) [.f .len [.f (.ext 49) [.v 9,.v 1,.v 2,.f (.ext 40) [.v 3,.v 8]]]]]],.f (.ext 49) [.v 9,.v 1,.v 2,.f (.ext 40) [.v 3,.v 8]]],.v 10],.f .ite [.f .ite [.f .eqI [.f (.get 4) [.v 9],.v 4],.f .not [.f (.ext 50) [.v 9,.f (.ext 40) [.v 3,.v 8]]],.k (.bool false)],.f (.add .i64) [.v 11,.k (.int 1)],.v 11]] 0] 1,.fold 4 (.f .iota [.f (.wrap .i64) [.f (.ext 51) [.v 0]]]) [.k (.int 0),.k .nil] [.fold 8 (.v 0) [.v 7,.v 6] [.f .ite [.f .ite [.f .eqI [.f (.get 4) [.v 9],.v 4],.f .not [.f (.ext 50) [.v 9,.f (.ext 40) [.v 3,.v 8]]],.k (.bool false)],.f .app [.f .app [.f .app [.v 10,.f (.ext 46) [.f (.wrap .u64) [.v 4]]],.f (.ext 46) [.f (.wrap .u64) [.f .len [.f (.ext 49) [.v 9,.v 1,.v 2,.f (.ext 40) [.v 3,.v 8]]]]]],.f (.ext 49) [.v 9,.v 1,.v 2,.f (.ext 40) [.v 3,.v 8]]],.v 10],.f .ite [.f .ite [.f .eqI [.f (.get 4) [.v 9],.v 4],.f .not [.f (.ext 50) [.v 9,.f (.ext 40) [.v 3,.v 8]]],.k (.bool false)],.f (.add .i64) [.v 11,.k (.int 1)],.v 11]] 1,.fold 8 (.v 0) [.v 7,.v 6] [.f .ite [.f .ite [.f .eqI [.f (.get 4) [.v 9],.v 4],.f .not [.f (.ext 50) [.v 9,.f (.ext 40) [.v 3,.v 8]]],.k (.bool false)],.f .app [.f .app [.f .app [.v 10,.f (.ext 46) [.f (.wrap .u64) [.v 4]]],.f (.ext 46) [.f (.wrap .u64) [.f .len [.f (.ext 49) [.v 9,.v 1,.v 2,.f (.ext 40) [.v 3,.v 8]]]]]],.f (.ext 49) [.v 9,.v 1,.v 2,.f (.ext 40) [.v 3,.v 8]]],.v 10],.f .ite [.f .ite [.f .eqI [.f (.get 4) [.v 9],.v 4],.f .not [.f (.ext 50) [.v 9,.f (.ext 40) [.v 3,.v 8]]],.k (.bool false)],.f (.add .i64) [.v 11,.k (.int 1)],.v 11]] 0] 0] [.f .app [.f .app [.f .app [.v 6,.f (.ext 46) [.f (.wrap .u64) [.f (.get 0) [.v 5]]]],.f (.ext 46) [.f (.wrap .u64) [.f .len [.f .take [.f (.get 1) [.v 5],.f .imin [.f .len [.f (.get 1) [.v 5]],.k (.int 32767)]]]]]],.f .take [.f (.get 1) [.v 5],.f .imin [.f .len [.f (.get 1) [.v 5]],.k (.int 32767)]]],.f (.add .i64) [.v 7,.k (.int 1)]] 0]) 1,.room (.f .app [.fold 4 (.v 0) [.k .nil] [.f .ite [.f .ite [.f .ltI [.f (.get 4) [.v 5],.k (.int 0)],.f (.ext 57) [.v 5,.v 1],.k (.bool false)],.f .app [.v 6,.f (.ext 49) [.v 5,.v 1,.v 2,.f (.ext 40) [.v 3,.v 4]]],.v 6]] 0,.f (.ext 46) [.f (.wrap .u64) [.fold 4 (.f (.ext 41) [.v 0,.f (.get 4) [.v 3]]) [.fold 4 (.f .iota [.f (.wrap .i64) [.f (.ext 51) [.v 0]]]) [.k (.int 0),.k .nil] [.fold 8 (.v 0) [.v 7,.v 6] [.f .ite [.f .ite [.f .eqI [.f (.get 4) [.v 9],.v 4],.f .not [.f (.ext 50) [.v 9,.f (.ext 40) [.v 3,.v 8]]],.k (.bool false)],.f .app [.f .app [.f .app [.v 10,.f (.ext 46) [.f (.wrap .u64) [.v 4]]],.f (.ext 46) [.f (.wrap .u64) [.f .len [.f (.ext 49) [.v 9,.v 1,.v 2,.f (.ext 40) [.v 3,.v 8]]]]]],.f (.ext 49) [.v 9,.v 1,.v 2,.f (.ext 40) [.v 3,.v 8]]],.v 10],.f .ite [.f .ite [.f .eqI [.f (.get 4) [.v 9],.v 4],.f .not [.f (.ext 50) [.v 9,.f (.ext 40) [.v 3,.v 8]]],.k (.bool false)],.f (.add .i64) [.v 11,.k (.int 1)],.v 11]] 1,.fold 8 (.v 0) [.v 7,.v 6] [.f .ite [.f .ite [.f .eqI [.f (.get 4) [.v 9],.v 4],.f .not [.f (.ext 50) [.v 9,.f (.ext 40) [.v 3,.v 8]]],.k (.bool false)],.f .app [.f .app [.f .app [.v 10,.f (.ext 46) [.f (.wrap .u64) [.v 4]]],.f (.ext 46) [.f (.wrap .u64) [.f .len [.f (.ext 49) [.v 9,.v 1,.v 2,.f (.ext 40) [.v 3,.v 8]]]]]],.f (.ext 49) [.v 9,.v 1,.v 2,.f (.ext 40) [.v 3,.v 8]]],.v 10],.f .ite [.f .ite [.f .eqI [.f (.get 4) [.v 9],.v 4],.f .not [.f (.ext 50) [.v 9,.f (.ext 40) [.v 3,.v 8]]],.k (.bool false)],.f (.add .i64) [.v 11,.k (.int 1)],.v 11]] 0] 1,.fold 4 (.f .iota [.f (.wrap .i64) [.f (.ext 51) [.v 0]]]) [.k (.int 0),.k .nil] [.fold 8 (.v 0) [.v 7,.v 6] [.f .ite [.f .ite [.f .eqI [.f (.get 4) [.v 9],.v 4],.f .not [.f (.ext 50) [.v 9,.f (.ext 40) [.v 3,.v 8]]],.k (.bool false)],.f .app [.f .app [.f .app [.v 10,.f (.ext 46) [.f (.wrap .u64) [.v 4]]],.f (.ext 46) [.f (.wrap .u64) [.f .len [.f (.ext 49) [.v 9,.v 1,.v 2,.f (.ext 40) [.v 3,.v 8]]]]]],.f (.ext 49) [.v 9,.v 1,.v 2,.f (.ext 40) [.v 3,.v 8]]],.v 10],.f .ite [.f .ite [.f .eqI [.f (.get 4) [.v 9],.v 4],.f .not [.f (.ext 50) [.v 9,.f (.ext 40) [.v 3,.v 8]]],.k (.bool false)],.f (.add .i64) [.v 11,.k (.int 1)],.v 11]] 1,.fold 8 (.v 0) [.v 7,.v 6] [.f .ite [.f .ite [.f .eqI [.f (.get 4) [.v 9],.v 4],.f .not [.f (.ext 50) [.v 9,.f (.ext 40) [.v 3,.v 8]]],.k (.bool false)],.f .app [.f .app [.f .app [.v 10,.f (.ext 46) [.f (.wrap .u64) [.v 4]]],.f (.ext 46) [.f (.wrap .u64) [.f .len [.f (.ext 49) [.v 9,.v 1,.v 2,.f (.ext 40) [.v 3,.v 8]]]]]],.f (.ext 49) [.v 9,.v 1,.v 2,.f (.ext 40) [.v 3,.v 8]]],.v 10],.f .ite [.f .ite [.f .eqI [.f (.get 4) [.v 9],.v 4],.f .not [.f (.ext 50) [.v 9,.f (.ext 40) [.v 3,.v 8]]],.k (.bool false)],.f (.add .i64) [.v 11,.k (.int 1)],.v 11]] 0] 0] [.f .app [.f .app [.f .app [.v 6,.f (.ext 46) [.f (.wrap .u64) [.f (.get 0) [.v 5]]]],.f (.ext 46) [.f (.wrap .u64) [.f .len [.f .take [.f (.get 1) [.v 5],.f .imin [.f .len [.f (.get 1) [.v 5]],.k (.int 32767)]]]]]],.f .take [.f (.get 1) [.v 5],.f .imin [.f .len [.f (.get 1) [.v 5]],.k (.int 32767)]]],.f (.add .i64) [.v 7,.k (.int 1)]] 1]]]) 1,.pre 46 [.f (.wrap .u64) [.fold 4 (.f (.ext 41) [.v 0,.f (.get 4) [.v 3]]) [.fold 4 (.f .iota [.f (.wrap .i64) [.f (.ext 51) [.v 0]]]) [.k (.int 0),.k .nil] [.fold 8 (.v 0) [.v 7,.v 6] [.f .ite [.f .ite [.f .eqI [.f (.get 4) [.v 9],.v 4],.f .not [.f (.ext 50) [.v 9,.f (.ext 40) [.v 3,.v 8]]],.k (.bool false)],.f .app [.f .app [.f .app [.v 10,.f (.ext 46) [.f (.wrap .u64) [.v 4]]],.f (.ext 46) [.f (.wrap .u64) [.f .len [.f (.ext 49) [.v 9,.v 1,.v 2,.f (.ext 40) [.v 3,.v 8]]]]]],.f (.ext 49) [.v 9,.v 1,.v 2,.f (.ext 40) [.v 3,.v 8]]],.v 10],.f .ite [.f .ite [.f .eqI [.f (.get 4) [.v 9],.v 4],.f .not [.f (.ext 50) [.v 9,.f (.ext 40) [.v 3,.v 8]]],.k (.bool false)],.f (.add .i64) [.v 11,.k (.int 1)],.v 11]] 1,.fold 8 (.v 0) [.v 7,.v 6] [.f .ite [.f .ite [.f .eqI [.f (.get 4) [.v 9],.v 4],.f .not [.f (.ext 50) [.v 9,.f (.ext 40) [.v 3,.v 8]]],.k (.bool false)],.f .app [.f .app [.f .app [.v 10,.f (.ext 46) [.f (.wrap .u64) [.v 4]]],.f (.ext 46) [.f (.wrap .u64) [.f .len [.f (.ext 49) [.v 9,.v 1,.v 2,.f (.ext 40) [.v 3,.v 8]]]]]],.f (.ext 49) [.v 9,.v 1,.v 2,.f (.ext 40) [.v 3,.v 8]]],.v 10],.f .ite [.f .ite [.f .eqI [.f (.get 4) [.v 9],.v 4],.f .not [.f (.ext 50) [.v 9,.f (.ext 40) [.v 3,.v 8]]],.k (.bool false)],.f (.add .i64) [.v 11,.k (.int 1)],.v 11]] 0] 1,.fold 4 (.f .iota [.f (.wrap .i64) [.f (.ext 51) [.v 0]]]) [.k (.int 0),.k .nil] [.fold 8 (.v 0) [.v 7,.v 6] [.f .ite [.f .ite [.f .eqI [.f (.get 4) [.v 9],.v 4],.f .not [.f (.ext 50) [.v 9,.f (.ext 40) [.v 3,.v 8]]],.k (.bool false)],.f .app [.f .app [.f .app [.v 10,.f (.ext 46) [.f (.wrap .u64) [.v 4]]],.f (.ext 46) [.f (.wrap .u64) [.f .len [.f (.ext 49) [.v 9,.v 1,.v 2,.f (.ext 40) [.v 3,.v 8]]]]]],.f (.ext 49) [.v 9,.v 1,.v 2,.f (.ext 40) [.v 3,.v 8]]],.v 10],.f .ite [.f .ite [.f .eqI [.f (.get 4) [.v 9],.v 4],.f .not [.f (.ext 50) [.v 9,.f (.ext 40) [.v 3,.v 8]]],.k (.bool false)],.f (.add .i64) [.v 11,.k (.int 1)],.v 11]] 1,.fold 8 (.v 0) [.v 7,.v 6] [.f .ite [.f .ite [.f .eqI [.f (.get 4) [.v 9],.v 4],.f .not [.f (.ext 50) [.v 9,.f (.ext 40) [.v 3,.v 8]]],.k (.bool false)],.f .app [.f .app [.f .app [.v 10,.f (.ext 46) [.f (.wrap .u64) [.v 4]]],.f (.ext 46) [.f (.wrap .u64) [.f .len [.f (.ext 49) [.v 9,.v 1,.v 2,.f (.ext 40) [.v 3,.v 8]]]]]],.f (.ext 49) [.v 9,.v 1,.v 2,.f (.ext 40) [.v 3,.v 8]]],.v 10],.f .ite [.f .ite [.f .eqI [.f (.get 4) [.v 9],.v 4],.f .not [.f (.ext 50) [.v 9,.f (.ext 40) [.v 3,.v 8]]],.k (.bool false)],.f (.add .i64) [.v 11,.k (.int 1)],.v 11]] 0] 0] [.f .app [.f .app [.f .app [.v 6,.f (.ext 46) [.f (.wrap .u64) [.f (.get 0) [.v 5]]]],.f (.ext 46) [.f (.wrap .u64) [.f .len [.f .take [.f (.get 1) [.v 5],.f .imin [.f .len [.f (.get 1) [.v 5]],.k (.int 32767)]]]]]],.f .take [.f (.get 1) [.v 5],.f .imin [.f .len [.f (.get 1) [.v 5]],.k (.int 32767)]]],.f (.add .i64) [.v 7,.k (.int 1)]] 1]],.all (.f (.ext 41) [.v 0,.f (.get 4) [.v 3]]) [.fold 4 (.f .iota [.f (.wrap .i64) [.f (.ext 51) [.v 0]]]) [.k (.int 0),.k .nil] [.fold 8 (.v 0) [.v 7,.v 6] [.f .ite [.f .ite [.f .eqI [.f (.get 4) [.v 9],.v 4],.f .not [.f (.ext 50) [.v 9,.f (.ext 40) [.v 3,.v 8]]],.k (.bool false)],.f .app [.f .app [.f .app [.v 10,.f (.ext 46) [.f (.wrap .u64) [.v 4]]],.f (.ext 46) [.f (.wrap .u64) [.f .len [.f (.ext 49) [.v 9,.v 1,.v 2,.f (.ext 40) [.v 3,.v 8]]]]]],.f (.ext 49) [.v 9,.v 1,.v 2,.f (.ext 40) [.v 3,.v 8]]],.v 10],.f .ite [.f .ite [.f .eqI [.f (.get 4) [.v 9],.v 4],.f .not [.f (.ext 50) [.v 9,.f (.ext 40) [.v 3,.v 8]]],.k (.bool false)],.f (.add .i64) [.v 11,.k (.int 1)],.v 11]] 1,.fold 8 (.v 0) [.v 7,.v 6] [.f .ite [.f .ite [.f .eqI [.f (.get 4) [.v 9],.v 4],.f .not [.f (.ext 50) [.v 9,.f (.ext 40) [.v 3,.v 8]]],.k (.bool false)],.f .app [.f .app [.f .app [.v 10,.f (.ext 46) [.f (.wrap .u64) [.v 4]]],.f (.ext 46) [.f (.wrap .u64) [.f .len [.f (.ext 49) [.v 9,.v 1,.v 2,.f (.ext 40) [.v 3,.v 8]]]]]],.f (.ext 49) [.v 9,.v 1,.v 2,.f (.ext 40) [.v 3,.v 8]]],.v 10],.f .ite [.f .ite [.f .eqI [.f (.get 4) [.v 9],.v 4],.f .not [.f (.ext 50) [.v 9,.f (.ext 40) [.v 3,.v 8]]],.k (.bool false)],.f (.add .i64) [.v 11,.k (.int 1)],.v 11]] 0] 1,.fold 4 (.f .iota [.f (.wrap .i64) [.f (.ext 51) [.v 0]]]) [.k (.int 0),.k .nil] [.fold 8 (.v 0) [.v 7,.v 6] [.f .ite [.f .ite [.f .eqI [.f (.get 4) [.v 9],.v 4],.f .not [.f (.ext 50) [.v 9,.f (.ext 40) [.v 3,.v 8]]],.k (.bool false)],.f .app [.f .app [.f .app [.v 10,.f (.ext 46) [.f (.wrap .u64) [.v 4]]],.f (.ext 46) [.f (.wrap .u64) [.f .len [.f (.ext 49) [.v 9,.v 1,.v 2,.f (.ext 40) [.v 3,.v 8]]]]]],.f (.ext 49) [.v 9,.v 1,.v 2,.f (.ext 40) [.v 3,.v 8]]],.v 10],.f .ite [.f .ite [.f .eqI [.f (.get 4) [.v 9],.v 4],.f .not [.f (.ext 50) [.v 9,.f (.ext 40) [.v 3,.v 8]]],.k (.bool false)],.f (.add .i64) [.v 11,.k (.int 1)],.v 11]] 1,.fold 8 (.v 0) [.v 7,.v 6] [.f .ite [.f .ite [.f .eqI [.f (.get 4) [.v 9],.v 4],.f .not [.f (.ext 50) [.v 9,.f (.ext 40) [.v 3,.v 8]]],.k (.bool false)],.f .app [.f .app [.f .app [.v 10,.f (.ext 46) [.f (.wrap .u64) [.v 4]]],.f (.ext 46) [.f (.wrap .u64) [.f .len [.f (.ext 49) [.v 9,.v 1,.v 2,.f (.ext 40) [.v 3,.v 8]]]]]],.f (.ext 49) [.v 9,.v 1,.v 2,.f (.ext 40) [.v 3,.v 8]]],.v 10],.f .ite [.f .ite [.f .eqI [.f (.get 4) [.v 9],.v 4],.f .not [.f (.ext 50) [.v 9,.f (.ext 40) [.v 3,.v 8]]],.k (.bool false)],.f (.add .i64) [.v 11,.k (.int 1)],.v 11]] 0] 0] [.f .app [.f .app [.f .app [.v 6,.f (.ext 46) [.f (.wrap .u64) [.f (.get 0) [.v 5]]]],.f (.ext 46) [.f (.wrap .u64) [.f .len [.f .take [.f (.get 1) [.v 5],.f .imin [.f .len [.f (.get 1) [.v 5]],.k (.int 32767)]]]]]],.f .take [.f (.get 1) [.v 5],.f .imin [.f .len [.f (.get 1) [.v 5]],.k (.int 32767)]]],.f (.add .i64) [.v 7,.k (.int 1)]] [.room (.f .app [.f .app [.f .app [.v 6,.f (.ext 46) [.f (.wrap .u64) [.f (.get 0) [.v 5]]]],.f (.ext 46) [.f (.wrap .u64) [.f .len [.f .take [.f (.get 1) [.v 5],.f .imin [.f .len [.f (.get 1) [.v 5]],.k (.int 32767)]]]]]],.f .take [.f (.get 1) [.v 5],.f .imin [.f .len [.f (.get 1) [.v 5]],.k (.int 32767)]]]) 1,.room (.f .app [.f .app [.v 6,.f (.ext 46) [.f (.wrap .u64) [.f (.get 0) [.v 5]]]],.f (.ext 46) [.f (.wrap .u64) [.f .len [.f .take [.f (.get 1) [.v 5],.f .imin [.f .len [.f (.get 1) [.v 5]],.k (.int 32767)]]]]]]) 1,.pre 46 [.f (.wrap .u64) [.f .len [.f .take [.f (.get 1) [.v 5],.f .imin [.f .len [.f (.get 1) [.v 5]],.k (.int 32767)]]]]],.room (.f .app [.v 6,.f (.ext 46) [.f (.wrap .u64) [.f (.get 0) [.v 5]]]]) 1,.pre 46 [.f (.wrap .u64) [.f (.get 0) [.v 5]]],.idx (.f .imin [.f .len [.f (.get 1) [.v 5]],.k (.int 32767)]) (.f (.get 1) [.v 5]) false],.pre 41 [.v 0,.f (.get 4) [.v 3]],.all (.f .iota [.f (.wrap .i64) [.f (.ext 51) [.v 0]]]) [.k (.int 0),.k .nil] [.fold 8 (.v 0) [.v 7,.v 6] [.f .ite [.f .ite [.f .eqI [.f (.get 4) [.v 9],.v 4],.f .not [.f (.ext 50) [.v 9,.f (.ext 40) [.v 3,.v 8]]],.k (.bool false)],.f .app [.f .app [.f .app [.v 10,.f (.ext 46) [.f (.wrap .u64) [.v 4]]],.f (.ext 46) [.f (.wrap .u64) [.f .len [.f (.ext 49) [.v 9,.v 1,.v 2,.f (.ext 40) [.v 3,.v 8]]]]]],.f (.ext 49) [.v 9,.v 1,.v 2,.f (.ext 40) [.v 3,.v 8]]],.v 10],.f .ite [.f .ite [.f .eqI [.f (.get 4) [.v 9],.v 4],.f .not [.f (.ext 50) [.v 9,.f (.ext 40) [.v 3,.v 8]]],.k (.bool false)],.f (.add .i64) [.v 11,.k (.int 1)],.v 11]] 1,.fold 8 (.v 0) [.v 7,.v 6] [.f .ite [.f .ite [.f .eqI [.f (.get 4) [.v 9],.v 4],.f .not [.f (.ext 50) [.v 9,.f (.ext 40) [.v 3,.v 8]]],.k (.bool false)],.f .app [.f .app [.f .app [.v 10,.f (.ext 46) [.f (.wrap .u64) [.v 4]]],.f (.ext 46) [.f (.wrap .u64) [.f .len [.f (.ext 49) [.v 9,.v 1,.v 2,.f (.ext 40) [.v 3,.v 8]]]]]],.f (.ext 49) [.v 9,.v 1,.v 2,.f (.ext 40) [.v 3,.v 8]]],.v 10],.f .ite [.f .ite [.f .eqI [.f (.get 4) [.v 9],.v 4],.f .not [.f (.ext 50) [.v 9,.f (.ext 40) [.v 3,.v 8]]],.k (.bool false)],.f (.add .i64) [.v 11,.k (.int 1)],.v 11]] 0] [.all (.v 0) [.v 7,.v 6] [.f .ite [.f .ite [.f .eqI [.f (.get 4) [.v 9],.v 4],.f .not [.f (.ext 50) [.v 9,.f (.ext 40) [.v 3,.v 8]]],.k (.bool false)],.f .app [.f .app [.f .app [.v 10,.f (.ext 46) [.f (.wrap .u64) [.v 4]]],.f (.ext 46) [.f (.wrap .u64) [.f .len [.f (.ext 49) [.v 9,.v 1,.v 2,.f (.ext 40) [.v 3,.v 8]]]]]],.f (.ext 49) [.v 9,.v 1,.v 2,.f (.ext 40) [.v 3,.v 8]]],.v 10],.f .ite [.f .ite [.f .eqI [.f (.get 4) [.v 9],.v 4],.f .not [.f (.ext 50) [.v 9,.f (.ext 40) [.v 3,.v 8]]],.k (.bool false)],.f (.add .i64) [.v 11,.k (.int 1)],.v 11]] [.when (.f .ite [.f .eqI [.f (.get 4) [.v 9],.v 4],.f .not [.f (.ext 50) [.v 9,.f (.ext 40) [.v 3,.v 8]]],.k (.bool false)]) true [.room (.f .app [.f .app [.f .app [.v 10,.f (.ext 46) [.f (.wrap .u64) [.v 4]]],.f (.ext 46) [.f (.wrap .u64) [.f .len [.f (.ext 49) [.v 9,.v 1,.v 2,.f (.ext 40) [.v 3,.v 8]]]]]],.f (.ext 49) [.v 9,.v 1,.v 2,.f (.ext 40) [.v 3,.v 8]]]) 1,.room (.f .app [.f .app [.v 10,.f (.ext 46) [.f (.wrap .u64) [.v 4]]],.f (.ext 46) [.f (.wrap .u64) [.f .len [.f (.ext 49) [.v 9,.v 1,.v 2,.f (.ext 40) [.v 3,.v 8]]]]]]) 1,.pre 46 [.f (.wrap .u64) [.f .len [.f (.ext 49) [.v 9,.v 1,.v 2,.f (.ext 40) [.v 3,.v 8]]]]],.room (.f .app [.v 10,.f (.ext 46) [.f (.wrap .u64) [.v 4]]]) 1,.pre 46 [.f (.wrap .u64) [.v 4]],.pre 49 [.v 9,.v 1,.v 2,.f (.ext 40) [.v 3,.v 8]],.pre 40 [.v 3,.v 8]],.when (.f .eqI [.f (.get 4) [.v 9],.v 4]) true [.pre 50 [.v 9,.f (.ext 40) [.v 3,.v 8]],.pre 40 [.v 3,.v 8]]]],.pre 51 [.v 0]],.all (.v 0) [.k .nil] [.f .ite [.f .ite [.f .ltI [.f (.get 4) [.v 5],.k (.int 0)],.f (.ext 57) [.v 5,.v 1],.k (.bool false)],.f .app [.v 6,.f (.ext 49) [.v 5,.v 1,.v 2,.f (.ext 40) [.v 3,.v 4]]],.v 6]] [.when (.f .ite [.f .ltI [.f (.get 4) [.v 5],.k (.int 0)],.f (.ext 57) [.v 5,.v 1],.k (.bool false)]) true [.room (.f .app [.v 6,.f (.ext 49) [.v 5,.v 1,.v 2,.f (.ext 40) [.v 3,.v 4]]]) 1,.pre 49 [.v 5,.v 1,.v 2,.f (.ext 40) [.v 3,.v 4]],.pre 40 [.v 3,.v 4]],.when (.f .ltI [.f (.get 4) [.v 5],.k (.int 0)]) true [.pre 57 [.v 5,.v 1]]]]
def de48:DE:=(.f .ite [.f .eqI [.v 0,.k (.int 0)],.f .mkbytes [.f (.wrap .u8) [.f (.band .i64) [.f (.get 0) [.v 5],.k (.int 1)]]],.f .ite [.f .eqI [.v 0,.k (.int 7)],.f .copy [.f .zeros [.k (.int 16)],.f (.get 1) [.v 5]],.f .ite [.f .eqI [.v 0,.k (.int 8)],.f .app [.f (.ext 53) [.v 4,.v 2,.f .len [.f .ite [.v 2,.k .nil,.f .take [.f (.get 1) [.v 5],.f .imin [.f .len [.f (.get 1) [.v 5]],.k (.int 32767)]]]],.k (.int 2)],.f .ite [.v 2,.k .nil,.f .take [.f (.get 1) [.v 5],.f .imin [.f .len [.f (.get 1) [.v 5]],.k (.int 32767)]]]],.f .ite [.f .eqI [.v 0,.k (.int 9)],.f .app [.f (.ext 53) [.v 4,.v 2,.f .len [.f .ite [.v 2,.k .nil,.f .take [.f (.get 1) [.v 5],.f .imin [.f .len [.f (.get 1) [.v 5]],.k (.int 32767)]]]],.k (.int 4)],.f .ite [.v 2,.k .nil,.f .take [.f (.get 1) [.v 5],.f .imin [.f .len [.f (.get 1) [.v 5]],.k (.int 32767)]]]],.f .ite [.f .eqI [.v 0,.k (.int 10)],.f (.ext 47) [.v 1,.v 3,.v 4,.v 5],.f (.ext 45) [.f (.get 0) [.v 5],.f (.ext 55) [.v 0]]]]]]])
def ob48:List Ob:=[.when (.f .eqI [.v 0,.k (.int 0)]) false [.when (.f .eqI [.v 0,.k (.int 7)]) true [.cap (.k (.int 16)) 1],.when (.f .eqI [.v 0,.k (.int 7)]) false [.when (.f .eqI [.v 0,.k (.int 8)]) true [.room (.f .app [.f (.ext 53) [.v 4,.v 2,.f .len [.f .ite [.v 2,.k .nil,.f .take [.f (.get 1) [.v 5],.f .imin [.f .len [.f (.get 1) [.v 5]],.k (.int 32767)]]]],.k (.int 2)],.f .ite [.v 2,.k .nil,.f .take [.f (.get 1) [.v 5],.f .imin [.f .len [.f (.get 1) [.v 5]],.k (.int 32767)]]]]) 1,.pre 53 [.v 4,.v 2,.f .len [.f .ite [.v 2,.k .nil,.f .take [.f (.get 1) [.v 5],.f .imin [.f .len [.f (.get 1) [.v 5]],.k (.int 32767)]]]],.k (.int 2)],.idx (.f .imin [.f .len [.f (.get 1) [.v 5]],.k (.int 32767)]) (.f (.get 1) [.v 5]) false],.when (.f .eqI [.v 0,.k (.int 8)]) false [.when (.f .eqI [.v 0,.k (.int 9)]) true [.room (.f .app [.f (.ext 53) [.v 4,.v 2,.f .len [.f .ite [.v 2,.k .nil,.f .take [.f (.get 1) [.v 5],.f .imin [.f .len [.f (.get 1) [.v 5]],.k (.int 32767)]]]],.k (.int 4)],.f .ite [.v 2,.k .nil,.f .take [.f (.get 1) [.v 5],.f .imin [.f .len [.f (.get 1) [.v 5]],.k (.int 32767)]]]]) 1,.pre 53 [.v 4,.v 2,.f .len [.f .ite [.v 2,.k .nil,.f .take [.f (.get 1) [.v 5],.f .imin [.f .len [.f (.get 1) [.v 5]],.k (.int 32767)]]]],.k (.int 4)],.idx (.f .imin [.f .len [.f (.get 1) [.v 5]],.k (.int 32767)]) (.f (.get 1) [.v 5]) false],.when (.f .eqI [.v 0,.k (.int 9)]) false [.when (.f .eqI [.v 0,.k (.int 10)]) true [.pre 47 [.v 1,.v 3,.v 4,.v 5]],.when (.f .eqI [.v 0,.k (.int 10)]) false [.pre 45 [.f (.get 0) [.v 5],.f (.ext 55) [.v 0]],.pre 55 [.v 0]]]]]]]
def de49:DE:=(.f .ite [.f .eqI [.f (.get 0) [.v 0],.k (.int 11)],.fold 4 (.f .ite [.f (.ext 56) [.v 0,.v 1,.v 3],.k .nil,.f .take [.f (.get 3) [.v 3],.f .imin [.f .len [.f (.get 3) [.v 3]],.k (.int 32767)]]]) [.f (.ext 53) [.v 2,.f (.ext 56) [.v 0,.v 1,.v 3],.f .len [.f .ite [.f (.ext 56) [.v 0,.v 1,.v 3],.k .nil,.f .take [.f (.get 3) [.v 3],.f .imin [.f .len [.f (.get 3) [.v 3]],.k (.int 32767)]]]],.k (.int 4)]] [.f .app [.v 6,.f (.ext 48) [.f (.get 6) [.v 0],.f (.get 7) [.v 0],.k (.bool false),.v 1,.v 2,.v 5]]] 0,.f .ite [.f .ite [.f .eqI [.f (.get 0) [.v 0],.k (.int 10)],.f .leI [.k (.int 0),.f (.get 3) [.v 0]],.k (.bool false)],.f .ite [.f (.ext 56) [.v 0,.v 1,.v 3],.f (.ext 45) [.k (.int (-1)),.k (.int 1)],.f .app [.f (.ext 45) [.k (.int 1),.k (.int 1)],.f (.ext 47) [.f (.get 7) [.v 0],.v 1,.v 2,.v 3]]],.f (.ext 48) [.f (.get 0) [.v 0],.f (.get 7) [.v 0],.f (.ext 56) [.v 0,.v 1,.v 3],.v 1,.v 2,.v 3]]])
def ob49:List Ob:=[.when (.f .eqI [.f (.get 0) [.v 0],.k (.int 11)]) true [.all (.f .ite [.f (.ext 56) [.v 0,.v 1,.v 3],.k .nil,.f .take [.f (.get 3) [.v 3],.f .imin [.f .len [.f (.get 3) [.v 3]],.k (.int 32767)]]]) [.f (.ext 53) [.v 2,.f (.ext 56) [.v 0,.v 1,.v 3],.f .len [.f .ite [.f (.ext 56) [.v 0,.v 1,.v 3],.k .nil,.f .take [.f (.get 3) [.v 3],.f .imin [.f .len [.f (.get 3) [.v 3]],.k (.int 32767)]]]],.k (.int 4)]] [.f .app [.v 6,.f (.ext 48) [.f (.get 6) [.v 0],.f (.get 7) [.v 0],.k (.bool false),.v 1,.v 2,.v 5]]] [.room (.f .app [.v 6,.f (.ext 48) [.f (.get 6) [.v 0],.f (.get 7) [.v 0],.k (.bool false),.v 1,.v 2,.v 5]]) 1,.pre 48 [.f (.get 6) [.v 0],.f (.get 7) [.v 0],.k (.bool false),.v 1,.v 2,.v 5]],.pre 53 [.v 2,.f (.ext 56) [.v 0,.v 1,.v 3],.f .len [.f .ite [.f (.ext 56) [.v 0,.v 1,.v 3],.k .nil,.f .take [.f (.get 3) [.v 3],.f .imin [.f .len [.f (.get 3) [.v 3]],.k (.int 32767)]]]],.k (.int 4)],.idx (.f .imin [.f .len [.f (.get 3) [.v 3]],.k (.int 32767)]) (.f (.get 3) [.v 3]) false],.when (.f .eqI [.f (.get 0) [.v 0],.k (.int 11)]) false [.when (.f .ite [.f .eqI [.f (.get 0) [.v 0],.k (.int 10)],.f .leI [.k (.int 0),.f (.get 3) [.v 0]],.k (.bool false)]) true [.when (.f (.ext 56) [.v 0,.v 1,.v 3]) true [.pre 45 [.k (.int (-1)),.k (.int 1)]],.when (.f (.ext 56) [.v 0,.v 1,.v 3]) false [.room (.f .app [.f (.ext 45) [.k (.int 1),.k (.int 1)],.f (.ext 47) [.f (.get 7) [.v 0],.v 1,.v 2,.v 3]]) 1,.pre 47 [.f (.get 7) [.v 0],.v 1,.v 2,.v 3],.pre 45 [.k (.int 1),.k (.int 1)]]],.when (.f .ite [.f .eqI [.f (.get 0) [.v 0],.k (.int 10)],.f .leI [.k (.int 0),.f (.get 3) [.v 0]],.k (.bool false)]) false [.pre 48 [.f (.get 0) [.v 0],.f (.get 7) [.v 0],.f (.ext 56) [.v 0,.v 1,.v 3],.v 1,.v 2,.v 3]]],.pre 56 [.v 0,.v 1,.v 3]]
def de50:DE:=(.f .ite [.f .eqI [.f (.get 0) [.v 0],.k (.int 0)],.f .eqI [.f (.band .i64) [.f (.get 0) [.v 1],.k (.int 1)],.f (.get 5) [.v 0]],.f .ite [.f .eqI [.f (.get 0) [.v 0],.k (.int 7)],.f .ite [.fold 2 (.f (.get 1) [.v 1]) [.k (.bool false)] [.f .ite [.v 4,.k (.bool true),.f .ite [.f .ltI [.v 2,.k (.int 16)],.f .neI [.f (.get 0) [.v 3],.k (.int 0)],.k (.bool false)]]] 0,.k (.bool false),.k (.bool true)],.f .ite [.f .ite [.f .eqI [.f (.get 0) [.v 0],.k (.int 8)],.f .eqI [.f (.get 0) [.v 0],.k (.int 8)],.f .eqI [.f (.get 0) [.v 0],.k (.int 9)]],.f .ite [.f .leI [.k (.int 0),.f (.get 3) [.v 0]],.f (.get 2) [.v 1],.f .eqI [.f .len [.f (.get 1) [.v 1]],.k (.int 0)]],.f .ite [.f .eqI [.f (.get 0) [.v 0],.k (.int 11)],.f .eqI [.f .len [.f (.get 3) [.v 1]],.k (.int 0)],.f .ite [.f .eqI [.f (.get 0) [.v 0],.k (.int 10)],.f .ite [.fold 2 (.f (.get 7) [.v 0]) [.k (.bool false)] [.f .ite [.v 4,.k (.bool true),.f .not [.f (.ext 50) [.v 3,.f (.ext 40) [.v 1,.v 2]]]]] 0,.k (.bool false),.f .eqI [.f .len [.f (.ext 41) [.f (.get 7) [.v 0],.f (.get 4) [.v 1]]],.k (.int 0)]],.f (.ext 52) [.f (.ext 45) [.f (.get 0) [.v 1],.f (.ext 55) [.f (.get 0) [.v 0]]],.f (.ext 45) [.f (.get 5) [.v 0],.f (.ext 55) [.f (.get 0) [.v 0]]]]]]]]])
def ob50:List Ob:=[.when (.f .eqI [.f (.get 0) [.v 0],.k (.int 0)]) false [.when (.f .eqI [.f (.get 0) [.v 0],.k (.int 7)]) true [.all (.f (.get 1) [.v 1]) [.k (.bool false)] [.f .ite [.v 4,.k (.bool true),.f .ite [.f .ltI [.v 2,.k (.int 16)],.f .neI [.f (.get 0) [.v 3],.k (.int 0)],.k (.bool false)]]] [.when (.v 4) false []]],.when (.f .eqI [.f (.get 0) [.v 0],.k (.int 7)]) false [.when (.f .ite [.f .eqI [.f (.get 0) [.v 0],.k (.int 8)],.f .eqI [.f (.get 0) [.v 0],.k (.int 8)],.f .eqI [.f (.get 0) [.v 0],.k (.int 9)]]) false [.when (.f .eqI [.f (.get 0) [.v 0],.k (.int 11)]) false [.when (.f .eqI [.f (.get 0) [.v 0],.k (.int 10)]) true [.when (.fold 2 (.f (.get 7) [.v 0]) [.k (.bool false)] [.f .ite [.v 4,.k (.bool true),.f .not [.f (.ext 50) [.v 3,.f (.ext 40) [.v 1,.v 2]]]]] 0) false [.pre 41 [.f (.get 7) [.v 0],.f (.get 4) [.v 1]]],.all (.f (.get 7) [.v 0]) [.k (.bool false)] [.f .ite [.v 4,.k (.bool true),.f .not [.f (.ext 50) [.v 3,.f (.ext 40) [.v 1,.v 2]]]]] [.when (.v 4) false [.pre 50 [.v 3,.f (.ext 40) [.v 1,.v 2]],.pre 40 [.v 1,.v 2]]]],.when (.f .eqI [.f (.get 0) [.v 0],.k (.int 10)]) false [.pre 52 [.f (.ext 45) [.f (.get 0) [.v 1],.f (.ext 55) [.f (.get 0) [.v 0]]],.f (.ext 45) [.f (.get 5) [.v 0],.f (.ext 55) [.f (.get 0) [.v 0]]]],.pre 45 [.f (.get 5) [.v 0],.f (.ext 55) [.f (.get 0) [.v 0]]],.pre 55 [.f (.get 0) [.v 0]],.pre 45 [.f (.get 0) [.v 1],.f (.ext 55) [.f (.get 0) [.v 0]]],.pre 55 [.f (.get 0) [.v 0]]]]]]]]
def de51:DE:=(.fold 1 (.v 0) [.k (.int 0)] [.f .ite [.f .leI [.k (.int 0),.f (.get 4) [.v 2]],.f .imax [.v 3,.f (.add .u32) [.f (.wrap .u32) [.f (.get 4) [.v 2]],.k (.int 1)]],.v 3]] 0)
def ob51:List Ob:=[.all (.v 0) [.k (.int 0)] [.f .ite [.f .leI [.k (.int 0),.f (.get 4) [.v 2]],.f .imax [.v 3,.f (.add .u32) [.f (.wrap .u32) [.f (.get 4) [.v 2]],.k (.int 1)]],.v 3]] []]
def de52:DE:=(.f .ite [.f .neI [.f .len [.v 0],.f .len [.v 1]],.k (.bool false),.f .ite [.fold 2 (.v 0) [.k (.bool false)] [.f .ite [.v 4,.k (.bool true),.f .neI [.f (.get 0) [.v 3],.f (.get 0) [.f .at [.v 1,.v 2]]]]] 0,.k (.bool false),.k (.bool true)]])
def ob52:List Ob:=[.when (.f .neI [.f .len [.v 0],.f .len [.v 1]]) false [.all (.v 0) [.k (.bool false)] [.f .ite [.v 4,.k (.bool true),.f .neI [.f (.get 0) [.v 3],.f (.get 0) [.f .at [.v 1,.v 2]]]]] [.when (.v 4) false [.idx (.v 2) (.v 1) true]]]]
def de53:DE:=(.f .ite [.f .ite [.v 0,.v 1,.k (.bool false)],.f .mkbytes [.k (.int 0)],.f .ite [.f .ite [.v 0,.k (.bool true),.k (.bool false)],.f (.ext 46) [.f (.add .u64) [.f (.wrap .u64) [.v 2],.k (.int 1)]],.f .ite [.v 1,.f (.ext 45) [.k (.int (-1)),.v 3],.f (.ext 45) [.v 2,.v 3]]]])
def ob53:List Ob:=[.when (.f .ite [.v 0,.v 1,.k (.bool false)]) false [.when (.f .ite [.v 0,.k (.bool true),.k (.bool false)]) true [.pre 46 [.f (.add .u64) [.f (.wrap .u64) [.v 2],.k (.int 1)]]],.when (.f .ite [.v 0,.k (.bool true),.k (.bool false)]) false [.when (.v 1) true [.pre 45 [.k (.int (-1)),.v 3]],.when (.v 1) false [.pre 45 [.v 2,.v 3]]]]]
def de54:DE:=(.f .ite [.f .ltI [.k (.int 2147483647),.f .len [.f (.get 1) [.v 0]]],.k (.bool false),.f .ite [.f .ltI [.k (.int 2147483647),.f .len [.f (.get 3) [.v 0]]],.k (.bool false),.f .ite [.f .not [.f .ite [.f .ltI [.k (.int 2147483647),.f .len [.f (.get 4) [.v 0]]],.k (.bool false),.f .ite [.fold 1 (.f (.get 4) [.v 0]) [.k (.bool false)] [.f .ite [.v 3,.k (.bool true),.f .not [.f .ite [.f .ltI [.k (.int 2147483647),.f .len [.f (.get 1) [.v 2]]],.k (.bool false),.k (.bool true)]]]] 0,.k (.bool false),.k (.bool true)]]],.k (.bool false),.k (.bool true)]]])
def ob54:List Ob:=[.when (.f .ltI [.k (.int 2147483647),.f .len [.f (.get 1) [.v 0]]]) false [.when (.f .ltI [.k (.int 2147483647),.f .len [.f (.get 3) [.v 0]]]) false [.when (.f .ltI [.k (.int 2147483647),.f .len [.f (.get 4) [.v 0]]]) false [.all (.f (.get 4) [.v 0]) [.k (.bool false)] [.f .ite [.v 3,.k (.bool true),.f .not [.f .ite [.f .ltI [.k (.int 2147483647),.f .len [.f (.get 1) [.v 2]]],.k (.bool false),.k (.bool true)]]]] [.when (.v 3) false []]]]]]
def de55:DE:=(.f .ite [.f .eqI [.v 0,.k (.int 1)],.k (.int 1),.f .ite [.f .ite [.f .eqI [.v 0,.k (.int 2)],.f .eqI [.v 0,.k (.int 2)],.f .eqI [.v 0,.k (.int 5)]],.k (.int 2),.f .ite [.f .eqI [.v 0,.k (.int 3)],.k (.int 4),.k (.int 8)]]])
def ob55:List Ob:=[]
def de56:DE:=(.f .ite [.f (.get 2) [.v 2],.f .ite [.f .leI [.k (.int 0),.f (.get 3) [.v 0]],.f .leI [.f (.get 3) [.v 0],.v 1],.k (.bool false)],.k (.bool false)])
def ob56:List Ob:=[]
def de57:DE:=(.f .ite [.f .leI [.f (.get 1) [.v 0],.v 1],.f .ite [.f .ltI [.f (.get 2) [.v 0],.k (.int 0)],.k (.bool true),.f .leI [.v 1,.f (.get 2) [.v 0]]],.k (.bool false)])
def ob57:List Ob:=[]
def de58:DE:=(.f .tmod [.f (.wrap .i64) [.v 0],.f (.add .i64) [.v 1,.k (.int 1)]])
def ob58:List Ob:=[(.nz (.f (.add .i64) [.v 1,.k (.int 1)]))]
def de59:DE:=(.f .ite [.f .leI [.k (.int 0),.f (.get 1) [.v 0]],.f (.ext 47) [.f (.get 0) [.v 0],.v 1,.f .leI [.f (.get 1) [.v 0],.v 1],.v 2],.f (.ext 47) [.f (.get 0) [.v 0],.v 1,.k (.bool false),.v 2]])
def ob59:List Ob:=[.when (.f .leI [.k (.int 0),.f (.get 1) [.v 0]]) true [.pre 47 [.f (.get 0) [.v 0],.v 1,.f .leI [.f (.get 1) [.v 0],.v 1],.v 2]],.when (.f .leI [.k (.int 0),.f (.get 1) [.v 0]]) false [.pre 47 [.f (.get 0) [.v 0],.v 1,.k (.bool false),.v 2]]]
end Go.Mx
namespace Go.Mx
open Go Go.Dx
mutual
def wF:Fl->Nat
 | .mk k _ _ _ _ _ _ s=>wFs s+1+(if k=11 then 1 else 0)
def wFs:Option (List Fl)->Nat
 | none=>0
 | some l=>wFl l+1
def wFl:List Fl->Nat
 | []=>0
 | f::r=>wF f+wFl r
end
mutual
def wfF:Fl->Bool
 | .mk k _ _ _ g _ o s=>decide (g<=1000)&&(decide (k≠11) || decide (o≠11))&&wfFs s
def wfFs:Option (List Fl)->Bool
 | none=>true
 | some l=>decide (l.length<=1000)&&wfFl l
def wfFl:List Fl->Bool
 | []=>true
 | f::r=>wfF f&&wfFl r
end
mutual
def wT:T->Nat
 | .mk _ _ _ l _=>wTo l+1
def wTo:Option (List T)->Nat
 | none=>0
 | some l=>wTl l
def wTl:List T->Nat
 | []=>0
 | t::r=>wT t+wTl r
end
mutual
def smT:T->Bool
 | .mk _ _ _ l u=>smTo l&&decide ((u.getD []).length<=40000)
def smTo:Option (List T)->Bool
 | none=>true
 | some l=>decide (l.length<=40000)&&smTl l
def smTl:List T->Bool
 | []=>true
 | t::r=>smT t&&smTl r
end
theorem wF_mem:∀ {l:List Fl} {f:Fl},f∈l->wF f<=wFl l
 | g::r,f,h=>by
  simp only[wFl];rcases List.mem_cons.1 h with rfl|h
  ·omega
  ·have:=wF_mem h;omega
theorem yZG(f:Fl):wFs f.sub<wF f:=by cases f;simp only[Fl.sub,wF];omega
theorem xRE{f:Fl}(h:wfF f=true):wfFs f.sub=true:=by
 cases f;simp only[wfF,Bool.and_eq_true] at h;exact h.2
theorem zJH:∀ {l:List Fl},wfFl l=true -> ∀f∈l,wfF f=true
 | [],_,f,h=>by cases h
 | g::r,hw,f,h=>by
  simp only[wfFl,Bool.and_eq_true] at hw;rcases List.mem_cons.1 h with rfl|h
  ·exact hw.1
  ·exact zJH hw.2 f h
def lim:Nat:=1099511627776
def meas:Nat->List D->Nat
 | 42,[f,_,_]=>wF (toF f)
 | 43,[fs,_,_]=>wFs (decF fs)
 | 44,[t]=>wT (toT t)
 | 47,[fs,_,_,_]=>3*wFs (decF fs)
 | 48,[_,fs,_,_,_,_]=>3*wFs (decF fs)+1
 | 49,[f,_,_,_]=>3*wFs (toF f).sub+2
 | 50,[f,_]=>wF (toF f)
 | _,_=>0
def ySA(k:Nat):Bool:=k==42 || k==43 || k==44 || k==47 || k==48 || k==49 || k==50
def side:Nat->List D->Prop
 | 1,[_,i]=>0<=i.asInt
 | 40,[_,i]=>0<=i.asInt
 | 12,[o,s]=>s.len<2147483648/\o.asStr.length+s.len+5<=lim
 | 16,[o,s]=>s.len<2147483648/\o.asStr.length+s.len+5<=lim
 | 14,[o,s]=>s.deref.len<2147483648/\o.asStr.length+s.deref.len+5<=lim
 | 18,[o,s]=>s.len<2147483648/\o.asStr.length+s.len+5<=lim
 | 20,[o,n]=>0<=n.asInt/\n.asInt<2147483648/\o.asStr.length+5<=lim
 | 22,[o,n,_]=>0<=n.asInt/\n.asInt<2147483648/\o.asStr.length+5<=lim
 | 41,[fs,_]=>wfFs (decF fs)=true
 | 51,[fs]=>wfFs (decF fs)=true
 | 42,[f,_,_]=>wfF (toF f)=true
 | 43,[fs,_,_]=>wfFs (decF fs)=true
 | 44,[t]=>smT (toT t)=true
 | 45,[_,n]=>0<=n.asInt/\n.asInt<=8
 | 47,[fs,v,x,t]=>wfFs (decF fs)=true/\(yAA (decF fs) v.asInt x.asBool (toT t)).length<=lim
 | 48,[k,fs,b,v,x,t]=>wfFs (decF fs)=true/\(yBA k.asInt b.asBool x.asBool (toT t) (yAA (decF fs) v.asInt x.asBool (toT t))).length<=lim
 | 49,[f,v,x,t]=>wfF (toF f)=true/\(field (toF f) v.asInt x.asBool (toT t)).length<=lim
 | 50,[f,_]=>wfF (toF f)=true
 | 53,[_,_,n,s]=>0<=n.asInt/\n.asInt<=40000/\(s.asInt=2∨s.asInt=4)
 | 58,[n,m]=>0<=n.asInt/\0<=m.asInt/\m.asInt<=1000
 | 59,[.row [fs,fx],v,t]=>wfFs (decF fs)=true/\(yAA (decF fs) v.asInt (zZA fx.asInt v.asInt) (toT t)).length<=lim
 | 60,[.row [fs,fx],v,t]=>wfFs (decF fs)=true/\(yAA (decF fs) v.asInt (zZA fx.asInt v.asInt) (toT t)).length+2<=lim
 | 100,[v,t]=>(0<=v.asInt/\v.asInt<=1)/\(X 100 [v,t]).len<=lim
 | 300,[m,u]=>u = .nil/\(mapL m).length<=100000 /\ ∀x∈mapL m,x.2.len<=lim
 | 301,[u]=>(u.rows.map fun r=>(r.cells.getD 0 .nil).asInt).Pairwise (· < ·)/\u.rows.length<=100000
 | 303,[fs,_,_,_,_]=>wfFs (decF fs)=true
 | 304,[f,_,_,_,_]=>wfF (toF f)=true
 | 25,[m,o]=>(X 25 [m,o]).len<=lim /\ ∀x∈mapL m,x.2.len<4294967296
 | 61,[s]=>∃b,s = .bytes b/\1<=b.length
 | 62,[s]=>∃b,s = .bytes b/\1<=b.length
 | 63,[s]=>∃b,s = .bytes b/\2<=b.length
 | 64,[s]=>∃b,s = .bytes b/\2<=b.length
 | 65,[s]=>∃b,s = .bytes b/\4<=b.length
 | 66,[s]=>∃b,s = .bytes b/\8<=b.length
 | 67,[s]=>∃b,s = .bytes b/\16<=b.length
 | 68,[s]=>∃b,s = .bytes b/\4<=b.length
 | 69,[s]=>∃b,s = .bytes b/\8<=b.length
 | 70,[s]=>∃n r,s = .bytes (zDA n++r)/\n<4294967296
 | 71,[s,l]=>∃b,s = .bytes b/\0<=l.asInt/\l.asInt.toNat<=b.length
 | 72,[s]=>∃v r,s = .bytes (zJA (v.length:Nat) 2++(v++r))/\v.length<=Most
 | 73,[s]=>∃v r,s = .bytes (zDA (v.length+1)++(v++r))/\v.length<=Most
 | 74,[s]=>(∃r,s = .bytes (zJA (-1) 2++r)) ∨ ∃v r,s = .bytes (zJA (v.length:Nat) 2++(v++r))/\v.length<=Most
 | 75,[s]=>(∃r,s = .bytes (zDA 0++r)) ∨ ∃v r,s = .bytes (zDA (v.length+1)++(v++r))/\v.length<=Most
 | 76,[s]=>∃v r,s = .bytes (zJA (v.length:Nat) 4++(v++r))/\v.length<=Most
 | 77,[s]=>∃v r,s = .bytes (zDA (v.length+1)++(v++r))/\v.length<=Most
 | 78,[s]=>(∃r,s = .bytes (zJA (-1) 4++r)) ∨ ∃v r,s = .bytes (zJA (v.length:Nat) 4++(v++r))/\v.length<=Most
 | 79,[s]=>(∃r,s = .bytes (zDA 0++r)) ∨ ∃v r,s = .bytes (zDA (v.length+1)++(v++r))/\v.length<=Most
 | 80,[s]=>∃n r,s = .bytes (zJA n 4++r) /\ -1<=n/\n<=(r.length:Nat)/\n<2147483648
 | 81,[s]=>∃n r,s = .bytes (zDA n++r)/\(n:Int)-1<=(r.length:Nat)/\n<2147483648
 | 82,[s]=>∃u r,s = .bytes (zDA u.length++((u.map fun x:Tg=>tagB x.key.toNat (x.val.getD [])).flatten++r))/\zIB u
 | 86,[_,s]=>∃b,s = .bytes b/\8<=b.length
 | 87,[_,s]=>∃b,s = .bytes b/\4<=b.length
 | 128,[v,dd,sd]=>xRJ M128 v dd sd
 | 137,[v,dd,sd]=>xRJ M137 v dd sd
 | 309,[_,_,_,_,i,_,b]=>i.asStr.length+b.asStr.length+100<=lim
 | 24,_=>True
 | 26,_=>True
 | 28,_=>True
 | 31,_=>True
 | 46,_=>True
 | 52,_=>True
 | 54,_=>True
 | 55,_=>True
 | 56,_=>True
 | 305,_=>True
 | 306,_=>True
 | 307,_=>True
 | 308,_=>True
 | 57,_=>True
 | k,ds=>(X k ds).len<=lim
def Pre(n k:Nat)(ds:List D):Prop:=(ySA k=true->meas k ds<n)/\side k ds
theorem qNK(f y1 y2:D):meas 42 [f,y1,y2]=(wF (toF f)):=rfl
theorem meas_43(fs y1 y2:D):meas 43 [fs,y1,y2]=(wFs (decF fs)):=rfl
theorem yOF(fs y1 y2 y3:D):meas 47 [fs,y1,y2,y3]=(3*wFs (decF fs)):=rfl
theorem yPI(y1 fs y2 y3 y4 y5:D):meas 48 [y1,fs,y2,y3,y4,y5]=(3*wFs (decF fs)+1):=rfl
theorem yQI(f y1 y2 y3:D):meas 49 [f,y1,y2,y3]=(3*wFs (toF f).sub+2):=rfl
theorem yRI(f y1:D):meas 50 [f,y1]=(wF (toF f)):=rfl
theorem side_61(s:D):side 61 [s]=(∃b,s = .bytes b/\1<=b.length):=rfl
theorem side_62(s:D):side 62 [s]=(∃b,s = .bytes b/\1<=b.length):=rfl
theorem side_63(s:D):side 63 [s]=(∃b,s = .bytes b/\2<=b.length):=rfl
theorem side_64(s:D):side 64 [s]=(∃b,s = .bytes b/\2<=b.length):=rfl
theorem side_65(s:D):side 65 [s]=(∃b,s = .bytes b/\4<=b.length):=rfl
theorem side_66(s:D):side 66 [s]=(∃b,s = .bytes b/\8<=b.length):=rfl
theorem side_67(s:D):side 67 [s]=(∃b,s = .bytes b/\16<=b.length):=rfl
theorem side_69(s:D):side 69 [s]=(∃b,s = .bytes b/\8<=b.length):=rfl
theorem side_70(s:D):side 70 [s]=(∃n r,s = .bytes (zDA n++r)/\n<4294967296):=rfl
theorem side_71(s l:D):side 71 [s,l]=(∃b,s = .bytes b/\0<=l.asInt/\l.asInt.toNat<=b.length):=rfl
theorem side_72(s:D):side 72 [s]=(∃v r,s = .bytes (zJA (v.length:Nat) 2++(v++r))/\v.length<=Most):=rfl
theorem side_73(s:D):side 73 [s]=(∃v r,s = .bytes (zDA (v.length+1)++(v++r))/\v.length<=Most):=rfl
theorem side_74(s:D):side 74 [s]=((∃r,s = .bytes (zJA (-1) 2++r)) ∨ ∃v r,s = .bytes (zJA (v.length:Nat) 2++(v++r))/\v.length<=Most):=rfl
theorem side_75(s:D):side 75 [s]=((∃r,s = .bytes (zDA 0++r)) ∨ ∃v r,s = .bytes (zDA (v.length+1)++(v++r))/\v.length<=Most):=rfl
theorem side_76(s:D):side 76 [s]=(∃v r,s = .bytes (zJA (v.length:Nat) 4++(v++r))/\v.length<=Most):=rfl
theorem side_77(s:D):side 77 [s]=(∃v r,s = .bytes (zDA (v.length+1)++(v++r))/\v.length<=Most):=rfl
theorem side_78(s:D):side 78 [s]=((∃r,s = .bytes (zJA (-1) 4++r)) ∨ ∃v r,s = .bytes (zJA (v.length:Nat) 4++(v++r))/\v.length<=Most):=rfl
theorem side_79(s:D):side 79 [s]=((∃r,s = .bytes (zDA 0++r)) ∨ ∃v r,s = .bytes (zDA (v.length+1)++(v++r))/\v.length<=Most):=rfl
theorem side_80(s:D):side 80 [s]=(∃n r,s = .bytes (zJA n 4++r) /\ -1<=n/\n<=(r.length:Nat)/\n<2147483648):=rfl
theorem side_81(s:D):side 81 [s]=(∃n r,s = .bytes (zDA n++r)/\(n:Int)-1<=(r.length:Nat)/\n<2147483648):=rfl
theorem side_82(s:D):side 82 [s]=(∃u r,s = .bytes (zDA u.length++((u.map fun x:Tg=>tagB x.key.toNat (x.val.getD [])).flatten++r))/\zIB u):=rfl
theorem xSF(y1 i:D):side 40 [y1,i]=(0<=i.asInt):=rfl
theorem xVI(o s:D):side 12 [o,s]=(s.len<2147483648/\o.asStr.length+s.len+5<=lim):=rfl
theorem xWI(o s:D):side 16 [o,s]=(s.len<2147483648/\o.asStr.length+s.len+5<=lim):=rfl
theorem yFL(o s:D):side 14 [o,s]=(s.deref.len<2147483648/\o.asStr.length+s.deref.len+5<=lim):=rfl
theorem yGL(o s:D):side 18 [o,s]=(s.len<2147483648/\o.asStr.length+s.len+5<=lim):=rfl
theorem side_20(o n:D):side 20 [o,n]=(0<=n.asInt/\n.asInt<2147483648/\o.asStr.length+5<=lim):=rfl
theorem side_22(o n y1:D):side 22 [o,n,y1]=(0<=n.asInt/\n.asInt<2147483648/\o.asStr.length+5<=lim):=rfl
theorem qXG(fs y1:D):side 41 [fs,y1]=(wfFs (decF fs)=true):=rfl
theorem xZI(fs:D):side 51 [fs]=(wfFs (decF fs)=true):=rfl
theorem yHL(f y1 y2:D):side 42 [f,y1,y2]=(wfF (toF f)=true):=rfl
theorem side_43(fs y1 y2:D):side 43 [fs,y1,y2]=(wfFs (decF fs)=true):=rfl
theorem qMC(y1 n:D):side 45 [y1,n]=(0<=n.asInt/\n.asInt<=8):=rfl
theorem xTF(fs v x t:D):side 47 [fs,v,x,t]=(wfFs (decF fs)=true/\(yAA (decF fs) v.asInt x.asBool (toT t)).length<=lim):=rfl
theorem xXI(k fs b v x t:D):side 48 [k,fs,b,v,x,t]=(wfFs (decF fs)=true/\(yBA k.asInt b.asBool x.asBool (toT t) (yAA (decF fs) v.asInt x.asBool (toT t))).length<=lim):=rfl
theorem xYI(f v x t:D):side 49 [f,v,x,t]=(wfF (toF f)=true/\(field (toF f) v.asInt x.asBool (toT t)).length<=lim):=rfl
theorem xUF(f y1:D):side 50 [f,y1]=(wfF (toF f)=true):=rfl
theorem xOE(y1 y2 n s:D):side 53 [y1,y2,n,s]=(0<=n.asInt/\n.asInt<=40000/\(s.asInt=2∨s.asInt=4)):=rfl
theorem qAI(n m:D):side 58 [n,m]=(0<=n.asInt/\0<=m.asInt/\m.asInt<=1000):=rfl
theorem yIL(fs fx v t:D):side 59 [.row [fs,fx],v,t]=(wfFs (decF fs)=true/\(yAA (decF fs) v.asInt (zZA fx.asInt v.asInt) (toT t)).length<=lim):=rfl
theorem zero_d:T.zero.d = .row [.int 0,.nil,.bool false,.nil,.nil]:=by simp[T.zero,T.d,encB,encT,encU]
theorem at_encT(l:Option (List T))(i:Nat)(h:i<(l.getD []).length):(encT l).rows.getD i .nil=((l.getD []).getD i T.zero).d:=by
 rw[yLD];simp[List.getD_eq_getElem?_getD,h]
theorem ev40(t:T)(i:Int)(hi:0<=i)(n:Nat):zCA X (Pre n) ob40 [t.d,.int i]/\de40.eval X [t.d,.int i]=X 40 [t.d,.int i]:=by
 have e:(t.l.getD [])=t.L:=rfl;constructor
 ·simp only[ob40,zCA,Ob.holds,DE.eval,zEA,Fn.eval,List.getD_cons_zero,List.getD_cons_succ,yGA,D.asInt,D.asBool,xOA,e,if_true];refine⟨fun h=>⟨⟨hi,?_⟩,trivial⟩,trivial⟩
  have:=of_decide_eq_true h
  omega
 ·simp only[de40,X_40,xBA,DE.eval,zEA,Fn.eval,List.getD_cons_zero,List.getD_cons_succ,yGA,D.asInt,D.asBool,xOA,at',e];by_cases h:i<(t.L.length:Int)
  ·simp only[h,decide_true,if_true];exact at_encT t.l i.toNat (by show _<t.L.length;omega)
  ·simp only[h,decide_false,if_false,zero_d,Bool.false_eq_true]
theorem ev56(f:Fl)(v:Int)(t:T):de56.eval X [f.d,.int v,t.d]=X 56 [f.d,.int v,t.d]:=by
 simp only[de56,X_56,xBA,xXA,DE.eval,zEA,Fn.eval,List.getD_cons_zero,List.getD_cons_succ,yGA,yFA,D.asInt,D.asBool,Mx.null];cases t.null <;> by_cases h:0<=f.null <;> by_cases h2:f.null<=v <;> simp[h,h2]
theorem ev57(f:Fl)(v:Int):de57.eval X [f.d,.int v]=X 57 [f.d,.int v]:=by
 simp only[de57,X_57,xXA,DE.eval,zEA,Fn.eval,List.getD_cons_zero,List.getD_cons_succ,yFA,D.asInt,D.asBool,has];by_cases h:f.frm<=v <;> by_cases h2:f.to<0 <;> by_cases h3:v<=f.to <;> simp[h,h2,h3]
theorem ev55(k:Int):de55.eval X [.int k]=X 55 [.int k]:=by
 simp only[de55,X_55,DE.eval,zEA,Fn.eval,List.getD_cons_zero,D.asInt,D.asBool,zAD];by_cases h1:k=1 <;> by_cases h2:k=2 <;> by_cases h5:k=5 <;> by_cases h3:k=3 <;> simp[h1,h2,h5,h3]
end Go.Mx
namespace Go.Mx
open Go Go.Dx
section
variable {X:Nat->List D->D} {P:Nat->List D->Prop} {J:List D} {lv:Nat} {go:DE} {is bs:List DE}
theorem zXE(st:Nat->List D)(step:Nat->D->List D->List D):∀k,(∀i,i<k->step i (.int (i:Nat)) (st i)=st (i+1))->yLA step 0 (xFB k) (st 0)=st k
 | 0,_=>rfl
 | k+1,h=>by
  rw[zSG,zQB,zUD,Nat.zero_add,zXE st step k (fun i hi=>h i (by omega))];exact h k (by omega)
structure Runs (X:Nat->List D->D) (J:List D) (lv:Nat) (go:DE) (is bs:List DE) (N:Nat) (st:Nat->List D):Prop where
 lv:J.take lv=J
 h0:zEA X is J=st 0
 hs:∀k:Nat,k<N->zEA X bs (J++(.int k :: .int k::st k))=st (k+1)
 hg:∀k:Nat,k<N->(go.eval X (J++(.int k :: .int k::st k))).asBool=true
 hN:(go.eval X (J++(.int N :: .int N::st N))).asBool=false
theorem Runs.rows{N:Nat}{st:Nat->List D}(h:Runs X J lv go is bs N st){k:Nat}(hk:k<=N):yLA (fun i r acc=>zEA X bs (J++(.int i::r::acc))) 0 (xFB k) (zEA X is J)=st k:=by
 rw[h.h0];exact zXE st _ k (fun i hi=>h.hs i (by omega))
theorem Runs.wh{N:Nat}{st:Nat->List D}(h:Runs X J lv go is bs N st):(DE.wh lv go is bs).eval X J = .int (N:Nat):=by
 simp only[DE.eval,h.lv]
 congr 1
 congr 1
 refine qFK ?_ (fun m hm=>?_)
 ·rw[h.rows (Nat.le_refl _)];exact h.hN
 ·rw[h.rows (by omega),h.hg m hm];simp
theorem Runs.fold{N:Nat}{st:Nat->List D}(h:Runs X J lv go is bs N st)(j:Nat):(DE.fold lv (.f .iota [.wh lv go is bs]) is bs j).eval X J=(st N).getD j .nil:=by
 have e:((DE.f .iota [.wh lv go is bs]).eval X J).rows=xFB N:=by
  show (Fn.eval X .iota (zEA X [.wh lv go is bs] J)).rows=_;rw[zPD,h.wh];simp[Fn.eval,D.rows,D.asInt,xFB]
 show (yLA (fun i r acc=>zEA X bs (J.take lv++(.int i::r::acc))) 0 ((DE.f .iota [.wh lv go is bs]).eval X J).rows (zEA X is J)).getD j .nil=_;rw[e,h.lv,h.rows (Nat.le_refl _)]
theorem Runs.term{N:Nat}{st:Nat->List D}(h:Runs X J lv go is bs N st):(Ob.term lv go is bs).holds X P J:=by
 simp only[Ob.holds,h.lv];exact⟨N,by rw[h.rows (Nat.le_refl _)];exact h.hN⟩
theorem Runs.all{N:Nat}{st:Nat->List D}(h:Runs X J lv go is bs N st){os:List Ob}(ho:∀k:Nat,k<=N->zCA X P os (J++(.int k :: .int k::st k))):(Ob.all (.f .iotaS [.wh lv go is bs]) is bs os).holds X P J:=by
 have e:((DE.f .iotaS [.wh lv go is bs]).eval X J).rows=xFB (N+1):=by
  show (Fn.eval X .iotaS (zEA X [.wh lv go is bs] J)).rows=_;rw[zPD,h.wh];simp[Fn.eval,D.rows,D.asInt,xFB]
 simp only[Ob.holds];rw[e];intro k hk;rw[zUD] at hk;rw[yDF _ _ (by omega),xDE _ _ (by omega),h.rows (by omega)];exact ho k (by omega)
structure Folds {A S:Type} (X:Nat->List D->D) (J:List D) (lv:Nat) (src:DE) (is bs:List DE) (ea:A->D) (es:S->List D) (f:Nat->A->S->S) (l:List A) (s0:S):Prop where
 lv:J.take lv=J
 src:(src.eval X J).rows=l.map ea
 h0:zEA X is J=es s0
 hs:∀(i:Nat) (a:A) (s:S),l[i]? = some a->s=xKA f 0 (l.take i) s0->zEA X bs (J++(.int i::ea a::es s))=es (f i a s)
theorem zJG{A S:Type}(f:Nat->A->S->S):∀(l:List A) (i:Nat) (a:A) (s:S),xKA f i (l++[a]) s=f (i+l.length) a (xKA f i l s)
 | [],i,a,s=>rfl
 | x::l,i,a,s=>by
  simp only[List.cons_append,xKA,List.length_cons];rw[zJG f l (i+1)]
  congr 1;omega
variable {A S:Type} {src:DE} {ea:A->D} {es:S->List D} {f:Nat->A->S->S} {l:List A} {s0:S}
theorem xMC{α:Type}{l:List α}{k:Nat}{a:α}(h:l[k]? = some a):l.take (k+1)=l.take k++[a]:=by
 rw[List.take_add_one,h];rfl
theorem Folds.rows(h:Folds X J lv src is bs ea es f l s0):∀ {k:Nat},k<=l.length->yLA (fun i r acc=>zEA X bs (J++(.int i::r::acc))) 0 ((l.map ea).take k) (zEA X is J)=es (xKA f 0 (l.take k) s0)
 | 0,_=>by simp[yLA,xKA,h.h0]
 | k+1,hk=>by
  have hk':l[k]? = some l[k]:=List.getElem?_eq_getElem (by omega);have hm:(l.map ea)[k]? = some (ea l[k]):=by rw[List.getElem?_map,hk'];rfl
  rw[xMC hm,zQB,h.rows (k:=k) (by omega),xMC hk',zJG];have e:0+((l.map ea).take k).length=k:=by simp;omega
  have e2:0+(l.take k).length=k:=by simp;omega
  rw[e,e2];exact h.hs k _ _ hk' rfl
theorem Folds.fold(h:Folds X J lv src is bs ea es f l s0)(j:Nat):(DE.fold lv src is bs j).eval X J=(es (xKA f 0 l s0)).getD j .nil:=by
 have:=h.rows (k:=l.length) (Nat.le_refl _)
 rw[List.take_of_length_le (by simp),List.take_of_length_le (Nat.le_refl _)] at this;simp only[DE.eval,h.lv,h.src,this]
theorem Folds.all(h:Folds X J lv src is bs ea es f l s0){os:List Ob}(ho:∀(k:Nat) (a:A),l[k]? = some a->zCA X P os (J++(.int k::ea a::es (xKA f 0 (l.take k) s0)))):(Ob.all src is bs os).holds X P J:=by
 simp only[Ob.holds];rw[h.src];intro k hk;have hk2:k<l.length:=by simpa using hk
 have hk':l[k]? = some l[k]:=List.getElem?_eq_getElem hk2;have hm:(l.map ea).getD k .nil=ea l[k]:=by simp[List.getD_eq_getElem?_getD,hk']
 rw[hm,h.rows (by omega)];exact ho k _ hk'
end
end Go.Mx
namespace Go.Mx
open Go Go.Dx
theorem qKF{x:Int}(h1:-9223372036854775808<=x)(h2:x<=9223372036854775807):IntKind.i64.wrap x=x:=by
 rw[IntKind.wrap_i64];omega
theorem ev45(n s:Int)(k:Nat)(h0:0<=s)(h8:s<=8):zCA X (Pre k) ob45 [.int n,.int s]/\de45.eval X [.int n,.int s]=X 45 [.int n,.int s]:=by
 obtain⟨m,rfl⟩:=Int.eq_ofNat_of_zero_le h0;have hm:m<=8:=by omega
 let st:Nat->List D:=fun k=>[.int ((m:Int)-1-k),encN (((List.range m).reverse.take k).map (qFA n))]
 have hlen:(List.range m).reverse.length=m:=by simp
 have hrun:Runs X [.int n,.int (m:Nat)] 2 (.f .leI [.k (.int 0),.v 4]) [.f (.sub .i64) [.v 1,.k (.int 1)],.k .nil] [.f (.sub .i64) [.v 4,.k (.int 1)],.f .app [.v 5,.f .mkbytes [.f (.wrap .u8) [.f (.shr .i64) [.v 0,.f (.mul .i64) [.k (.int 8),.v 4]]]]]] m st:=by
  refine⟨rfl,?_,fun k hk=>?_,fun k hk=>?_,?_⟩
  ·simp only[zEA,DE.eval,Fn.eval,D.asInt,List.getD_cons_succ,List.getD_cons_zero,st];rw[qKF (by omega) (by omega)];simp[encN]
  ·simp only[zEA,DE.eval,Fn.eval,D.asInt,List.cons_append,List.nil_append,List.getD_cons_succ,List.getD_cons_zero,st,List.map_cons,List.map_nil];rw[qKF (by omega) (by omega),qKF (x:=8*_) (by omega) (by omega)];have hk':(List.range m).reverse[k]? = some (m-1-k):=by
    rw[List.getElem?_reverse (by simpa using hk)];simp only[List.length_range,List.getElem?_range (show m-1-k<m by omega)]
   have hb:UInt8.ofNat (IntKind.u8.wrap (shrI n (8*((m:Int)-1-k)) .i64)).toNat=qFA n (m-1-k):=by
    simp only[qFA,shrI,IntKind.bits]
    congr 5
    omega
   rw[xMC hk',List.map_append,hb,yRB _ _ (.inr ⟨_,.inl rfl⟩)];simp only[D.asStr,List.map_cons,List.map_nil,List.cons.injEq,D.int.injEq,and_true];omega
  ·simp only[DE.eval,zEA,Fn.eval,D.asInt,D.asBool,List.cons_append,List.nil_append,List.getD_cons_succ,List.getD_cons_zero,st];exact decide_eq_true (by omega)
  ·simp only[DE.eval,zEA,Fn.eval,D.asInt,D.asBool,List.cons_append,List.nil_append,List.getD_cons_succ,List.getD_cons_zero,st];exact decide_eq_false (by omega)
 have hfin:(st m).getD 1 .nil=encN (zJA n m):=by
  simp only[st,List.getD_cons_succ,List.getD_cons_zero,zJA];rw[List.take_of_length_le (by simp)]
 refine⟨⟨hrun.term,hrun.all (fun q hq=>?_),trivial⟩,?_⟩
 ·have hl:((List.range m).reverse.take q).length<=8:=by rw[List.length_take];omega
  simp only[zCA,yBB,Ob.holds,zEA,DE.eval,Fn.eval,D.asInt,D.asBool,List.cons_append,List.nil_append,List.getD_cons_succ,List.getD_cons_zero,st,List.map_cons,List.map_nil];refine⟨fun hc=>⟨?_,?_,trivial⟩,trivial⟩
  ·rw[yRB _ _ (.inr ⟨_,.inl rfl⟩),xFA];simp only[D.asStr,List.length_append,List.length_map,List.length_cons,List.length_nil];exact⟨by simp only[LIM];omega,by simp only[maxLen];omega⟩
  ·have:=of_decide_eq_true hc
   rw[qKF (by omega) (by omega)];omega
 ·rw[X_45];simp only[D.asInt,Int.toNat_natCast];rw[<- hfin];exact hrun.fold 1
end Go.Mx
namespace Go.Mx
open Go Go.Dx
theorem zNH{x:Int}(h1:0<=x)(h2:x<18446744073709551616):IntKind.u64.wrap x=x:=by
 rw[IntKind.wrap_u64];omega
theorem qLF{x:Int}(h1:0<=x)(h2:x<256):IntKind.u8.wrap x=x:=by
 rw[IntKind.wrap_u8];omega
def uvN(n:Nat):Nat:=if 127<n then uvN (n / 128)+1 else 0
 termination_by n
 decreasing_by omega
def uvP(n k:Nat):List UInt8:=(List.range k).map fun i=>UInt8.ofNat (n / 128 ^ i%128+128)
theorem xDJ(n k:Nat):uvP n (k+1)=uvP n k++[UInt8.ofNat (n / 128 ^ k%128+128)]:=by simp[uvP,List.range_succ]
theorem uvP_cons(n k:Nat):uvP n (k+1)=UInt8.ofNat (n%128+128)::uvP (n / 128) k:=by
 simp only[uvP,List.range_succ_eq_map,List.map_cons,List.map_map,Nat.pow_zero,Nat.div_one]
 congr 1
 apply List.map_congr_left;intro i _;simp only[Function.comp];rw[Nat.pow_succ',Nat.div_div_eq_div_mul]
theorem uv_eq:∀n:Nat,zDA n=uvP n (uvN n)++[UInt8.ofNat (n / 128 ^ uvN n)]:=by
 intro n
 induction n using Nat.strongRecOn with
 | ind n ih =>
  rw[zDA,uvN];split
  ·rw[ih (n / 128) (by omega),uvP_cons];simp only[List.cons_append]
   congr 3
   rw[Nat.pow_succ',Nat.div_div_eq_div_mul]
  ·simp[uvP]
theorem uvN_go:∀(n k:Nat),k<uvN n->127<n / 128 ^ k:=by
 intro n
 induction n using Nat.strongRecOn with
 | ind n ih =>
  intro k hk;rw[uvN] at hk;split at hk
  ·rename_i h;cases k with
   | zero=>simpa using h
   | succ k =>
    have:=ih (n / 128) (by omega) k (by omega)
    rw[Nat.pow_succ',<- Nat.div_div_eq_div_mul];exact this
  ·omega
theorem zHH:∀n:Nat,¬127<n / 128 ^ uvN n:=by
 intro n
 induction n using Nat.strongRecOn with
 | ind n ih =>
  rw[uvN];split
  ·have:=ih (n / 128) (by omega)
   rw[Nat.pow_succ',<- Nat.div_div_eq_div_mul];exact this
  ·simp;omega
theorem yYG:∀(b n:Nat),n<128 ^ b->uvN n<=b-1
 | 0,n,h=>by
  have:n=0:=by simpa using h
  subst this;rw[uvN];simp
 | b+1,n,h=>by
  rw[uvN];split
  ·rename_i h1;have h2:n / 128<128 ^ b:=by rw[Nat.div_lt_iff_lt_mul (by omega),<- Nat.pow_succ];exact h
   have:=yYG b (n / 128) h2
   have hb:b≠0:=fun e=>by subst e;simp at h;omega
   omega
  ·omega
theorem band127(n:Nat)(h:n<18446744073709551616):IntKind.u64.wrap ((BitVec.ofInt IntKind.u64.bits (n:Int) &&& BitVec.ofInt IntKind.u64.bits 127).toNat:Nat)=((n%128:Nat):Int):=by
 have e:(BitVec.ofInt IntKind.u64.bits (n:Int) &&& BitVec.ofInt IntKind.u64.bits 127).toNat=n%128:=by
  rw[BitVec.toNat_and];have e1:(BitVec.ofInt IntKind.u64.bits (n:Int)).toNat=n:=by simp[IntKind.bits,BitVec.toNat_ofInt];omega
  have e2:(BitVec.ofInt IntKind.u64.bits 127).toNat=2 ^ 7-1:=rfl;rw[e1,e2,Nat.and_two_pow_sub_one_eq_mod]
 rw[e,zNH (by omega) (by omega)]
theorem bor128(n:Nat)(h:n<128):IntKind.u8.wrap ((BitVec.ofInt IntKind.u8.bits (n:Int) ||| BitVec.ofInt IntKind.u8.bits 128).toNat:Nat)=((n+128:Nat):Int):=by
 have:∀n:Fin 128,IntKind.u8.wrap ((BitVec.ofInt IntKind.u8.bits (n.1:Int) ||| BitVec.ofInt IntKind.u8.bits 128).toNat:Nat)=((n.1+128:Nat):Int):=by decide
 exact this ⟨n,h⟩
theorem shr7(n:Nat):shrI (n:Int) 7 .u64=((n / 128:Nat):Int):=by
 simp only[shrI,IntKind.bits];show (n:Int).fdiv (2 ^ 7)=_;rw[Int.fdiv_eq_ediv_of_nonneg _ (by decide)];rfl
theorem uv_run(n:Nat)(h:n<18446744073709551616):Runs X [.int (n:Nat)] 1 (.f .ltI [.k (.int 127),.v 4]) [.k .nil,.v 0] [.f .app [.v 3,.f .mkbytes [.f (.bor .u8) [.f (.wrap .u8) [.f (.band .u64) [.v 4,.k (.int 127)]],.k (.int 128)]]],.f (.shr .u64) [.v 4,.k (.int 7)]] (uvN n) (fun k=>[encN (uvP n k),.int ((n / 128 ^ k:Nat):Int)]):=by
 have hlt:∀k,n / 128 ^ k<18446744073709551616:=fun k=>Nat.lt_of_le_of_lt (Nat.div_le_self _ _) h
 refine⟨rfl,by simp[zEA,DE.eval,uvP,encN],fun k hk=>?_,fun k hk=>?_,?_⟩
 ·simp only[zEA,DE.eval,Fn.eval,D.asInt,List.cons_append,List.nil_append,List.getD_cons_succ,List.getD_cons_zero,List.map_cons,List.map_nil];rw[band127 _ (hlt k),qLF (x:=((n / 128 ^ k%128:Nat):Int)) (by omega) (by omega),bor128 _ (by omega),shr7,yRB _ _ (.inr ⟨_,.inl rfl⟩),xDJ];simp only[D.asStr,Int.toNat_natCast];rw[Nat.pow_succ,Nat.div_div_eq_div_mul]
 ·simp only[DE.eval,zEA,Fn.eval,D.asInt,D.asBool,List.cons_append,List.nil_append,List.getD_cons_succ,List.getD_cons_zero]
  have:=uvN_go n k hk
  exact decide_eq_true (by omega)
 ·simp only[DE.eval,zEA,Fn.eval,D.asInt,D.asBool,List.cons_append,List.nil_append,List.getD_cons_succ,List.getD_cons_zero]
  have:=zHH n
  exact decide_eq_false (by omega)
theorem ev46(n:Int)(h0:0<=n)(h1:n<18446744073709551616)(k:Nat):zCA X (Pre k) ob46 [.int n]/\de46.eval X [.int n]=X 46 [.int n]:=by
 obtain⟨m,rfl⟩:=Int.eq_ofNat_of_zero_le h0;have hm:m<18446744073709551616:=by omega
 have hrun:=uv_run m hm;have hN:uvN m<=9:=by
  have:=yYG 10 m (Nat.lt_of_lt_of_le hm (by decide))
  omega
 have hP:∀k,k<=uvN m->(uvP m k).length<=9:=fun k hk=>by simp[uvP];omega
 have hfin:=zHH m;have main:de46.eval X [.int (m:Nat)]=encN (zDA m):=by
  simp only[de46,DE.eval.eq_3,zEA];rw[hrun.fold 0,hrun.fold 1];simp only[List.getD_cons_succ,List.getD_cons_zero,Fn.eval,D.asInt,List.map_cons,List.map_nil];rw[qLF (x:=((m / 128 ^ uvN m:Nat):Int)) (by generalize m / 128 ^ uvN m=q at *;omega) (by generalize m / 128 ^ uvN m=q at *;omega),yRB _ _ (.inr ⟨_,.inl rfl⟩),uv_eq];simp only[D.asStr,Int.toNat_natCast]
 refine⟨⟨?_,hrun.term,hrun.all (fun q hq=>?_),trivial⟩,?_⟩
 ·have e:(DE.eval X de46 [.int (m:Nat)]).len<=10:=by
   rw[main,xFA,uv_eq]
   have:=hP (uvN m) (Nat.le_refl _)
   simp;omega
  refine⟨?_,?_⟩
  ·show (DE.eval X de46 [.int (m:Nat)]).len*1<=LIM;simp only[LIM];omega
  ·show (DE.eval X de46 [.int (m:Nat)]).len<=maxLen;simp only[maxLen];omega
 ·simp only[zCA,Ob.holds,zEA,DE.eval,Fn.eval,D.asInt,D.asBool,List.cons_append,List.nil_append,List.getD_cons_succ,List.getD_cons_zero,List.map_cons,List.map_nil];refine⟨fun hc=>⟨?_,trivial⟩,trivial⟩;rw[yRB _ _ (.inr ⟨_,.inl rfl⟩),xFA]
  have:=hP q hq
  simp only[D.asStr,List.length_append,List.length_cons,List.length_nil];exact⟨by simp only[LIM];omega,by simp only[maxLen];omega⟩
 ·rw[main,X_46];rfl
end Go.Mx
namespace Go.Mx
open Go Go.Dx
theorem ev53(x b:Bool)(n s:Int)(k:Nat)(h0:0<=n)(h1:n<=40000)(hs:s=2∨s=4):zCA X (Pre k) ob53 [.bool x,.bool b,.int n,.int s]/\de53.eval X [.bool x,.bool b,.int n,.int s]=X 53 [.bool x,.bool b,.int n,.int s]:=by
 have e:IntKind.u64.wrap (IntKind.u64.wrap n+1)=n+1:=by rw[zNH (x:=n) h0 (by omega),zNH (by omega) (by omega)]
 have hp:∀m:Int,Pre k 45 [.int m,.int s]:=fun m=>⟨fun h=>by simp[ySA] at h,by rw[qMC];simp only[D.asInt];omega⟩
 constructor
 ·simp only[ob53,zCA,Ob.holds,DE.eval,zEA,Fn.eval,List.getD_cons_zero,List.getD_cons_succ,D.asInt,D.asBool,e];refine⟨fun _=>⟨fun _=>⟨⟨fun h=>by simp[ySA] at h,trivial⟩,trivial⟩,fun _=>⟨fun _=>⟨hp _,trivial⟩,fun _=>⟨hp _,trivial⟩,trivial⟩,trivial⟩,trivial⟩
 ·simp only[de53,X_53,X_46,X_45,DE.eval,zEA,Fn.eval,List.getD_cons_zero,List.getD_cons_succ,D.asInt,D.asBool,e,counted,List.map_cons,List.map_nil];have e2:(n+1).toNat=n.toNat+1:=by omega
  have e3:((n.toNat:Nat):Int)=n:=by omega
  cases x <;> cases b <;> simp[encN,e2,e3]
theorem zPJ:∀(l:List Fl) (a:Nat),wfFl l=true->a<=1001->l.foldl (fun n f=>if 0<=f.tag then max n (f.tag.toNat+1) else n) a<=1001
 | [],a,_,h=>h
 | f::r,a,hw,h=>by
  simp only[wfFl,Bool.and_eq_true] at hw;refine zPJ r _ hw.2 ?_
  have:f.tag<=1000:=by
   have:=hw.1
   cases f;simp only[wfF,Bool.and_eq_true,decide_eq_true_eq] at this
   exact this.1.1
  show (if 0<=f.tag then max a (f.tag.toNat+1) else a)<=1001;by_cases h0:0<=f.tag
  ·rw[if_pos h0];omega
  ·rw[if_neg h0];exact h
theorem ev51(fs:Option (List Fl))(hw:wfFs fs=true)(k:Nat):zCA X (Pre k) ob51 [encF fs]/\de51.eval X [encF fs]=X 51 [encF fs]:=by
 have hw':wfFl (fs.getD [])=true:=by
  cases fs with
  | none=>rfl
  | some l=>simp only[wfFs,Bool.and_eq_true] at hw;exact hw.2
 have hfold:Folds X [encF fs] 1 (.v 0) [.k (.int 0)] [.f .ite [.f .leI [.k (.int 0),.f (.get 4) [.v 2]],.f .imax [.v 3,.f (.add .u32) [.f (.wrap .u32) [.f (.get 4) [.v 2]],.k (.int 1)]],.v 3]] Fl.d (fun n:Nat=>[.int (n:Int)]) (fun _ f n=>if 0<=f.tag then max n (f.tag.toNat+1) else n) (fs.getD []) 0:=by
  refine⟨rfl,by simp[DE.eval,zSC],rfl,fun i f n hf _=>?_⟩;have hm:f∈fs.getD []:=List.mem_of_getElem? hf;have ht:f.tag<=1000:=by
   have:=zJH hw' f hm
   cases f;simp only[wfF,Bool.and_eq_true,decide_eq_true_eq] at this
   exact this.1.1
  simp only[zAA,zBA,ev_v,ev_k,ev_f,List.cons_append,List.nil_append,List.getD_cons_succ,List.getD_cons_zero,zQA,yFA,qJB,zOA,yDC,fe_imax,zVA];by_cases h:0<=f.tag
  ·simp only[h,decide_true,if_true];rw[IntKind.wrap_u32,IntKind.wrap_u32]
   congr 2
   omega
  ·simp only[h,decide_false,if_false,Bool.false_eq_true]
 refine⟨⟨hfold.all (fun _ _ _=>trivial),trivial⟩,?_⟩;rw[X_51,zPA];show (DE.fold _ _ _ _ _).eval X _=_;rw[hfold.fold 0];simp only[qKD,List.getD_cons_zero,qHA]
theorem qAC{fs:Option (List Fl)}(hw:wfFs fs=true):qHA (fs.getD [])<=1001:=by
 cases fs with
 | none=>simp[qHA]
 | some l=>simp only[wfFs,Bool.and_eq_true] at hw;exact zPJ l 0 hw.2 (by omega)
theorem ev58(n m:Int)(k:Nat)(h0:0<=n)(h1:n<256)(h2:0<=m)(h3:m<=1000):zCA X (Pre k) ob58 [.int n,.int m]/\de58.eval X [.int n,.int m]=X 58 [.int n,.int m]:=by
 constructor
 ·simp only[ob58,zCA,Ob.holds,DE.eval,zEA,Fn.eval,List.getD_cons_zero,List.getD_cons_succ,D.asInt];rw[qKF (by omega) (by omega)];exact⟨by omega,trivial⟩
 ·simp only[de58,X_58,DE.eval,zEA,Fn.eval,List.getD_cons_zero,List.getD_cons_succ,D.asInt];rw[qKF (x:=n) (by omega) (by omega),qKF (by omega) (by omega),Int.tmod_eq_emod_of_nonneg h0]
end Go.Mx
namespace Go.Mx
open Go Go.Dx
def neqI(y:List UInt8)(i:Nat)(x:UInt8)(s:Bool):Bool:=if s then true else ((x.toNat:Int) != ((y.getD i 0).toNat:Int))
theorem yXH(y:List UInt8):∀(l:List UInt8) (i:Nat) (s:Bool),i+l.length<=y.length->xKA (neqI y) i l s=(s || !(l==(y.drop i).take l.length))
 | [],i,s,_=>by simp[xKA]
 | x::l,i,s,h=>by
  simp only[List.length_cons] at h;simp only[xKA];rw[yXH y l (i+1) _ (by omega)];have hi:i<y.length:=by omega
  have e:(y.drop i).take (x::l).length=y[i]::(y.drop (i+1)).take l.length:=by
   rw[List.drop_eq_getElem_cons hi];rfl
  rw[e];have e2:y.getD i 0=y[i]:=by simp[List.getD_eq_getElem?_getD,hi]
  simp only[neqI,e2];cases s
  ·by_cases hx:x=y[i]
   ·subst hx;have h1:((y[i].toNat:Int) != (y[i].toNat:Int))=false:=by simp
    simp[h1]
   ·have h1:((x.toNat:Int) != (y[i].toNat:Int))=true:=by
     simp only[bne_iff_ne,ne_eq];intro h2;exact hx (UInt8.toNat_inj.1 (by omega))
    simp[h1,hx]
  ·simp
theorem ev52(a b:Option (List UInt8))(k:Nat):zCA X (Pre k) ob52 [encB a,encB b]/\de52.eval X [encB a,encB b]=X 52 [encB a,encB b]:=by
 have hfold:(a.getD []).length=(b.getD []).length->Folds X [encB a,encB b] 2 (.v 0) [.k (.bool false)] [.f .ite [.v 4,.k (.bool true),.f .neI [.f (.get 0) [.v 3],.f (.get 0) [.f .at [.v 1,.v 2]]]]] (fun x:UInt8=>.int (x.toNat:Int)) (fun s:Bool=>[.bool s]) (neqI (b.getD [])) (a.getD []) false:=fun hl=>by
  refine⟨rfl,by simp[ev_v,xLF],rfl,fun i x s hx _=>?_⟩;have hi:i<(b.getD []).length:=by rw[<- hl];exact(List.getElem?_eq_some_iff.1 hx).1
  have e:(encB b).rows.getD i .nil = .int (((b.getD []).getD i 0).toNat:Int):=by
   rw[xLF];simp[List.getD_eq_getElem?_getD,hi]
  simp only[zAA,zBA,ev_v,ev_k,ev_f,List.cons_append,List.nil_append,List.getD_cons_succ,List.getD_cons_zero,zUF,Int.toNat_natCast,e,zQA,D.cells,zRD,zVA,neqI];cases s <;> rfl
 constructor
 ·refine⟨fun hc=>⟨?_,trivial⟩,trivial⟩;have hl:(a.getD []).length=(b.getD []).length:=by
   simp only[ev_f,zAA,zBA,ev_v,List.getD_cons_zero,List.getD_cons_succ,zTA,zRD,zSA,yHA] at hc;simp only[bne_eq_false_iff_eq] at hc;omega
  refine(hfold hl).all (fun i x hx=>⟨fun _=>⟨?_,trivial⟩,trivial⟩);have hi:i<(b.getD []).length:=by rw[<- hl];exact(List.getElem?_eq_some_iff.1 hx).1
  simp only[Ob.holds,ev_v,List.cons_append,List.nil_append,List.getD_cons_succ,List.getD_cons_zero,if_true,zKA,yHA,Int.toNat_natCast];exact⟨by omega,hi⟩
 ·rw[X_52,yTA,yTA];simp only[de52,ev_f,zAA,zBA,ev_v,ev_k,List.getD_cons_zero,List.getD_cons_succ,zTA,zRD,yHA,zVA];by_cases hl:(a.getD []).length=(b.getD []).length
  ·rw[(hfold hl).fold 0];rw[yXH _ _ _ _ (by omega)];have h1:(((a.getD []).length:Int) != ((b.getD []).length:Int))=false:=by simp[hl]
   simp only[h1,List.getD_cons_zero,zVA,Bool.false_or,List.drop_zero,Bool.false_eq_true,if_false];rw[hl,List.take_length];cases (a.getD []==b.getD []) <;> rfl
  ·have h1:(((a.getD []).length:Int) != ((b.getD []).length:Int))=true:=by
    simp only[bne_iff_ne,ne_eq];omega
   simp only[h1,if_true]
   congr 1
   symm;simp only[beq_eq_false_iff_ne,ne_eq];intro h;exact hl (by rw[h])
theorem anyI(p:Tg->Bool):∀(l:List Tg) (i:Nat) (s:Bool),xKA (fun _ x s=>if s then true else !p x) i l s=(s || !(l.all p))
 | [],i,s=>by simp[xKA]
 | x::l,i,s=>by
  simp only[xKA];rw[anyI p l (i+1)];cases s <;> cases h:p x <;> simp[h]
theorem ev54(t:T)(k:Nat):zCA X (Pre k) ob54 [t.d]/\de54.eval X [t.d]=X 54 [t.d]:=by
 have hfold:Folds X [t.d] 1 (.f (.get 4) [.v 0]) [.k (.bool false)] [.f .ite [.v 3,.k (.bool true),.f .not [.f .ite [.f .ltI [.k (.int 2147483647),.f .len [.f (.get 1) [.v 2]]],.k (.bool false),.k (.bool true)]]]] Tg.d (fun s:Bool=>[.bool s]) (fun _ x s=>if s then true else !(decide ((x.val.getD []).length<=2147483647))) t.U false:=by
  refine⟨rfl,?_,rfl,fun i x s hx _=>?_⟩
  ·simp only[ev_f,zAA,zBA,ev_v,List.getD_cons_zero,List.getD_cons_succ,zQA,yGA,xKC];rfl
  ·simp only[zAA,zBA,ev_v,ev_k,ev_f,List.cons_append,List.nil_append,List.getD_cons_succ,List.getD_cons_zero,zQA,xUB,zTA,yHA,qLA,zVA];by_cases h:(x.val.getD []).length<=2147483647
   ·have h2:¬((2147483647:Int)<((x.val.getD []).length:Int)):=by omega
    simp only[h,h2,decide_false,decide_true,Bool.false_eq_true,if_false,yEC];cases s <;> rfl
   ·have h2:((2147483647:Int)<((x.val.getD []).length:Int)):=by omega
    simp only[h,h2,decide_false,decide_true,if_true,yEC];cases s <;> rfl
 constructor
 ·exact⟨fun _=>⟨fun _=>⟨fun _=>⟨hfold.all (fun _ _ _=>⟨fun _=>trivial,trivial⟩),trivial⟩,trivial⟩,trivial⟩,trivial⟩
 ·rw[X_54,xBA];simp only[de54,ev_f,zAA,zBA,ev_v,ev_k,List.getD_cons_zero,List.getD_cons_succ,zQA,yGA,zTA,yHA,xOA,xPA,qLA,zVA];rw[hfold.fold 0,anyI];have e1:(t.s.getD [])=t.S:=rfl;have e2:(t.l.getD [])=t.L:=rfl;have e3:(t.u.getD [])=t.U:=rfl;simp only[e1,e2,e3,List.getD_cons_zero,zVA,Bool.false_or,zOE];have c:∀n:Nat,decide ((2147483647:Int)<(n:Int)) = !decide (n<=2147483647):=fun n=>by
   by_cases h:n<=2147483647
   ·have:¬((2147483647:Int)<(n:Int)):=by omega
    simp[h,this]
   ·have:((2147483647:Int)<(n:Int)):=by omega
    simp[h,this]
  rw[c,c,c];cases decide (t.S.length<=2147483647) <;> cases decide (t.L.length<=2147483647) <;> cases decide (t.U.length<=2147483647) <;> cases (t.U.all fun x=>decide ((x.val.getD []).length<=2147483647)) <;> rfl
end Go.Mx
namespace Go.Mx
open Go Go.Dx
def mapI{A B:Type}(g:Nat->A->B):Nat->List A->List B
 | _,[]=>[]
 | i,a::r=>g i a::mapI g (i+1) r
theorem xEC{A B:Type}(g:Nat->A->B):∀(l:List A) (i:Nat) (s:List B),xKA (fun i a s=>s++[g i a]) i l s=s++mapI g i l
 | [],i,s=>by simp[xKA,mapI]
 | a::l,i,s=>by simp only[xKA,mapI];rw[xEC g l (i+1)];simp
theorem qIA{A B:Type}(g:A->B):∀(l:List A) (i:Nat),mapI (fun _ a=>g a) i l=l.map g
 | [],_=>rfl
 | a::l,i=>by simp[mapI,qIA g l (i+1)]
theorem appd_T(a:List T)(x:T):(encT (nz a)).appd (.list [x.d])=encT (nz (a++[x])):=by
 cases a with
 | nil=>simp[nz,encT,D.appd,tds]
 | cons y a=>simp[nz,encT,D.appd,zBE]
theorem appd_U(a:List Tg)(x:Tg):(encU (nz a)).appd (.list [x.d])=encU (nz (a++[x])):=by
 cases a with
 | nil=>simp[nz,encU,D.appd]
 | cons y a=>simp[nz,encU,D.appd]
theorem zXL{l b:Nat}(h:l<=50000)(hb:b<=4096):l*b<=LIM/\l<=maxLen:=by
 have:l*b<=50000*4096:=Nat.mul_le_mul h hb
 exact⟨by simp only[LIM];omega,by simp only[maxLen];omega⟩
theorem xDA{α:Type}(l:List α):(nz l).getD []=l:=by cases l <;> rfl
end Go.Mx
namespace Go.Mx
open Go Go.Dx
theorem zQG(x:Tg):∀l:List Tg,(xGA x l).length<=l.length+1
 | []=>by simp[xGA]
 | t::r=>by
  simp only[xGA]
  have:=zQG x r
  split
  ·simp;omega
  ·split <;> simp
theorem yDB(p:Tg->Bool):∀(l:List Tg) (a:List Tg),(l.foldl (fun out t=>if p t then out else xGA t out) a).length<=a.length+l.length
 | [],a=>by simp
 | t::r,a=>by
  simp only[List.foldl]
  have:=yDB p r (if p t then a else xGA t a)
  have h2:=zQG t a;cases hp:p t <;> simp only[hp,if_true,Bool.false_eq_true,if_false,List.length_cons] at this ⊢ <;> omega
theorem zXC(fs:List Fl)(u:Option (List Tg)):(zWA fs u).length<=32767:=by
 unfold zWA
 have:=yDB (fun t=>decide (t.key<(qHA fs:Int))) ((u.getD []).take Most) []
 simp only[decide_eq_true_eq,List.length_nil,Nat.zero_add,List.length_take,Most] at this ⊢;omega
def cut(x:Tg):Tg:=⟨x.key,whole x.val⟩
theorem FitS_eq(fs:Option (List Fl))(v:Int)(t:T):FitS fs v t = .mk 0 none false (nz (mapI (fun i f=>qTA f v (at' t i)) 0 (fs.getD []))) (nz ((zWA (fs.getD []) t.u).map cut)):=by
 have h:∀(l:List Fl) (i:Nat),fitL l i v t=mapI (fun i f=>qTA f v (at' t i)) i l:=fun l=>by
  induction l with
  | nil=>intro i;rfl
  | cons f l ih=>intro i;simp[fitL,mapI,ih]
 cases fs with
 | none=>rfl
 | some l=>simp only[FitS,h];rfl
theorem zTJ{α:Type}(l:List α):l.take (min (l.length:Int) 32767).toNat=l.take 32767:=by
 by_cases h:l.length<=32767
 ·rw[List.take_of_length_le h,List.take_of_length_le (by omega)]
 ·congr 1;omega
theorem zEH(s:Option (List UInt8)):(encB s).takeD (min ((s.getD []).length:Int) 32767).toNat=encB (whole s):=by
 rw[zRK];cases s with
 | none=>rfl
 | some s =>
  simp only[whole,Option.map_some,Option.getD_some];rw[zTJ s];rfl
theorem takeT(s:Option (List T)):(encT s).takeD (min ((s.getD []).length:Int) 32767).toNat=encT (qBD s):=by
 rw[zSK];cases s with
 | none=>rfl
 | some s =>
  simp only[qBD,Option.map_some,Option.getD_some];rw[zTJ s];rfl
theorem xAG{fs:Option (List Fl)}(h:wfFs fs=true):(fs.getD []).length<=1000 /\ ∀f∈fs.getD [],wfF f=true:=by
 cases fs with
 | none=>simp
 | some l=>simp only[wfFs,Bool.and_eq_true,decide_eq_true_eq] at h;exact⟨h.1,zJH h.2⟩
theorem zEE{fs:Option (List Fl)}{f:Fl}(h:f∈fs.getD []):wF f<wFs fs:=by
 cases fs with
 | none=>simp at h
 | some l=>have:=wF_mem (l:=l) h;simp only[wFs];omega
end Go.Mx
namespace Go.Mx
open Go Go.Dx
theorem yFH(f:Fl)(v:Int)(t:T):qTA f v t=if f.kind=11 then .mk 0 none (Mx.null f v t || (decide (0<=f.tag)&&t.L.length==0)) (nz ((t.L.take Most).map fun x=>qNA f.of false x (FitS f.sub v x))) none else qNA f.kind (Mx.null f v t) t (FitS f.sub v t):=by
 cases f;simp only[qTA,Fl.kind,Fl.tag,Fl.of,Fl.sub];rfl
theorem qFJ(f:Fl)(v:Int)(t:T)(h:f.of≠11):qTA (one f) v t=qNA f.of false t (FitS f.sub v t):=by
 rw[yFH];have e:(one f).kind=f.of:=rfl;have e2:Mx.null (one f) v t=false:=by simp[Mx.null,one,Fl.null]
 rw[e,if_neg h,e2];rfl
theorem zBL(f:Fl):(one f).d = .row [.int f.of,.int f.frm,.int f.to,.int (-1),.int (-1),.int f.dflt,.int f.of,encF f.sub]:=by
 cases f;simp[one,Fl.d,Fl.of,Fl.frm,Fl.to,Fl.dflt,Fl.sub]
theorem qTH{f:Fl}(h:wfF f=true)(hk:f.kind=11):f.of≠11:=by
 cases f;simp only[wfF,Bool.and_eq_true,Bool.or_eq_true,decide_eq_true_eq,Fl.kind,Fl.of] at h hk ⊢;rcases h.1.2 with h|h
 ·exact absurd hk h
 ·exact h
theorem wF_eq(f:Fl):wF f=wFs f.sub+1+(if f.kind=11 then 1 else 0):=by cases f;rfl
theorem xQL{f:Fl}(h:wfF f=true)(hk:f.kind=11):wfF (one f)=true:=by
 have ho:=qTH h hk;have hs:=xRE h;cases f;simp only[Fl.of,Fl.sub] at ho hs;simp only[one,wfF,Bool.and_eq_true,Bool.or_eq_true,decide_eq_true_eq,Fl.of,Fl.sub];exact⟨⟨by omega,.inl ho⟩,hs⟩
theorem zVG(k:Int):(if (k==8)=true then (k==8) else (k==9))=decide (k=8∨k=9):=by
 by_cases h8:k=8 <;> by_cases h9:k=9 <;> simp[h8,h9]
theorem xIB(a b:Int):(a==b)=decide (a=b):=by
 by_cases h:a=b <;> simp[h]
theorem ev42(f:Fl)(v:Int)(t:T)(n:Nat)(h:Pre (n+1) 42 [f.d,.int v,t.d]):zCA X (Pre n) ob42 [f.d,.int v,t.d]/\de42.eval X [f.d,.int v,t.d]=X 42 [f.d,.int v,t.d]:=by
 obtain⟨hm,hs⟩:=h;have hm:=hm rfl;rw[qNK,xXA] at hm;rw[yHL,xXA] at hs;have hfold:f.kind=11->Folds X [f.d,.int v,t.d] 3 (.f .take [.f (.get 3) [.v 2],.f .imin [.f .len [.f (.get 3) [.v 2]],.k (.int 32767)]]) [.k .nil] [.f .app [.v 5,.f .mklist [.f (.ext 42) [.f .mkrow [.f (.get 6) [.v 0],.f (.get 1) [.v 0],.f (.get 2) [.v 0],.k (.int (-1)),.k (.int (-1)),.f (.get 5) [.v 0],.f (.get 6) [.v 0],.f (.get 7) [.v 0]],.v 1,.v 4]]]] T.d (fun a:List T=>[encT (nz a)]) (fun _ x a=>a++[qNA f.of false x (FitS f.sub v x)]) (t.L.take Most) []:=fun hk=>by
  refine⟨rfl,?_,rfl,fun i x a hx _=>?_⟩
  ·simp only[ev_f,ev_k,zAA,zBA,ev_v,List.getD_cons_zero,List.getD_cons_succ,zQA,yGA,zTA,xOA,xTA,yVB,takeT,yLD,qBD];cases t with|mk n s b l u=>cases l <;> rfl
  ·simp only[zAA,zBA,ev_v,ev_k,ev_f,List.cons_append,List.nil_append,List.getD_cons_succ,List.getD_cons_zero,zQA,yFA,zAB,<- zBL,zGA,X_42,xBA,xXA,zKA,zLE,yUA,appd_T];rw[qFJ f v x (qTH hs hk)]
 constructor
 ·refine⟨fun _=>⟨?_,trivial⟩,fun _=>⟨fun _=>⟨⟨fun _=>?_,?_⟩,trivial⟩,fun _=>⟨fun hc=>⟨?_,?_,trivial⟩,trivial⟩,trivial⟩,⟨fun e=>by simp[ySA] at e,trivial⟩,trivial⟩
  ·simp only[Ob.holds,zAA,zBA,ev_v,ev_k,ev_f,List.getD_cons_succ,List.getD_cons_zero,zQA,yGA,zTA,yHA,xTA,zKA,Bool.false_eq_true,if_false];omega
  ·simp only[zAA,zBA,ev_v,ev_f,List.getD_cons_succ,List.getD_cons_zero,zQA,yFA];rw[meas_43,zPA]
   have:=yZG f
   omega
  ·simp only[zAA,zBA,ev_v,ev_f,List.getD_cons_succ,List.getD_cons_zero,zQA,yFA];rw[side_43,zPA];exact xRE hs
  ·have hk:f.kind=11:=by
    simp only[zAA,zBA,ev_v,ev_k,ev_f,List.getD_cons_zero,zQA,yFA,qZA,zSA] at hc;simpa using hc
   refine(hfold hk).all (fun k x hx=>?_);have hlt:=(List.getElem?_eq_some_iff.1 hx).1;rw[List.length_take] at hlt;simp only[Most] at hlt;simp only[zCA,Ob.holds,zAA,zBA,ev_v,ev_k,ev_f,List.cons_append,List.nil_append,List.getD_cons_succ,List.getD_cons_zero,zQA,yFA,zAB,<- zBL,zGA,X_42,xBA,xXA,zKA,zLE,yUA];rw[xEC (fun _ x=>qNA f.of false x (FitS f.sub v x)),qIA];refine⟨?_,⟨fun _=>?_,?_⟩,trivial⟩
   ·have e:((encT (nz ([]++List.map (fun x=>qNA f.of false x (FitS f.sub v x)) (List.take k (t.L.take Most))))).appd (D.list [(qTA (one f) v x).d])).len<=50000:=by
     rw[appd_T,xOA,xDA];simp[Most];omega
    exact zXL e (by omega)
   ·rw[qNK,xXA];have e1:=wF_eq (one f);have e2:=wF_eq f;have ho:=qTH hs hk;have e3:(one f).kind=f.of:=rfl;have e4:(one f).sub=f.sub:=rfl;rw[e3,if_neg ho,e4] at e1;rw[if_pos hk] at e2;omega
   ·rw[yHL,xXA];exact xQL hs hk
  ·simp only[Ob.holds,zAA,zBA,ev_v,ev_k,ev_f,List.getD_cons_succ,List.getD_cons_zero,zQA,yGA,zTA,xOA,xTA,zKA,Bool.false_eq_true,if_false];omega
 ·rw[X_42,xBA,xXA,zKA,yFH];simp only[de42,ev_f,zAA,zBA,ev_v,ev_k,List.getD_cons_zero,List.getD_cons_succ,zQA,yFA,yGA,qZA,zVA,zGA,X_43,X_56,xBA,xXA,zPA,zKA,zTA,yHA,xOA,xTA,yVB,zEH,zAB,qJB];have ei:(if (f.kind==8)=true then D.bool (f.kind==8) else D.bool (f.kind==9))=D.bool (decide (f.kind=8∨f.kind=9)):=by
   rw[<- zVG];split <;> rfl
  rw[ei,zVA];simp only[xIB,decide_eq_true_eq];by_cases h89:f.kind=8∨f.kind=9
  ·have h11:f.kind≠11:=by omega
   rw[if_pos h89,if_neg h11,qNA,if_pos h89];simp[T.d,encT,encU]
  ·rw[if_neg h89];by_cases h10:f.kind=10
   ·have h11:f.kind≠11:=by omega
    rw[if_pos h10,if_neg h11,qNA,if_neg h89,if_pos h10];rw[T.d]
   ·rw[if_neg h10];by_cases h11:f.kind=11
    ·rw[if_pos h11,if_pos h11,(hfold h11).fold 0,xEC (fun _ x=>qNA f.of false x (FitS f.sub v x)),qIA,T.d];have e2:decide (((t.l.getD []).length:Int)=0)=(t.L.length==0):=by
      show decide ((t.L.length:Int)=0)=_;by_cases h:t.L.length=0 <;> simp[h]
     rw[e2];by_cases h0:0<=f.tag <;> cases Mx.null f v t <;> simp[h0,encB,encU,-List.map_take]
    ·rw[if_neg h11,if_neg h11,qNA,if_neg h89,if_neg h10,T.d];simp[encT,encU]
end Go.Mx
namespace Go.Mx
open Go Go.Dx
def posT(x:Tg):List Tg->Nat
 | []=>0
 | t::r=>if t.key<x.key then posT x r+1 else 0
theorem yZF(x:Tg):∀l,posT x l<=l.length
 | []=>Nat.le_refl _
 | t::r=>by
  simp only[posT]
  have:=yZF x r
  split <;> simp <;> omega
theorem zHL(x z:Tg):∀(l:List Tg) (k:Nat),k<posT x l->(l.getD k z).key<x.key
 | [],k,h=>by simp[posT] at h
 | t::r,k,h=>by
  simp only[posT] at h;split at h
  ·rename_i ht;cases k with
   | zero=>simpa using ht
   | succ k=>simpa using zHL x z r k (by omega)
  ·omega
theorem xIH(x z:Tg):∀(l:List Tg),posT x l<l.length -> ¬(l.getD (posT x l) z).key<x.key
 | [],h=>by simp[posT] at h
 | t::r,h=>by
  simp only[posT] at h ⊢;split
  ·rename_i ht;rw[if_pos ht] at h;simp only[List.length_cons] at h;simpa using xIH x z r (by omega)
  ·rename_i ht;simpa using ht
theorem yOH(x z:Tg):∀l:List Tg,xGA x l=if posT x l<l.length/\(l.getD (posT x l) z).key=x.key then l else l.take (posT x l)++x::l.drop (posT x l)
 | []=>by simp[xGA,posT]
 | t::r=>by
  by_cases h:t.key<x.key
  ·have e:posT x (t::r)=posT x r+1:=by rw[posT,if_pos h]
   have e2:xGA x (t::r)=t::xGA x r:=by rw[xGA,if_pos h]
   rw[e,e2,yOH x z r];by_cases h2:posT x r<r.length/\(r.getD (posT x r) z).key=x.key
   ·rw[if_pos h2,if_pos (by simpa using h2)]
   ·rw[if_neg h2,if_neg (by simpa using h2)]
    simp
  ·have e:posT x (t::r)=0:=by rw[posT,if_neg h]
   have e2:xGA x (t::r)=if t.key=x.key then t::r else x::t::r:=by rw[xGA,if_neg h]
   rw[e,e2];by_cases h2:t.key=x.key
   ·rw[if_pos h2,if_pos (by simp[h2])]
   ·rw[if_neg h2,if_neg (by simp[h2])]
    simp
def xIC(z:Tg)(l:List Tg)(j:Nat):List Tg:=l.take (l.length-j)++(if j=0 then z else l.getD (l.length-j) z)::l.drop (l.length-j)
theorem xBI(z:Tg)(l:List Tg):xIC z l 0=l++[z]:=by simp[xIC]
theorem xGD(z:Tg)(l:List Tg)(j:Nat)(h:j<=l.length):(xIC z l j).length=l.length+1:=by
 simp[xIC];omega
theorem qXJ(z:Tg)(l:List Tg)(j:Nat)(h:j<l.length):(xIC z l j)[l.length-j-1]? = some (l.getD (l.length-j-1) z):=by
 rw[xIC,List.getElem?_append_left (by simp;omega),List.getElem?_take_of_lt (by omega),List.getElem?_eq_getElem (by omega),List.getD_eq_getElem?_getD,List.getElem?_eq_getElem (by omega)];rfl
theorem xQI{α:Type}(a:List α)(x y:α)(b:List α)(n:Nat)(h:n=a.length):(a++x::b).set n y=a++y::b:=by
 subst h;rw[List.set_append_right _ _ (Nat.le_refl _)];simp
theorem yEG(z:Tg)(l:List Tg)(j:Nat)(h:j<=l.length)(y:Tg):(xIC z l j).set (l.length-j) y=l.take (l.length-j)++y::l.drop (l.length-j):=by
 rw[xIC,xQI _ _ _ _ _ (by simp)]
theorem xAI(z:Tg)(l:List Tg)(j:Nat)(h:j<l.length):(xIC z l j).set (l.length-j) (l.getD (l.length-j-1) z)=xIC z l (j+1):=by
 rw[yEG z l j (by omega),xIC,if_neg (by omega)];have e:l.length-(j+1)=l.length-j-1:=by omega
 rw[e];have e1:l.take (l.length-j)=l.take (l.length-j-1)++[l.getD (l.length-j-1) z]:=by
  have h2:l[l.length-j-1]? = some (l.getD (l.length-j-1) z):=by
   rw[List.getD_eq_getElem?_getD,List.getElem?_eq_getElem (by omega)];rfl
  have:=xMC h2
  rw[<- this]
  congr 1;omega
 have e2:l.drop (l.length-j-1)=l.getD (l.length-j-1) z::l.drop (l.length-j):=by
  rw[List.drop_eq_getElem_cons (by omega)]
  congr 1
  ·rw[List.getD_eq_getElem?_getD,List.getElem?_eq_getElem (by omega)];rfl
  ·congr 1;omega
 rw[e1,e2];simp
theorem nz_enc{l:List Tg}(h:0<l.length):encU (nz l) = .list (l.map Tg.d):=by
 cases l with
 | nil=>simp at h
 | cons a l=>rfl
theorem yEL(l:List Tg)(n:Nat)(x:Tg)(h:0<l.length):(encU (nz l)).setAtD n x.d=encU (nz (l.set n x)):=by
 rw[nz_enc h,nz_enc (by simpa using h),List.map_set];rfl
theorem at_U(l:List Tg)(n:Nat)(z x:Tg)(h:l[n]? = some x):(encU (nz l)).rows.getD n .nil=x.d:=by
 rw[xKC,xDA,List.getD_eq_getElem?_getD,List.getElem?_map,h];rfl
def go1:DE:=.f .ite [.f .ltI [.v 7,.f .len [.v 4]],.f .ltI [.f (.get 0) [.f .at [.v 4,.v 7]],.f (.get 0) [.v 3]],.k (.bool false)]
def is1:List DE:=[.k (.int 0)]
def bs1:List DE:=[.f (.add .i64) [.v 7,.k (.int 1)]]
def iE:DE:=.fold 5 (.f .iota [.wh 5 go1 is1 bs1]) is1 bs1 0
def apE:DE:=.f .app [.v 4,.f .mklist [.f .mkrow [.k (.int 0),.k .nil]]]
def go2:DE:=.f .ltI [iE,.v 7]
def is2:List DE:=[.f (.sub .i64) [.f .len [apE],.k (.int 1)],apE]
def bs2:List DE:=[.f (.sub .i64) [.v 7,.k (.int 1)],.f .setAt [.v 8,.v 7,.f .at [.v 8,.f (.sub .i64) [.v 7,.k (.int 1)]]]]
def src41:DE:=.f .take [.v 1,.f .imin [.f .len [.v 1],.k (.int 32767)]]
def cl41:DE:=.f .ltI [.f (.get 0) [.v 3],.f (.ext 51) [.v 0]]
def yDL:DE:=.f .eqI [.f (.get 0) [.f .at [.v 4,iE]],.f (.get 0) [.v 3]]
def c41:DE:=.f .ite [cl41,.k (.bool true),.f .ite [.f .ltI [iE,.f .len [.v 4]],yDL,.k (.bool false)]]
def li41(j:Nat):DE:=.fold 5 (.f .iota [.wh 5 go2 is2 bs2]) is2 bs2 j
def bs41:List DE:=[.f .ite [c41,.v 4,.f .setAt [li41 1,iE,.v 3]]]
theorem de41_eq:de41 = .fold 2 src41 [.k .nil] bs41 0:=rfl
def os41:List Ob:=[.when c41 false [.idx iE (li41 1) true,.idx iE (li41 1) true,.term 5 go2 is2 bs2,.all (.f .iotaS [.wh 5 go2 is2 bs2]) is2 bs2 [.when go2 true [.idx (.v 7) (.v 8) true,.idx (.v 7) (.v 8) true,.idx (.f (.sub .i64) [.v 7,.k (.int 1)]) (.v 8) true,.idx (.f (.sub .i64) [.v 7,.k (.int 1)]) (.v 8) true]],.room apE 32],
 .when cl41 false [.when (.f .ltI [iE,.f .len [.v 4]]) true [.idx iE (.v 4) true,.idx iE (.v 4) true]],
 .term 5 go1 is1 bs1,.all (.f .iotaS [.wh 5 go1 is1 bs1]) is1 bs1 [.when (.f .ltI [.v 7,.f .len [.v 4]]) true [.idx (.v 7) (.v 4) true,.idx (.v 7) (.v 4) true]]]
theorem ob41_eq:ob41=[.all src41 [.k .nil] bs41 os41,.idx (.f .imin [.f .len [.v 1],.k (.int 32767)]) (.v 1) false,.pre 51 [.v 0]]:=rfl
theorem xVL{x:Int}(h1:-100000<=x)(h2:x<=100000):IntKind.i64.wrap x=x:=by
 rw[IntKind.wrap_i64];omega
section
variable {fs u:D} {i:Nat} {x:Tg} {out:List Tg}
def zXB(fs u:D)(i:Nat)(x:Tg)(out:List Tg):List D:=[fs,u,.int i,x.d,encU (nz out)]
theorem run1(h:out.length<=50000):Runs X (zXB fs u i x out) 5 go1 is1 bs1 (posT x out) (fun k=>[.int k]):=by
 have hle:=yZF x out;refine⟨rfl,rfl,fun k hk=>?_,fun k hk=>?_,?_⟩
 ·simp only[zXB,bs1,zAA,zBA,ev_v,ev_k,ev_f,List.cons_append,List.nil_append,List.getD_cons_succ,List.getD_cons_zero,yDC];rw[xVL (by omega) (by omega)];rfl
 ·have:=zHL x x out k hk
  have hk':out[k]? = some (out.getD k x):=by rw[List.getD_eq_getElem?_getD,List.getElem?_eq_getElem (by omega)];rfl
  simp only[zXB,go1,zAA,zBA,ev_v,ev_k,ev_f,List.cons_append,List.nil_append,List.getD_cons_succ,List.getD_cons_zero,zTA,xPA,xDA,qLA,zUF,Int.toNat_natCast,at_U out k x _ hk',zQA,xUB,zVA];rw[decide_eq_true (by omega),decide_eq_true this];rfl
 ·simp only[zXB,go1,zAA,zBA,ev_v,ev_k,ev_f,List.cons_append,List.nil_append,List.getD_cons_succ,List.getD_cons_zero,zTA,xPA,xDA,qLA,zUF,Int.toNat_natCast,zQA];by_cases h2:posT x out<out.length
  ·have hk':out[posT x out]? = some (out.getD (posT x out) x):=by rw[List.getD_eq_getElem?_getD,List.getElem?_eq_getElem (by omega)];rfl
   simp only[at_U out _ x _ hk',xUB,List.getD_cons_zero,qLA,zVA];rw[decide_eq_false (xIH x x out h2)];split <;> rfl
  ·rw[decide_eq_false (by omega)];rfl
theorem xCE(h:out.length<=50000):iE.eval X (zXB fs u i x out) = .int (posT x out:Nat):=by
 rw[iE,(run1 h).fold 0];rfl
theorem xZG(h:out.length<=50000)(r:List D):iE.eval X (zXB fs u i x out++r) = .int (posT x out:Nat):=by
 rw[<- xCE (fs:=fs) (u:=u) (i:=i) h];exact xHA (n:=5) (by simp[zXB]) (by rfl)
theorem yKK:apE.eval X (zXB fs u i x out)=encU (nz (out++[⟨0,none⟩])):=by
 have e:D.row [.int 0,.nil]=Tg.d ⟨0,none⟩:=rfl;simp only[zXB,apE,zAA,zBA,ev_v,ev_k,ev_f,List.getD_cons_succ,List.getD_cons_zero,zAB,zLE,yUA];rw[e,appd_U]
theorem run2(h:out.length<=50000):Runs X (zXB fs u i x out) 5 go2 is2 bs2 (out.length-posT x out) (fun k=>[.int ((out.length-k:Nat):Int),encU (nz (xIC ⟨0,none⟩ out k))]):=by
 have hle:=yZF x out;refine⟨rfl,?_,fun k hk=>?_,fun k hk=>?_,?_⟩
 ·simp only[is2,zAA,zBA,ev_f,yKK,ev_k,zTA,xPA,xDA,xZB,xBI];rw[xVL (by simp[List.length_append]) (by simp[List.length_append];omega)]
  simp
 ·have e1:((out.length-k:Nat):Int)-1=((out.length-k-1:Nat):Int):=by omega
  have hl:=xGD ⟨0,none⟩ out k (by omega);simp only[zXB,bs2,zAA,zBA,ev_v,ev_k,ev_f,List.cons_append,List.nil_append,List.getD_cons_succ,List.getD_cons_zero,xZB];rw[xVL (by omega) (by omega),e1];simp only[zUF,Int.toNat_natCast,at_U _ _ x _ (qXJ ⟨0,none⟩ out k (by omega))];have e2:∀a (b c:D),Fn.eval X .setAt [a,b,c]=a.setAtD b.asInt.toNat c:=fun _ _ _=>rfl
  rw[e2,zKA,Int.toNat_natCast,yEL _ _ _ (by omega),xAI _ _ _ (by omega)]
  congr 2
 ·simp only[go2,zAA,zBA,ev_f,xZG h];simp only[zXB,ev_v,List.cons_append,List.nil_append,List.getD_cons_succ,List.getD_cons_zero,qLA,zSA];exact decide_eq_true (by omega)
 ·simp only[go2,zAA,zBA,ev_f,xZG h];simp only[zXB,ev_v,List.cons_append,List.nil_append,List.getD_cons_succ,List.getD_cons_zero,qLA,zSA];exact decide_eq_false (by omega)
theorem qGK(h:out.length<=50000):(li41 1).eval X (zXB fs u i x out)=encU (nz (xIC ⟨0,none⟩ out (out.length-posT x out))):=by
 rw[li41,(run2 h).fold 1];rfl
end
theorem zSE(p:Tg->Prop)[DecidablePred p]:∀(l:List Tg) (i:Nat) (s:List Tg),xKA (fun _ t out=>if p t then out else xGA t out) i l s=l.foldl (fun out t=>if p t then out else xGA t out) s
 | [],_,_=>rfl
 | a::l,i,s=>by simp only[xKA,List.foldl];exact zSE p l (i+1) _
theorem ev41(fs:Option (List Fl))(u:Option (List Tg))(n:Nat)(hw:wfFs fs=true):zCA X (Pre n) ob41 [encF fs,encU u]/\de41.eval X [encF fs,encU u]=X 41 [encF fs,encU u]:=by
 have hcl:∀(i:Nat) (x:Tg) (out:List Tg),cl41.eval X (zXB (encF fs) (encU u) i x out) = .bool (decide (x.key<(qHA (fs.getD []):Int))):=fun i x out=>by
  simp only[zXB,cl41,zAA,zBA,ev_v,ev_f,List.getD_cons_succ,List.getD_cons_zero,zQA,xUB,zGA,X_51,zPA,qLA]
 have hlt:∀(i:Nat) (x:Tg) (out:List Tg),out.length<=50000->(DE.f .ltI [iE,.f .len [.v 4]]).eval X (zXB (encF fs) (encU u) i x out) = .bool (decide (posT x out<out.length)):=fun i x out h=>by
  simp only[zAA,zBA,ev_f,xCE h];simp only[zXB,ev_v,List.getD_cons_succ,List.getD_cons_zero,zTA,xPA,xDA,qLA,Int.ofNat_lt]
 have hc:∀(i:Nat) (x:Tg) (out:List Tg),out.length<=50000->c41.eval X (zXB (encF fs) (encU u) i x out) = .bool (decide (x.key<(qHA (fs.getD []):Int)∨(posT x out<out.length/\(out.getD (posT x out) x).key=x.key))):=fun i x out h=>by
  rw[c41,ev_f];simp only[zAA,zBA,hcl,ev_k,zVA];rw[ev_f];simp only[zAA,zBA,hlt i x out h,ev_k,zVA];by_cases h1:x.key<(qHA (fs.getD []):Int)
  ·simp[h1]
  ·by_cases h2:posT x out<out.length
   ·have hk':out[posT x out]? = some (out.getD (posT x out) x):=by rw[List.getD_eq_getElem?_getD,List.getElem?_eq_getElem (by omega)];rfl
    have e:yDL.eval X (zXB (encF fs) (encU u) i x out) = .bool ((out.getD (posT x out) x).key==x.key):=by
     simp only[yDL,zAA,zBA,ev_f,xCE h];simp only[zXB,ev_v,List.getD_cons_succ,List.getD_cons_zero,zUF,Int.toNat_natCast,at_U out _ x _ hk',zQA,xUB,qZA]
    simp only[h1,h2,e,decide_true,decide_false,if_true,Bool.false_eq_true,if_false,false_or,true_and];exact congrArg D.bool (xIB _ _)
   ·simp[h1,h2]
 have hfold:Folds X [encF fs,encU u] 2 src41 [.k .nil] bs41 Tg.d (fun a:List Tg=>[encU (nz a)]) (fun _ x a=>if x.key<(qHA (fs.getD []):Int) then a else xGA x a) ((u.getD []).take Most) []:=by
  refine⟨rfl,?_,rfl,fun i x a hx ha=>?_⟩
  ·simp only[src41,ev_f,ev_k,zAA,zBA,ev_v,List.getD_cons_zero,List.getD_cons_succ,zTA,xPA,xTA,yVB,zTK,xKC];cases u with
   | none=>rfl
   | some l =>
    simp only[Option.map_some,Option.getD_some];have e:l.take (min (l.length:Int) 32767).toNat=l.take 32767:=by
     by_cases h:l.length<=32767
     ·rw[List.take_of_length_le (by omega),List.take_of_length_le (by omega)]
     ·congr 1;omega
    rw[e];rfl
  ·have hal:a.length<=50000:=by
    rw[ha,zSE (fun x=>x.key<(qHA (fs.getD []):Int))]
    have:=yDB (fun t=>decide (t.key<(qHA (fs.getD []):Int))) (((u.getD []).take Most).take i) []
    simp only[decide_eq_true_eq] at this;refine Nat.le_trans this ?_;simp[Most];omega
   show zEA X bs41 (zXB (encF fs) (encU u) i x a)=_;have hp:=yZF x a;simp only[bs41,zAA,zBA];rw[ev_f];simp only[zAA,zBA];rw[hc i x a hal,zVA,ev_f];simp only[zAA,zBA];rw[qGK hal,xCE hal];have e2:∀a (b c:D),Fn.eval X .setAt [a,b,c]=a.setAtD b.asInt.toNat c:=fun _ _ _=>rfl
   have e3:(DE.v 3).eval X (zXB (encF fs) (encU u) i x a)=x.d:=rfl;have e4:(DE.v 4).eval X (zXB (encF fs) (encU u) i x a)=encU (nz a):=rfl;have hl:=xGD ⟨0,none⟩ a (a.length-posT x a) (by omega);rw[e2,e3,e4,zKA,Int.toNat_natCast,yEL _ _ _ (by omega),yOH x x];have hs:=yEG ⟨0,none⟩ a (a.length-posT x a) (by omega) x;have e5:a.length-(a.length-posT x a)=posT x a:=by omega
   rw[e5] at hs;rw[hs];by_cases h1:x.key<(qHA (fs.getD []):Int)
   ·simp[h1]
   ·by_cases h2:posT x a<a.length/\(a.getD (posT x a) x).key=x.key
    ·rw[if_pos (decide_eq_true (.inr h2)),if_neg h1,if_pos h2]
    ·rw[if_neg (by simp only[h1,h2,false_or,decide_false];exact Bool.false_ne_true),if_neg h1,if_neg h2]
 constructor
 ·rw[ob41_eq];refine⟨hfold.all (fun k x hx=>?_),?_,⟨fun e=>by simp[ySA] at e,?_⟩,trivial⟩
  ·generalize ha:xKA (fun _ x a=>if x.key<(qHA (fs.getD []):Int) then a else xGA x a) 0 (((u.getD []).take Most).take k) []=a;have hal:a.length<=40000:=by
    rw[<- ha,zSE (fun x=>x.key<(qHA (fs.getD []):Int))]
    have:=yDB (fun t=>decide (t.key<(qHA (fs.getD []):Int))) (((u.getD []).take Most).take k) []
    simp only[decide_eq_true_eq] at this;refine Nat.le_trans this ?_;simp[Most];omega
   have hal':a.length<=50000:=by omega
   have hp:=yZF x a;have hl:=xGD ⟨0,none⟩ a (a.length-posT x a) (by omega);show zCA X (Pre n) os41 (zXB (encF fs) (encU u) k x a);have hrun1:=run1 (fs:=encF fs) (u:=encU u) (i:=k) (x:=x) hal';have hrun2:=run2 (fs:=encF fs) (u:=encU u) (i:=k) (x:=x) hal';have hidx:(Ob.idx iE (li41 1) true).holds X (Pre n) (zXB (encF fs) (encU u) k x a):=by
    simp only[Ob.holds];rw[qGK hal',xCE hal',xPA,xDA];simp only[zKA,if_true,Int.toNat_natCast];omega
   refine⟨fun _=>⟨hidx,hidx,hrun2.term,hrun2.all (fun j hj=>⟨fun hg=>?_,trivial⟩),?_,trivial⟩,⟨fun _=>⟨fun hg=>?_,trivial⟩,hrun1.term,hrun1.all (fun j hj=>⟨fun hg=>?_,trivial⟩),trivial⟩⟩
   ·have hl2:=xGD ⟨0,none⟩ a j (by omega);rw[go2,ev_f] at hg;simp only[zAA,zBA,xZG hal'] at hg;simp only[zXB,ev_v,List.cons_append,List.nil_append,List.getD_cons_succ,List.getD_cons_zero,qLA,zSA,decide_eq_true_eq] at hg;have e1:((a.length-j:Nat):Int)-1=((a.length-j-1:Nat):Int):=by omega
    simp only[zCA,Ob.holds,zXB,zAA,zBA,ev_v,ev_k,ev_f,List.cons_append,List.nil_append,List.getD_cons_succ,List.getD_cons_zero,zKA,xZB,if_true,xPA,xDA,Int.toNat_natCast];rw[xVL (by omega) (by omega),e1];simp only[Int.toNat_natCast,and_true,and_self];omega
   ·simp only[Ob.holds];rw[yKK,xPA,xDA];exact zXL (by simp;omega) (by omega)
   ·rw[hlt k x a hal',zSA,decide_eq_true_eq] at hg
    have:(Ob.idx iE (.v 4) true).holds X (Pre n) (zXB (encF fs) (encU u) k x a):=by
     simp only[Ob.holds];rw[xCE hal'];simp only[zXB,ev_v,List.getD_cons_succ,List.getD_cons_zero,xPA,xDA,zKA,if_true,Int.toNat_natCast];omega
    exact⟨this,this,trivial⟩
   ·simp only[zXB,zAA,zBA,ev_v,ev_f,List.cons_append,List.nil_append,List.getD_cons_succ,List.getD_cons_zero,zTA,xPA,xDA,qLA,zSA,decide_eq_true_eq] at hg;simp only[zCA,Ob.holds,zXB,ev_v,List.cons_append,List.nil_append,List.getD_cons_succ,List.getD_cons_zero,zKA,if_true,xPA,xDA,Int.toNat_natCast,and_true,and_self];omega
  ·simp only[Ob.holds,zAA,zBA,ev_v,ev_k,ev_f,List.getD_cons_succ,List.getD_cons_zero,zTA,xPA,xTA,zKA,Bool.false_eq_true,if_false];omega
  ·simp only[zAA,zBA,ev_v,List.getD_cons_zero];rw[xZI,zPA];exact hw
 ·rw[X_41,zPA,decU_enc,de41_eq,hfold.fold 0];rw[zSE (fun x=>x.key<(qHA (fs.getD []):Int))];rfl
end Go.Mx
namespace Go.Mx
open Go Go.Dx
theorem xBB{l:Nat}(h:l<=lim):l*1<=LIM/\l<=maxLen:=by
 simp only[lim] at h;exact⟨by simp only[LIM];omega,by simp only[maxLen];omega⟩
theorem band1(n:Int):IntKind.i64.wrap ((BitVec.ofInt IntKind.i64.bits n &&& BitVec.ofInt IntKind.i64.bits 1).toNat:Nat)=n%2:=by
 have e:(BitVec.ofInt IntKind.i64.bits n &&& BitVec.ofInt IntKind.i64.bits 1).toNat=(n%2).toNat:=by
  rw[BitVec.toNat_and];have e1:(BitVec.ofInt IntKind.i64.bits n).toNat=(n%18446744073709551616).toNat:=by simp[IntKind.bits,BitVec.toNat_ofInt]
  have e2:(BitVec.ofInt IntKind.i64.bits 1).toNat=2 ^ 1-1:=rfl;rw[e1,e2,Nat.and_two_pow_sub_one_eq_mod];omega
 rw[e,xVL (by omega) (by omega)];omega
theorem xVC(a b:Int)(k:IntKind):Fn.eval X (.band k) [.int a,.int b] = .int (k.wrap (BitVec.ofInt k.bits a &&& BitVec.ofInt k.bits b).toNat):=rfl
theorem zZI(a:Int):Fn.eval X .mkbytes [.int a] = .bytes [UInt8.ofNat a.toNat]:=rfl
theorem zCJ(a:Int):Fn.eval X .zeros [.int a] = .bytes (List.replicate a.toNat 0):=rfl
theorem xQK(a b:D):Fn.eval X .copy [a,b]=a.copyD b:=rfl
theorem encN_ne{l:List UInt8}(h:0<l.length):encN l = .bytes l:=by cases l with|nil=>simp at h|cons=>rfl
theorem yGB(s:List UInt8):(qHB s).length=16:=by simp[qHB];omega
theorem zLH(k:Int):0<=zAD k/\zAD k<=8:=by
 simp only[zAD];split
 ·omega
 ·split
  ·omega
  ·split <;> omega
theorem whole_le(s:Option (List UInt8)):((whole s).getD []).length<=32767:=by
 cases s <;> simp[whole,Most];omega
theorem yQB(s:Option (List UInt8)):(whole s).getD []=(s.getD []).take Most:=by
 cases s <;> simp[whole]
theorem zCE(s:Option (List T)):(qBD s).getD []=(s.getD []).take Most:=by
 cases s <;> simp[qBD]
theorem qMH(b:Bool)(t:T):(if b then D.nil else encB (whole t.s))=encB (if b then none else whole t.s):=by cases b <;> rfl
theorem yXG(b:Bool)(t:T):(if b then none else whole t.s:Option (List UInt8)).getD []=if b then [] else t.S.take Most:=by
 cases b
 ·simp only[Bool.false_eq_true,if_false];exact yQB _
 ·rfl
theorem xAL(b x:Bool)(t:T)(s:Int):(encN (counted x b (if b then [] else t.S.take Most).length s.toNat)).appd (encB (if b then none else whole t.s))=encN (counted x b (if b then [] else t.S.take Most).length s.toNat++(if b then [] else t.S.take Most)):=by
 rw[yRB]
 ·rw[yTA,yXG]
 ·cases (if b then none else whole t.s:Option (List UInt8)) with
  | none=>exact .inl rfl
  | some s=>exact .inr ⟨s,.inl rfl⟩
theorem text_l(b:Bool)(t:T):(if b then [] else t.S.take Most).length<=32767:=by
 cases b <;> simp[Most];omega
theorem ev48(k:Int)(fs:Option (List Fl))(b:Bool)(v:Int)(x:Bool)(t:T)(n:Nat)(h:Pre (n+1) 48 [.int k,encF fs,.bool b,.int v,.bool x,t.d]):zCA X (Pre n) ob48 [.int k,encF fs,.bool b,.int v,.bool x,t.d]/\de48.eval X [.int k,encF fs,.bool b,.int v,.bool x,t.d]=X 48 [.int k,encF fs,.bool b,.int v,.bool x,t.d]:=by
 obtain⟨hm,hs⟩:=h;have hm:=hm rfl;rw[yPI,zPA] at hm;rw[xXI,zPA,zKA,zKA,zSA,zSA,xBA] at hs;obtain⟨hs,hl⟩:=hs;have htl:=text_l b t;have e16:∀k:Nat,[Int.toNat (k:Int)]=[k]:=fun _=>rfl
 constructor
 ·refine⟨fun c0=>⟨fun _=>⟨?_,trivial⟩,fun c7=>⟨fun c8=>⟨?_,⟨?_,?_⟩,?_,trivial⟩,fun c8=>⟨fun c9=>⟨?_,⟨?_,?_⟩,?_,trivial⟩,fun c9=>⟨fun c10=>⟨⟨fun _=>?_,?_⟩,trivial⟩,fun c10=>⟨⟨?_,?_⟩,⟨?_,?_⟩,trivial⟩,trivial⟩,trivial⟩,trivial⟩,trivial⟩,trivial⟩
  ·simp only[Ob.holds,ev_k,zKA];exact⟨by omega,by simp only[LIM];omega,by simp only[maxLen];omega⟩
  ·simp only[Ob.holds,ev_f,zAA,zBA,ev_v,ev_k,List.getD_cons_zero,List.getD_cons_succ,zQA,yGA,zTA,yHA,xTA,yVB,zEH,zVA,qMH,zGA,X_53,zSA,zKA,yUA,Int.toNat_natCast,yXG,xAL,xFA] at c0 c7 c8 ⊢;simp only[qZA,zSA,xIB,decide_eq_true_eq,decide_eq_false_iff_not] at c0 c7 c8;rw[yBA,if_neg c0,if_neg c7,if_pos c8] at hl;exact xBB hl
  ·exact fun e=>by simp[ySA] at e
  ·simp only[ev_f,zAA,zBA,ev_v,ev_k,List.getD_cons_zero,List.getD_cons_succ,zQA,yGA,zTA,yHA,xTA,yVB,zEH,zVA,qMH,yXG];rw[xOE];simp only[zKA];exact⟨by omega,by omega,.inl trivial⟩
  ·simp only[Ob.holds,ev_f,zAA,zBA,ev_v,ev_k,List.getD_cons_zero,List.getD_cons_succ,zQA,yGA,zTA,yHA,xTA,zKA,Bool.false_eq_true,if_false];omega
  ·simp only[Ob.holds,ev_f,zAA,zBA,ev_v,ev_k,List.getD_cons_zero,List.getD_cons_succ,zQA,yGA,zTA,yHA,xTA,yVB,zEH,zVA,qMH,zGA,X_53,zSA,zKA,yUA,Int.toNat_natCast,yXG,xAL,xFA] at c0 c7 c8 c9 ⊢;simp only[qZA,zSA,xIB,decide_eq_true_eq,decide_eq_false_iff_not] at c0 c7 c8 c9;rw[yBA,if_neg c0,if_neg c7,if_neg c8,if_pos c9] at hl;exact xBB hl
  ·exact fun e=>by simp[ySA] at e
  ·simp only[ev_f,zAA,zBA,ev_v,ev_k,List.getD_cons_zero,List.getD_cons_succ,zQA,yGA,zTA,yHA,xTA,yVB,zEH,zVA,qMH,yXG];rw[xOE];simp only[zKA];exact⟨by omega,by omega,.inr trivial⟩
  ·simp only[Ob.holds,ev_f,zAA,zBA,ev_v,ev_k,List.getD_cons_zero,List.getD_cons_succ,zQA,yGA,zTA,yHA,xTA,zKA,Bool.false_eq_true,if_false];omega
  ·simp only[zAA,zBA,ev_v,List.getD_cons_zero,List.getD_cons_succ];rw[yOF,zPA];omega
  ·simp only[ev_f,zAA,zBA,ev_v,ev_k,List.getD_cons_zero,List.getD_cons_succ,qZA,zSA,xIB,decide_eq_true_eq,decide_eq_false_iff_not] at c0 c7 c8 c9 c10 ⊢;rw[xTF,zPA,zKA,zSA,xBA];rw[yBA,if_neg c0,if_neg c7,if_neg c8,if_neg c9,if_pos c10] at hl;exact⟨hs,hl⟩
  ·exact fun e=>by simp[ySA] at e
  ·simp only[ev_f,zAA,zBA,ev_v,List.getD_cons_zero,List.getD_cons_succ,zQA,yGA,zGA,X_55,zKA];rw[qMC];simp only[zKA];exact zLH k
  ·exact fun e=>by simp[ySA] at e
  ·trivial
 ·rw[X_48,zPA,xBA];simp only[zKA,zSA];simp only[de48,ev_f,zAA,zBA,ev_v,ev_k,List.getD_cons_zero,List.getD_cons_succ,zQA,yGA,qZA,zVA,xVC,band1,zOA,zZI,zCJ,xQK,zTA,yHA,xTA,yVB,zEH,qMH,zGA,X_53,X_47,X_45,X_55,zSA,zKA,yUA,Int.toNat_natCast,yXG,xAL,zPA,xBA,xIB,decide_eq_true_eq];by_cases c0:k=0
  ·rw[if_pos c0,yBA,if_pos c0,qLF (by omega) (by omega)];rfl
  ·rw[if_neg c0,yBA,if_neg c0];by_cases c7:k=7
   ·rw[if_pos c7,if_pos c7,encN_ne (by rw[yGB];omega)];show D.bytes (((encB t.s).asStr).take _++List.drop (encB t.s).asStr.length _)=_;rw[yTA];show D.bytes (t.S.take (List.replicate 16 (0:UInt8)).length++List.drop t.S.length (List.replicate 16 0))=_;rw[List.length_replicate,List.drop_replicate];rfl
   ·rw[if_neg c7,if_neg c7];by_cases c8:k=8
    ·rw[if_pos c8,if_pos c8];rfl
    ·rw[if_neg c8,if_neg c8];by_cases c9:k=9
     ·rw[if_pos c9,if_pos c9];rfl
     ·rw[if_neg c9,if_neg c9];by_cases c10:k=10
      ·rw[if_pos c10,if_pos c10]
      ·rw[if_neg c10,if_neg c10]
end Go.Mx
namespace Go.Mx
open Go Go.Dx
theorem xBJ(f:Fl)(t:T):qYA f t=if f.kind=0 then decide (t.n%2=f.dflt) else if f.kind=7 then (t.S.take 16).all (· == 0) else
  if f.kind=8∨f.kind=9 then (if 0<=f.null then t.null else t.S.length==0) else if f.kind=11 then t.L.length==0 else
  if f.kind=10 then yNE f.sub t else zJA t.n (zAD f.kind).toNat==zJA f.dflt (zAD f.kind).toNat:=by
 cases f;rw[qYA];rfl
theorem zYC(fs:Option (List Fl))(t:T):yNE fs t=(yPB (fs.getD []) 0 t&&(zWA (fs.getD []) t.u).length==0):=by
 cases fs <;> simp[yNE,yPB]
theorem qEF(t:T):∀(l:List Fl) (i:Nat) (s:Bool),xKA (fun i g s=>if s then true else !qYA g (at' t i)) i l s=(s || !yPB l i t)
 | [],i,s=>by simp[xKA,yPB]
 | g::r,i,s=>by
  rw[xKA,qEF t r,yPB];cases s <;> cases qYA g (at' t i) <;> simp
theorem xCG:∀(l:List UInt8) (i:Nat) (s:Bool),xKA (fun i (b:UInt8) s=>if s then true else if i<16 then ((b.toNat:Int) != 0) else false) i l s=(s || !(l.take (16-i)).all (· == 0))
 | [],i,s=>by simp[xKA]
 | g::r,i,s=>by
  rw[xKA,xCG r];by_cases h:i<16
  ·have e:(g::r).take (16-i)=g::r.take (16-(i+1)):=by
    have e:16-i=(16-(i+1))+1:=by omega
    rw[e,List.take_succ_cons]
   rw[if_pos h,e];have e2:((g.toNat:Int) != 0) = !(g==0):=by
    by_cases hg:g=0
    ·subst hg;rfl
    ·have h1:g.toNat≠0:=fun h=>hg (UInt8.toNat_inj.1 (by rw[h];rfl))
     have h2:((g.toNat:Int) != 0)=true:=bne_iff_ne.2 (by omega);have h3:(g==0)=false:=beq_eq_false_iff_ne.2 hg;rw[h2,h3];rfl
   rw[e2,List.all_cons];cases s <;> cases (g==0) <;> cases (List.take (16-(i+1)) r).all (· == 0) <;> rfl
  ·have e:16-i=0:=by omega
   have e1:16-(i+1)=0:=by omega
   rw[if_neg h,e,e1];cases s <;> simp
theorem ev50(f:Fl)(t:T)(n:Nat)(h:Pre (n+1) 50 [f.d,t.d]):zCA X (Pre n) ob50 [f.d,t.d]/\de50.eval X [f.d,t.d]=X 50 [f.d,t.d]:=by
 obtain⟨hm,hs⟩:=h;have hm:=hm rfl;rw[yRI,xXA] at hm;rw[xUF,xXA] at hs;obtain⟨s1,s2⟩:=xAG (xRE hs);have f1:Folds X [f.d,t.d] 2 (.f (.get 1) [.v 1]) [.k (.bool false)] [.f .ite [.v 4,.k (.bool true),.f .ite [.f .ltI [.v 2,.k (.int 16)],.f .neI [.f (.get 0) [.v 3],.k (.int 0)],.k (.bool false)]]] (fun b:UInt8=>.int b.toNat) (fun s:Bool=>[.bool s]) (fun i (b:UInt8) s=>if s then true else if i<16 then ((b.toNat:Int) != 0) else false) (t.s.getD []) false:=by
  refine⟨rfl,?_,rfl,fun i x a hx _=>?_⟩
  ·simp only[ev_f,zAA,zBA,ev_v,List.getD_cons_zero,List.getD_cons_succ,zQA,yGA,xLF]
  ·simp only[zAA,zBA,ev_v,ev_k,ev_f,List.cons_append,List.nil_append,List.getD_cons_succ,List.getD_cons_zero,zVA,qLA,zQA];have e0:(D.int (x.toNat:Nat)).cells.getD 0 .nil = .int x.toNat:=rfl;rw[e0,zRD];by_cases h:i<16
   ·have:(i:Int)<16:=by omega
    cases a <;> simp[h,this]
   ·have:¬(i:Int)<16:=by omega
    cases a <;> simp[h,this]
 have f2:Folds X [f.d,t.d] 2 (.f (.get 7) [.v 0]) [.k (.bool false)] [.f .ite [.v 4,.k (.bool true),.f .not [.f (.ext 50) [.v 3,.f (.ext 40) [.v 1,.v 2]]]]] Fl.d (fun s:Bool=>[.bool s]) (fun i g s=>if s then true else !qYA g (at' t i)) (f.sub.getD []) false:=by
  refine⟨rfl,?_,rfl,fun i x a hx _=>?_⟩
  ·simp only[ev_f,zAA,zBA,ev_v,List.getD_cons_zero,zQA,yFA,List.getD_cons_succ,zSC]
  ·simp only[zAA,zBA,ev_v,ev_k,ev_f,List.cons_append,List.nil_append,List.getD_cons_succ,List.getD_cons_zero,zVA,zGA,X_50,X_40,xBA,xXA,zKA,yEC];cases a <;> rfl
 have ei:(if (f.kind==8)=true then D.bool (f.kind==8) else D.bool (f.kind==9))=D.bool (decide (f.kind=8∨f.kind=9)):=by
  rw[<- zVG];split <;> rfl
 constructor
 ·refine⟨fun c0=>⟨fun _=>⟨f1.all fun k x hx=>⟨fun _=>trivial,trivial⟩,trivial⟩,fun c7=>⟨fun _=>⟨fun _=>⟨fun _=>⟨fun _=>⟨⟨fun e=>by simp[ySA] at e,?_⟩,trivial⟩,f2.all fun k x hx=>⟨fun _=>⟨⟨fun _=>?_,?_⟩,⟨fun e=>by simp[ySA] at e,?_⟩,trivial⟩,trivial⟩,trivial⟩,fun _=>⟨⟨fun e=>by simp[ySA] at e,trivial⟩,⟨fun e=>by simp[ySA] at e,?_⟩,⟨fun e=>by simp[ySA] at e,trivial⟩,⟨fun e=>by simp[ySA] at e,?_⟩,⟨fun e=>by simp[ySA] at e,trivial⟩,trivial⟩,trivial⟩,trivial⟩,trivial⟩,trivial⟩,trivial⟩
  ·simp only[ev_f,zAA,zBA,ev_v,List.getD_cons_zero,List.getD_cons_succ,zQA,yGA,yFA];rw[qXG,zPA];exact xRE hs
  ·have hxm:x∈f.sub.getD []:=List.mem_of_getElem? hx;simp only[ev_f,zAA,zBA,ev_v,List.getD_cons_zero,List.getD_cons_succ,List.cons_append,List.nil_append,zGA];rw[yRI,xXA]
   have:=zEE hxm
   have:=yZG f
   omega
  ·have hxm:x∈f.sub.getD []:=List.mem_of_getElem? hx;simp only[ev_f,zAA,zBA,ev_v,List.getD_cons_zero,List.getD_cons_succ,List.cons_append,List.nil_append,zGA];rw[xUF,xXA];exact s2 x hxm
  ·simp only[zAA,zBA,ev_v,List.getD_cons_zero,List.getD_cons_succ,List.cons_append,List.nil_append];rw[xSF,zKA];omega
  ·simp only[ev_f,zAA,zBA,ev_v,List.getD_cons_zero,List.getD_cons_succ,zQA,yFA,zGA,X_55,zKA];rw[qMC];simp only[zKA];exact zLH _
  ·simp only[ev_f,zAA,zBA,ev_v,List.getD_cons_zero,List.getD_cons_succ,zQA,yFA,yGA,zGA,X_55,zKA];rw[qMC];simp only[zKA];exact zLH _
 ·rw[X_50,xBA,xXA,xBJ];rw[de50,ev_f];simp only[zAA,zBA];have g0:(DE.f (.get 0) [.v 0]).eval X [f.d,t.d] = .int f.kind:=by
   simp only[ev_f,zAA,zBA,ev_v,List.getD_cons_zero,zQA,yFA]
  simp only[ev_f .ite,ev_f .eqI,ev_f .not,ev_f .leI,ev_f .len,zAA,zBA,g0,ev_k,qZA,zVA,f1.fold 0,f2.fold 0,List.getD_cons_zero,qEF,xCG,ei];simp only[ev_f,ev_v,zAA,zBA,ev_k,List.getD_cons_zero,List.getD_cons_succ,zQA,yGA,yFA,xVC,band1,qZA,qJB,zTA,yHA,xOA,zGA,X_41,X_52,X_45,X_55,xPA,xDA,zPA,decU_enc,xYA,zKA,zVA,xIB,decide_eq_true_eq];by_cases c0:f.kind=0
  ·rw[if_pos c0,if_pos c0]
  ·rw[if_neg c0,if_neg c0];by_cases c7:f.kind=7
   ·rw[if_pos c7,if_pos c7];show (if _ then _ else _)=D.bool ((t.s.getD []).take 16 |>.all (· == 0));simp only[Bool.false_or,Nat.sub_zero];cases ((t.s.getD []).take 16).all (· == 0) <;> rfl
   ·rw[if_neg c7,if_neg c7];by_cases c8:f.kind=8∨f.kind=9
    ·rw[if_pos c8,if_pos c8];by_cases h0:0<=f.null
     ·rw[if_pos h0,if_pos h0]
     ·rw[if_neg h0,if_neg h0]
      congr 1
      show decide (((t.S.length:Nat):Int)=0)=_;by_cases h:t.S.length=0 <;> simp[h]
    ·rw[if_neg c8,if_neg c8];by_cases c11:f.kind=11
     ·rw[if_pos c11,if_pos c11]
      congr 1
      show decide (((t.L.length:Nat):Int)=0)=_;by_cases h:t.L.length=0 <;> simp[h]
     ·rw[if_neg c11,if_neg c11];by_cases c10:f.kind=10
      ·rw[if_pos c10,if_pos c10,zYC];cases yPB (f.sub.getD []) 0 t
       ·rfl
       ·simp only[Bool.false_or,Bool.not_true,Bool.false_eq_true,if_false,Bool.true_and]
        congr 1
        by_cases h:(zWA (f.sub.getD []) t.u).length=0 <;> simp[h]
      ·rw[if_neg c10,if_neg c10]
end Go.Mx
namespace Go.Mx
open Go Go.Dx
theorem zPB(f:Fl)(v:Int)(x:Bool)(t:T):field f v x t=xGB f.kind f.null f.of (Mx.null f v t) x t (fun y=>yAA f.sub v x y):=by
 cases f;rw[field];rfl
theorem qGA{A B:Type}(g:Nat->A->List B):∀(l:List A) (i:Nat) (s:List B),xKA (fun i a s=>s++g i a) i l s=s++(mapI g i l).flatten
 | [],i,s=>by simp[xKA,mapI]
 | a::l,i,s=>by simp only[xKA,mapI];rw[qGA g l (i+1)];simp
theorem yYC(a b:List UInt8):(encN a).appd (encN b)=encN (a++b):=by
 rw[yRB,xYA];cases b with
 | nil=>exact .inl rfl
 | cons x b=>exact .inr ⟨_,.inl rfl⟩
theorem yBE{A B:Type}(g:Nat->A->B):∀(l:List A) (i k:Nat),mapI g i (l.take k)=(mapI g i l).take k
 | [],i,k=>by simp[mapI]
 | a::l,i,0=>by simp[mapI]
 | a::l,i,k+1=>by simp[mapI,yBE g l (i+1) k]
theorem qFG{A B:Type}(g:Nat->A->B):∀(l:List A) (i k:Nat) (a:A),l[k]? = some a->(mapI g i l)[k]? = some (g (i+k) a)
 | [],i,k,a,h=>by simp at h
 | x::l,i,0,a,h=>by simp at h;subst h;simp[mapI]
 | x::l,i,k+1,a,h=>by
  simp only[List.getElem?_cons_succ] at h;simp only[mapI,List.getElem?_cons_succ];rw[qFG g l (i+1) k a h]
  congr 2;omega
theorem xTG{B:Type}{l:List (List B)}{k:Nat}{a:List B}(h:l[k]? = some a):(l.take k).flatten.length+a.length<=l.flatten.length:=by
 have e:l=l.take k++a::l.drop (k+1):=by
  obtain⟨h1,h2⟩:=List.getElem?_eq_some_iff.1 h;rw[<- h2,<- List.drop_eq_getElem_cons h1,List.take_append_drop]
 conv=>rhs;rw[e]
 simp only[List.flatten_append,List.length_append,List.flatten_cons];omega
theorem ev49(f:Fl)(v:Int)(x:Bool)(t:T)(n:Nat)(h:Pre (n+1) 49 [f.d,.int v,.bool x,t.d]):zCA X (Pre n) ob49 [f.d,.int v,.bool x,t.d]/\de49.eval X [f.d,.int v,.bool x,t.d]=X 49 [f.d,.int v,.bool x,t.d]:=by
 obtain⟨hm,hs⟩:=h;have hm:=hm rfl;rw[yQI,xXA] at hm;rw[xYI,xXA,zKA,zSA,xBA,zPB] at hs;obtain⟨hs,hl⟩:=hs;have hw:=xRE hs;have hN:∀J,(DE.f (.ext 56) [.v 0,.v 1,.v 3]).eval X ([f.d,.int v,.bool x,t.d]++J) = .bool (Mx.null f v t):=fun J=>by
  simp only[ev_f,zAA,zBA,ev_v,List.cons_append,List.getD_cons_zero,List.getD_cons_succ,zGA,X_56,xXA,xBA,zKA]
 have hN0:=hN [];rw[List.append_nil] at hN0;generalize hb:Mx.null f v t=b at *;have hlist:∀(z:Bool),(if z then D.nil else encT (qBD t.l))=encT (if z then none else qBD t.l):=fun z=>by cases z <;> simp[encT]
 have hgetD:(if b then none else qBD t.l:Option (List T)).getD []=if b then [] else t.L.take Most:=by
  cases b
  ·simp only[Bool.false_eq_true,if_false];exact zCE _
  ·rfl
 have hle:(if b then [] else t.L.take Most).length<=32767:=by cases b <;> simp[Most];omega
 have hsrc:(DE.f .ite [.f (.ext 56) [.v 0,.v 1,.v 3],.k .nil,.f .take [.f (.get 3) [.v 3],.f .imin [.f .len [.f (.get 3) [.v 3]],.k (.int 32767)]]]).eval X [f.d,.int v,.bool x,t.d]=encT (if b then none else qBD t.l):=by
  rw[ev_f];simp only[zAA,zBA,hN0];simp only[ev_f,zAA,zBA,ev_v,ev_k,List.getD_cons_zero,List.getD_cons_succ,zQA,yGA,zTA,xOA,xTA,yVB,takeT,zVA,hlist]
 have hf:Folds X [f.d,.int v,.bool x,t.d] 4 (.f .ite [.f (.ext 56) [.v 0,.v 1,.v 3],.k .nil,.f .take [.f (.get 3) [.v 3],.f .imin [.f .len [.f (.get 3) [.v 3]],.k (.int 32767)]]]) [.f (.ext 53) [.v 2,.f (.ext 56) [.v 0,.v 1,.v 3],.f .len [.f .ite [.f (.ext 56) [.v 0,.v 1,.v 3],.k .nil,.f .take [.f (.get 3) [.v 3],.f .imin [.f .len [.f (.get 3) [.v 3]],.k (.int 32767)]]]],.k (.int 4)]] [.f .app [.v 6,.f (.ext 48) [.f (.get 6) [.v 0],.f (.get 7) [.v 0],.k (.bool false),.v 1,.v 2,.v 5]]] T.d (fun s:List UInt8=>[encN s]) (fun _ y s=>s++yBA f.of false x y (yAA f.sub v x y)) (if b then [] else t.L.take Most) (counted x b (if b then [] else t.L.take Most).length 4):=by
  refine⟨rfl,?_,?_,fun i y a hy _=>?_⟩
  ·rw[hsrc,yLD,hgetD]
  ·simp only[zAA,zBA];rw[ev_f];simp only[zAA,zBA,hN0];rw[ev_f .len];simp only[zAA,zBA,hsrc];simp only[ev_v,ev_k,List.getD_cons_zero,List.getD_cons_succ,zTA,xOA,hgetD,zGA,X_53,zSA,zKA,Int.toNat_natCast];rfl
  ·simp only[zAA,zBA,ev_v,ev_k,ev_f,List.cons_append,List.nil_append,List.getD_cons_succ,List.getD_cons_zero,zQA,yFA,zGA,X_48,zPA,xBA,zKA,zSA,yUA,yYC]
 have hc10:(DE.f .ite [.f .eqI [.f (.get 0) [.v 0],.k (.int 10)],.f .leI [.k (.int 0),.f (.get 3) [.v 0]],.k (.bool false)]).eval X [f.d,.int v,.bool x,t.d] = .bool (decide (f.kind=10/\0<=f.null)):=by
  simp only[ev_f,zAA,zBA,ev_v,ev_k,List.getD_cons_zero,List.getD_cons_succ,zQA,yFA,qZA,qJB,zVA,xIB,decide_eq_true_eq];by_cases h:f.kind=10 <;> simp[h]
 have hc11:(DE.f .eqI [.f (.get 0) [.v 0],.k (.int 11)]).eval X [f.d,.int v,.bool x,t.d] = .bool (decide (f.kind=11)):=by
  simp only[ev_f,zAA,zBA,ev_v,ev_k,List.getD_cons_zero,List.getD_cons_succ,zQA,yFA,qZA,xIB]
 constructor
 ·refine⟨fun c11=>⟨hf.all fun k y hy=>⟨?_,⟨fun _=>?_,?_⟩,trivial⟩,⟨fun e=>by simp[ySA] at e,?_⟩,?_,trivial⟩,fun c11=>⟨fun c10=>⟨fun _=>⟨⟨fun e=>by simp[ySA] at e,?_⟩,trivial⟩,fun cn=>⟨?_,⟨fun _=>?_,?_⟩,⟨fun e=>by simp[ySA] at e,?_⟩,trivial⟩,trivial⟩,fun c10=>⟨⟨fun _=>?_,?_⟩,trivial⟩,trivial⟩,⟨fun e=>by simp[ySA] at e,trivial⟩,trivial⟩
  ·rw[hc11,zSA,decide_eq_true_eq] at c11;rw[xGB,if_pos c11] at hl;simp only[qGA,qIA,Ob.holds,zAA,zBA,ev_v,ev_k,ev_f,List.cons_append,List.nil_append,List.getD_cons_succ,List.getD_cons_zero,zQA,yFA,zGA,X_48,zPA,xBA,zKA,zSA,yUA,yYC,xFA];refine xBB (Nat.le_trans ?_ hl);have hm:(((if b then [] else t.L.take Most).map fun y=>yBA f.of false x y (yAA f.sub v x y)))[k]? = some (yBA f.of false x y (yAA f.sub v x y)):=by rw[List.getElem?_map,hy];rfl
   have:=xTG hm
   simp only[List.length_append,List.map_take] at this ⊢;omega
  ·simp only[zAA,zBA,ev_v,ev_k,ev_f,List.cons_append,List.nil_append,List.getD_cons_succ,List.getD_cons_zero,zQA,yFA];rw[yPI,zPA];omega
  ·rw[hc11,zSA,decide_eq_true_eq] at c11;rw[xGB,if_pos c11] at hl;simp only[zAA,zBA,ev_v,ev_k,ev_f,List.cons_append,List.nil_append,List.getD_cons_succ,List.getD_cons_zero,zQA,yFA];rw[xXI,zPA,xBA];refine⟨hw,Nat.le_trans ?_ hl⟩;have hm:(((if b then [] else t.L.take Most).map fun y=>yBA f.of false x y (yAA f.sub v x y)))[k]? = some (yBA f.of false x y (yAA f.sub v x y)):=by rw[List.getElem?_map,hy];rfl
   have:=xTG hm
   simp only[zKA,zSA,List.length_append] at this ⊢;omega
  ·simp only[zAA,zBA,hN0];rw[ev_f .len];simp only[zAA,zBA,hsrc,ev_v,ev_k,List.getD_cons_zero,List.getD_cons_succ,zTA,xOA,hgetD];rw[xOE];simp only[zKA];exact⟨by omega,by omega,.inr trivial⟩
  ·simp only[Ob.holds,ev_f,zAA,zBA,ev_v,ev_k,List.getD_cons_zero,List.getD_cons_succ,zQA,yGA,zTA,xOA,xTA,zKA,Bool.false_eq_true,if_false];omega
  ·simp only[zAA,zBA,ev_k];rw[qMC];simp only[zKA];omega
  ·rw[hc11,zSA,decide_eq_false_iff_not] at c11;rw[hc10,zSA,decide_eq_true_eq] at c10;rw[hN0,zSA] at cn;rw[xGB,if_neg c11,if_pos c10,if_neg (by simp[cn])] at hl;simp only[Ob.holds,ev_f,zAA,zBA,ev_v,ev_k,List.getD_cons_zero,List.getD_cons_succ,zQA,yFA,zGA,X_45,X_47,zPA,xBA,zKA,zSA,yUA,yYC,xFA];exact xBB hl
  ·simp only[zAA,zBA,ev_v,ev_f,List.getD_cons_zero,List.getD_cons_succ,zQA,yFA];rw[yOF,zPA];omega
  ·rw[hc11,zSA,decide_eq_false_iff_not] at c11;rw[hc10,zSA,decide_eq_true_eq] at c10;rw[hN0,zSA] at cn;rw[xGB,if_neg c11,if_pos c10,if_neg (by simp[cn])] at hl;simp only[zAA,zBA,ev_v,ev_f,List.getD_cons_zero,List.getD_cons_succ,zQA,yFA];rw[xTF,zPA,xBA];simp only[zKA,zSA];refine⟨hw,Nat.le_trans ?_ hl⟩
   simp
  ·simp only[zAA,zBA,ev_k];rw[qMC];simp only[zKA];omega
  ·simp only[zAA,zBA,ev_v,ev_f,List.getD_cons_zero,List.getD_cons_succ,zQA,yFA];rw[yPI,zPA];omega
  ·rw[hc11,zSA,decide_eq_false_iff_not] at c11;rw[hc10,zSA,decide_eq_false_iff_not] at c10;rw[xGB,if_neg c11,if_neg c10] at hl;simp only[zAA,zBA,hN0];simp only[ev_v,ev_f,zAA,zBA,List.getD_cons_zero,List.getD_cons_succ,zQA,yFA];rw[xXI,zPA,xBA];simp only[zKA,zSA];exact⟨hw,hl⟩
 ·rw[X_49,xBA,xXA,zKA,zSA,zPB,hb];rw[de49,ev_f];simp only[zAA,zBA];rw[hc11,zVA,hf.fold 0,qGA,qIA];rw[ev_f];simp only[zAA,zBA];rw[hc10,zVA];simp only[decide_eq_true_eq];rw[xGB];by_cases c11:f.kind=11
  ·rw[if_pos c11,if_pos c11];rfl
  ·rw[if_neg c11,if_neg c11];by_cases c10:f.kind=10/\0<=f.null
   ·rw[if_pos c10,if_pos c10,ev_f];simp only[zAA,zBA];rw[hN0,zVA];simp only[ev_f,zAA,zBA,ev_v,ev_k,List.getD_cons_zero,List.getD_cons_succ,zQA,yFA,zGA,X_45,X_47,zPA,xBA,zKA,zSA,yUA,yYC];cases b <;> rfl
   ·rw[if_neg c10,if_neg c10,ev_f];simp only[zAA,zBA,hN0];simp only[ev_f,zAA,zBA,ev_v,List.getD_cons_zero,List.getD_cons_succ,zQA,yFA,zGA,X_48,zPA,xBA,zKA,zSA]
end Go.Mx
namespace Go.Mx
open Go Go.Dx
def P.c1:DE:=(.f .ite [.f .ltI [.f (.get 4) [.v 5],.k (.int 0)],.f (.ext 57) [.v 5,.v 1],.k (.bool false)])
def P.fl1:DE:=(.f (.ext 49) [.v 5,.v 1,.v 2,.f (.ext 40) [.v 3,.v 4]])
def P.bs1:List DE:=[.f .ite [P.c1,.f .app [.v 6,P.fl1],.v 6]]
def P.outE:DE:=(.fold 4 (.v 0) [.k .nil] P.bs1 0)
def P.c2:DE:=(.f .ite [.f .eqI [.f (.get 4) [.v 9],.v 4],.f .not [.f (.ext 50) [.v 9,.f (.ext 40) [.v 3,.v 8]]],.k (.bool false)])
def P.fl2:DE:=(.f (.ext 49) [.v 9,.v 1,.v 2,.f (.ext 40) [.v 3,.v 8]])
def P.a1:DE:=(.f .app [.v 10,.f (.ext 46) [.f (.wrap .u64) [.v 4]]])
def P.u2:DE:=(.f (.ext 46) [.f (.wrap .u64) [.f .len [P.fl2]]])
def P.a2:DE:=(.f .app [P.a1,P.u2])
def P.a3:DE:=(.f .app [P.a2,P.fl2])
def P.bs2:List DE:=[.f .ite [P.c2,P.a3,.v 10],.f .ite [P.c2,.f (.add .i64) [.v 11,.k (.int 1)],.v 11]]
def P.is2:List DE:=[.v 7,.v 6]
def P.bsG:List DE:=[.fold 8 (.v 0) P.is2 P.bs2 1,.fold 8 (.v 0) P.is2 P.bs2 0]
def P.srcG:DE:=(.f .iota [.f (.wrap .i64) [.f (.ext 51) [.v 0]]])
def P.isG:List DE:=[.k (.int 0),.k .nil]
def P.isU:List DE:=[.fold 4 P.srcG P.isG P.bsG 1,.fold 4 P.srcG P.isG P.bsG 0]
def P.srcU:DE:=(.f (.ext 41) [.v 0,.f (.get 4) [.v 3]])
def P.wh:DE:=(.f .take [.f (.get 1) [.v 5],.f .imin [.f .len [.f (.get 1) [.v 5]],.k (.int 32767)]])
def P.b1:DE:=(.f .app [.v 6,.f (.ext 46) [.f (.wrap .u64) [.f (.get 0) [.v 5]]]])
def P.u3:DE:=(.f (.ext 46) [.f (.wrap .u64) [.f .len [P.wh]]])
def P.b2:DE:=(.f .app [P.b1,P.u3])
def P.b3:DE:=(.f .app [P.b2,P.wh])
def P.bsU:List DE:=[P.b3,.f (.add .i64) [.v 7,.k (.int 1)]]
def P.unk0:DE:=(.fold 4 P.srcU P.isU P.bsU 0)
def P.unk1:DE:=(.fold 4 P.srcU P.isU P.bsU 1)
def P.o1:DE:=(.f .app [P.outE,.f (.ext 46) [.f (.wrap .u64) [P.unk1]]])
def P.o2:DE:=(.f .app [P.o1,P.unk0])
theorem de47_eq:de47 =  (.f .ite [.f .not [.v 2],P.outE,P.o2]):=rfl
theorem ob47_eq:ob47 =  [.when (.f .not [.v 2]) false [.room P.o2 1,.room P.o1 1,.pre 46 [.f (.wrap .u64) [P.unk1]],.all P.srcU P.isU P.bsU [.room P.b3 1,.room P.b2 1,.pre 46 [.f (.wrap .u64) [.f .len [P.wh]]],.room P.b1 1,.pre 46 [.f (.wrap .u64) [.f (.get 0) [.v 5]]],.idx (.f .imin [.f .len [.f (.get 1) [.v 5]],.k (.int 32767)]) (.f (.get 1) [.v 5]) false],.pre 41 [.v 0,.f (.get 4) [.v 3]],.all P.srcG P.isG P.bsG [.all (.v 0) P.is2 P.bs2 [.when P.c2 true [.room P.a3 1,.room P.a2 1,.pre 46 [.f (.wrap .u64) [.f .len [P.fl2]]],.room P.a1 1,.pre 46 [.f (.wrap .u64) [.v 4]],.pre 49 [.v 9,.v 1,.v 2,.f (.ext 40) [.v 3,.v 8]],.pre 40 [.v 3,.v 8]],.when (.f .eqI [.f (.get 4) [.v 9],.v 4]) true [.pre 50 [.v 9,.f (.ext 40) [.v 3,.v 8]],.pre 40 [.v 3,.v 8]]]],.pre 51 [.v 0]],.all (.v 0) [.k .nil] P.bs1 [.when P.c1 true [.room (.f .app [.v 6,P.fl1]) 1,.pre 49 [.v 5,.v 1,.v 2,.f (.ext 40) [.v 3,.v 4]],.pre 40 [.v 3,.v 4]],.when (.f .ltI [.f (.get 4) [.v 5],.k (.int 0)]) true [.pre 57 [.v 5,.v 1]]]]:=rfl
def rowP(v:Int)(x:Bool)(t:T)(i:Nat)(f:Fl):Fl×T×List UInt8:=(f,at' t i,field f v x (at' t i))
theorem yJJ(v:Int)(x:Bool)(t:T):∀(l:List Fl) (i:Nat),rowsL l i v x t=mapI (rowP v x t) i l
 | [],_=>rfl
 | f::r,i=>by rw[rowsL,mapI,yJJ v x t r (i+1)];rfl
def zCC(g:Nat)(r:Fl×T×List UInt8):List (List UInt8):=if r.1.tag=(g:Int)/\qYA r.1 r.2.1=false then [tagB g r.2.2] else []
def yMC(v:Int)(r:Fl×T×List UInt8):List UInt8:=if r.1.tag<0/\has r.1 v=true then r.2.2 else []
theorem xTD{A B:Type}(p:A->Prop)[DecidablePred p](g:A->B):∀l:List A,l.filterMap (fun r=>if p r then some (g r) else none)=(l.map fun r=>if p r then [g r] else []).flatten
 | []=>rfl
 | a::l=>by
  have:=xTD p g l
  by_cases h:p a <;> simp[h,this]
theorem tagsB_eq(rows:List (Fl×T×List UInt8))(n:Nat):zPK rows n=((List.range n).map fun g=>(rows.map (zCC g)).flatten).flatten:=by
 rw[zPK,List.flatMap]
 congr 1
 apply List.map_congr_left;intro g _;exact xTD (fun r=>r.1.tag=(g:Int)/\qYA r.1 r.2.1=false) (fun r=>tagB g r.2.2) rows
theorem qPB{A B C:Type}(h:B->C)(g:Nat->A->B):∀(l:List A) (i:Nat),(mapI g i l).map h=mapI (fun i a=>h (g i a)) i l
 | [],_=>rfl
 | a::l,i=>by simp[mapI,qPB h g l (i+1)]
theorem yHC(fs:Option (List Fl))(v:Int)(x:Bool)(t:T):yAA fs v x t=qLG v x (fs.getD []) t.u (mapI (rowP v x t) 0 (fs.getD [])):=by
 cases fs with
 | none=>rw[yAA];rfl
 | some l=>rw[yAA,yJJ];rfl
def qZD(fs:List Fl)(v:Int)(x:Bool)(t:T):List (List UInt8):=((List.range (qHA fs)).map fun g=>(mapI (fun i f=>zCC g (rowP v x t i f)) 0 fs).flatten).flatten
def unkB(x:Tg):List UInt8:=tagB (IntKind.u64.wrap x.key).toNat ((x.val.getD []).take Most)
def zOK(fs:List Fl)(u:Option (List Tg)):List (List UInt8):=(zWA fs u).map unkB
def outP(fs:List Fl)(v:Int)(x:Bool)(t:T):List UInt8:=(mapI (fun i f=>yMC v (rowP v x t i f)) 0 fs).flatten
def xQD(fs:List Fl)(v:Int)(x:Bool)(t:T):List (List UInt8):=qZD fs v x t++zOK fs t.u
theorem qEC(fs:Option (List Fl))(v:Int)(t:T):yAA fs v false t=outP (fs.getD []) v false t:=by
 rw[yHC,qLG,qPB];rfl
theorem xNB(fs:Option (List Fl))(v:Int)(t:T):yAA fs v true t=outP (fs.getD []) v true t++zDA (xQD (fs.getD []) v true t).length++(xQD (fs.getD []) v true t).flatten:=by
 rw[yHC,qLG,qPB,if_pos rfl,tagsB_eq,xQD,qZD,zOK];simp only[qPB];rfl
theorem xUG{B:Type}{l:List (List B)}{k:Nat}{a:List B}(h:l[k]? = some a):∃r,l.flatten=(l.take k).flatten++(a++r):=by
 have e:l=l.take k++a::l.drop (k+1):=by
  obtain⟨h1,h2⟩:=List.getElem?_eq_some_iff.1 h;rw[<- h2,<- List.drop_eq_getElem_cons h1,List.take_append_drop]
 refine⟨(l.drop (k+1)).flatten,?_⟩
 conv=>lhs;rw[e]
 simp
theorem yPF{B:Type}:∀ {l:List (List B)} {a:List B},a∈l->a.length<=l.flatten.length
 | b::l,a,h=>by
  simp only[List.flatten_cons,List.length_append];rcases List.mem_cons.1 h with rfl|h
  ·omega
  ·have:=yPF h;omega
theorem outP_le(fs:Option (List Fl))(v:Int)(x:Bool)(t:T):(outP (fs.getD []) v x t).length<=(yAA fs v x t).length:=by
 cases x
 ·rw[qEC];exact Nat.le_refl _
 ·rw[xNB];simp only[List.length_append];omega
theorem zBC(n:Nat):0<(zDA n).length:=by
 rw[zDA];split <;> simp
theorem yNF{A B:Type}{g:Nat->A->B}{l:List A}{k:Nat}{a:A}(h:l[k]? = some a):(mapI g 0 l)[k]? = some (g k a):=by
 have:=qFG g l 0 k a h;rwa [Nat.zero_add] at this
theorem xKG{A B:Type}(g:Nat->A->List B)(h:∀i a,(g i a).length<=1):∀(l:List A) (i:Nat),(mapI g i l).flatten.length<=l.length
 | [],_=>by simp[mapI]
 | a::l,i=>by
  have:=xKG g h l (i+1)
  have:=h i a
  simp only[mapI,List.flatten_cons,List.length_append,List.length_cons];omega
theorem qPI(g:Nat)(r:Fl×T×List UInt8):(zCC g r).length<=1:=by
 unfold zCC;split <;> simp
theorem yFJ{B:Type}(g:Nat->List B)(m:Nat)(h:∀i,(g i).length<=m):∀n,((List.range n).map g).flatten.length<=n*m
 | 0=>by simp
 | n+1=>by
  have:=yFJ g m h n
  have:=h n
  rw[List.range_succ,List.map_append,List.flatten_append,List.length_append,Nat.add_mul];simp only[List.map_cons,List.map_nil,List.flatten_cons,List.flatten_nil,List.append_nil];omega
end Go.Mx
namespace Go.Mx
open Go Go.Dx
section
variable {fs:Option (List Fl)} {v:Int} {x:Bool} {t:T}
def envP(fs:Option (List Fl))(v:Int)(x:Bool)(t:T):List D:=[encF fs,.int v,.bool x,t.d]
theorem wrapu{n:Nat}(h:n<=lim):IntKind.u64.wrap (n:Nat)=n:=zNH (by omega) (by simp only[lim] at h;omega)
theorem qJI{n:Int}(h:0<=n)(h2:n<=10000000):IntKind.i64.wrap n=n:=by rw[IntKind.wrap_i64];omega
theorem yUK(i:Nat)(f:Fl)(r:List D):P.c1.eval X (envP fs v x t++(.int i::f.d::r)) = .bool (decide (f.tag<0/\has f v=true)):=by
 simp only[P.c1,envP,ev_f,zAA,zBA,ev_v,ev_k,List.cons_append,List.nil_append,List.getD_cons_zero,List.getD_cons_succ,zQA,yFA,qLA,zGA,X_57,xXA,zKA,zVA];by_cases h1:f.tag<0 <;> cases h2:has f v <;> simp[h1]
theorem zEJ(i:Nat)(f:Fl)(r:List D):P.fl1.eval X (envP fs v x t++(.int i::f.d::r))=encN (field f v x (at' t i)):=by
 simp only[P.fl1,envP,ev_f,zAA,zBA,ev_v,List.cons_append,List.nil_append,List.getD_cons_zero,List.getD_cons_succ,zGA,X_49,X_40,xXA,xBA,zKA,zSA]
theorem qJD:Folds X (envP fs v x t) 4 (.v 0) [.k .nil] P.bs1 Fl.d (fun s:List UInt8=>[encN s]) (fun i f s=>s++yMC v (rowP v x t i f)) (fs.getD []) []:=by
 refine⟨rfl,?_,rfl,fun i f s hf _=>?_⟩
 ·simp only[envP,ev_v,List.getD_cons_zero,zSC]
 ·simp only[P.bs1,zAA,zBA];rw[ev_f];simp only[zAA,zBA];rw[yUK,zVA,ev_f];simp only[zAA,zBA];rw[zEJ];have e:(DE.v 6).eval X (envP fs v x t++D.int (i:Nat)::f.d::[encN s])=encN s:=rfl;rw[e,yUA,yYC,yMC];by_cases h:f.tag<0/\has f v=true
  ·rw[if_pos (decide_eq_true h),if_pos (by exact h)];rfl
  ·rw[if_neg (by simp[h]),if_neg (by exact h),List.append_nil]
def envG(fs:Option (List Fl))(v:Int)(x:Bool)(t:T)(j g:Nat)(S:List (List UInt8)):List D:=envP fs v x t++[.int g,.int g,.int S.length,encN S.flatten]
theorem yVK(j g:Nat)(S:List (List UInt8))(i:Nat)(f:Fl)(r:List D):P.c2.eval X (envG fs v x t j g S++(.int i::f.d::r)) = .bool (decide (f.tag=(g:Int)/\qYA f (at' t i)=false)):=by
 simp only[P.c2,envG,envP,ev_f,zAA,zBA,ev_v,ev_k,List.cons_append,List.nil_append,List.getD_cons_zero,List.getD_cons_succ,zQA,yFA,qZA,yEC,zGA,X_50,X_40,xXA,xBA,zKA,zVA,xIB];by_cases h1:f.tag=(g:Int) <;> cases h2:qYA f (at' t i) <;> simp[h1]
theorem zFJ(j g:Nat)(S:List (List UInt8))(i:Nat)(f:Fl)(r:List D):P.fl2.eval X (envG fs v x t j g S++(.int i::f.d::r))=encN (field f v x (at' t i)):=by
 simp only[P.fl2,envG,envP,ev_f,zAA,zBA,ev_v,List.cons_append,List.nil_append,List.getD_cons_zero,List.getD_cons_succ,zGA,X_49,X_40,xXA,xBA,zKA,zSA]
theorem yGK(j g:Nat)(hg:g<=2000)(S:List (List UInt8))(i:Nat)(f:Fl)(s:List UInt8)(r:List D):P.a1.eval X (envG fs v x t j g S++(.int i::f.d::encN s::r))=encN (s++zDA g):=by
 simp only[P.a1,envG,envP,ev_f,zAA,zBA,ev_v,List.cons_append,List.nil_append,List.getD_cons_zero,List.getD_cons_succ,zGA,X_46,zOA,zKA];rw[wrapu (n:=g) (by simp only[lim];omega),yUA,yYC,Int.toNat_natCast]
theorem u2_eval(j g:Nat)(S:List (List UInt8))(i:Nat)(f:Fl)(r:List D)(hl:(field f v x (at' t i)).length<=lim):P.u2.eval X (envG fs v x t j g S++(.int i::f.d::r))=encN (zDA (field f v x (at' t i)).length):=by
 rw[P.u2,ev_f];simp only[zAA,zBA];rw[ev_f];simp only[zAA,zBA];rw[ev_f];simp only[zAA,zBA];rw[zFJ,zTA,xFA,zOA,wrapu hl,zGA,X_46,zKA,Int.toNat_natCast]
theorem yHK(j g:Nat)(hg:g<=2000)(S:List (List UInt8))(i:Nat)(f:Fl)(s:List UInt8)(r:List D)(hl:(field f v x (at' t i)).length<=lim):P.a2.eval X (envG fs v x t j g S++(.int i::f.d::encN s::r))=encN (s++zDA g++zDA (field f v x (at' t i)).length):=by
 rw[P.a2,ev_f];simp only[zAA,zBA];rw[yGK j g hg,u2_eval _ _ _ _ _ _ hl,yUA,yYC]
theorem yIK(j g:Nat)(hg:g<=2000)(S:List (List UInt8))(i:Nat)(f:Fl)(s:List UInt8)(r:List D)(hl:(field f v x (at' t i)).length<=lim):P.a3.eval X (envG fs v x t j g S++(.int i::f.d::encN s::r))=encN (s++tagB g (field f v x (at' t i))):=by
 rw[P.a3,ev_f];simp only[zAA,zBA];rw[yHK j g hg _ _ _ _ _ hl,zFJ,yUA,yYC,tagB];simp only[List.append_assoc]
def Hf(fs:Option (List Fl))(v:Int)(x:Bool)(t:T):Prop:=∀(i:Nat) (f:Fl),(fs.getD [])[i]? = some f->0<=f.tag->qYA f (at' t i)=false->(field f v x (at' t i)).length<=lim
theorem xWK(hl:(fs.getD []).length<=1000)(j g:Nat)(hg:g<=2000)(S0:List (List UInt8))(h0:S0.length<=2000000)(H:Hf fs v x t):Folds X (envG fs v x t j g S0) 8 (.v 0) P.is2 P.bs2 Fl.d (fun S:List (List UInt8)=>[encN S.flatten,.int S.length]) (fun i f S=>S++zCC g (rowP v x t i f)) (fs.getD []) S0:=by
 refine⟨rfl,?_,rfl,fun i f S hf hS=>?_⟩
 ·simp only[envG,envP,List.cons_append,ev_v,List.getD_cons_zero,zSC]
 ·have hi:=(List.getElem?_eq_some_iff.1 hf).1;have hSl:S.length<=2001000:=by
   rw[hS,qGA,yBE,List.length_append]
   have:=xKG (fun i f=>zCC g (rowP v x t i f)) (fun i f=>qPI g _) (fs.getD []) 0
   have h2:(List.take i (mapI (fun i f=>zCC g (rowP v x t i f)) 0 (fs.getD []))).flatten.length<=(mapI (fun i f=>zCC g (rowP v x t i f)) 0 (fs.getD [])).flatten.length:=by
    conv=>rhs;rw[<- List.take_append_drop i (mapI (fun i f=>zCC g (rowP v x t i f)) 0 (fs.getD []))]
    rw[List.flatten_append,List.length_append];omega
   omega
  simp only[P.bs2,zAA,zBA];rw[ev_f .ite,ev_f .ite];simp only[zAA,zBA];rw[yVK,zVA,zVA];have e10:(DE.v 10).eval X (envG fs v x t j g S0++D.int (i:Nat)::f.d::[encN S.flatten,.int S.length])=encN S.flatten:=rfl;have e11:(DE.v 11).eval X (envG fs v x t j g S0++D.int (i:Nat)::f.d::[encN S.flatten,.int S.length]) = .int S.length:=rfl;rw[ev_f (.add .i64)];simp only[zAA,zBA];rw[e10,e11,ev_k,yDC,qJI (by omega) (by omega)];by_cases h:f.tag=(g:Int)/\qYA f (at' t i)=false
  ·have ec:zCC g (rowP v x t i f)=[tagB g (field f v x (at' t i))]:=by rw[zCC,if_pos (by exact h)];rfl
   rw[if_pos (decide_eq_true h),if_pos (decide_eq_true h),yIK j g hg _ _ _ _ _ (H i f hf (by omega) h.2),ec]
   simp
  ·have ec:zCC g (rowP v x t i f)=[]:=by rw[zCC,if_neg (by exact h)]
   rw[if_neg (by simp only[h,decide_false];exact Bool.false_ne_true),if_neg (by simp only[h,decide_false];exact Bool.false_ne_true),ec,List.append_nil]
def rowG(fs:Option (List Fl))(v:Int)(x:Bool)(t:T)(g:Nat):List (List UInt8):=(mapI (fun i f=>zCC g (rowP v x t i f)) 0 (fs.getD [])).flatten
theorem yLE:qZD (fs.getD []) v x t=((List.range (qHA (fs.getD []))).map (rowG fs v x t)).flatten:=rfl
theorem rowG_le(hl:(fs.getD []).length<=1000)(g:Nat):(rowG fs v x t g).length<=1000 :=
 Nat.le_trans (xKG _ (fun _ _=>qPI g _) _ 0) hl
theorem qXE(hl:(fs.getD []).length<=1000)(n:Nat)(hn:n<=1001):((List.range n).map (rowG fs v x t)).flatten.length<=1001000:=by
 have:=yFJ (rowG fs v x t) 1000 (rowG_le hl) n
 omega
theorem xNH{n i g:Nat}(h:(List.range n)[i]? = some g):g=i/\i<n:=by
 obtain⟨h1,h2⟩:=List.getElem?_eq_some_iff.1 h;simp at h1 h2;omega
theorem xLE{n i:Nat}(h:i<=n):(List.range n).take i=List.range i:=by
 rw[List.take_range];congr 1;omega
theorem foldG(hw:wfFs fs=true)(H:Hf fs v x t):Folds X (envP fs v x t) 4 P.srcG P.isG P.bsG (fun g:Nat=>.int g) (fun S:List (List UInt8)=>[.int S.length,encN S.flatten]) (fun _ g S=>S++rowG fs v x t g) (List.range (qHA (fs.getD []))) []:=by
 have hl:=(xAG hw).1;have hk:=qAC hw;refine⟨rfl,?_,rfl,fun i g S hg hS=>?_⟩
 ·simp only[P.srcG,envP,ev_f,zAA,zBA,ev_v,List.getD_cons_zero,zGA,X_51,zPA,zOA];rw[qJI (by omega) (by omega)];rfl
 ·obtain⟨rfl,hi⟩:=xNH hg;have hSl:S.length<=1001000:=by
   rw[hS,qGA,qIA,List.nil_append,xLE (by omega)];exact qXE hl _ (by omega)
  have hf:=xWK (fs:=fs) (v:=v) (x:=x) (t:=t) hl g g (by omega) S (by omega) H;show zEA X P.bsG (envG fs v x t g g S)=_;simp only[P.bsG,zAA,zBA];rw[hf.fold 0,hf.fold 1,qGA];rfl
theorem zNK:xKA (fun _ g S=>S++rowG fs v x t g) 0 (List.range (qHA (fs.getD []))) []=qZD (fs.getD []) v x t:=by
 rw[qGA,qIA,List.nil_append,yLE]
theorem xTL(i:Nat)(y:Tg)(r:List D):P.wh.eval X (envP fs v x t++(.int i::y.d::r))=encB (whole y.val):=by
 simp only[P.wh,envP,ev_f,zAA,zBA,ev_v,ev_k,List.cons_append,List.nil_append,List.getD_cons_zero,List.getD_cons_succ,zQA,xUB,zTA,yHA,xTA,yVB,zEH]
theorem yLK(i:Nat)(y:Tg)(s:List UInt8)(r:List D):P.b1.eval X (envP fs v x t++(.int i::y.d::encN s::r))=encN (s++zDA (IntKind.u64.wrap y.key).toNat):=by
 simp only[P.b1,envP,ev_f,zAA,zBA,ev_v,ev_k,List.cons_append,List.nil_append,List.getD_cons_zero,List.getD_cons_succ,zQA,xUB,zOA,zGA,X_46,zKA,yUA,yYC]
theorem u3_eval(i:Nat)(y:Tg)(r:List D):P.u3.eval X (envP fs v x t++(.int i::y.d::r))=encN (zDA ((y.val.getD []).take Most).length):=by
 rw[P.u3,ev_f];simp only[zAA,zBA];rw[ev_f];simp only[zAA,zBA];rw[ev_f];simp only[zAA,zBA]
 have:=whole_le y.val
 rw[xTL,zTA,yHA,zOA,wrapu (by simp only[lim];omega),zGA,X_46,zKA,Int.toNat_natCast,yQB]
theorem yMK(i:Nat)(y:Tg)(s:List UInt8)(r:List D):P.b2.eval X (envP fs v x t++(.int i::y.d::encN s::r))=encN (s++zDA (IntKind.u64.wrap y.key).toNat++zDA ((y.val.getD []).take Most).length):=by
 rw[P.b2,ev_f];simp only[zAA,zBA];rw[yLK,u3_eval,yUA,yYC]
theorem yNK(i:Nat)(y:Tg)(s:List UInt8)(r:List D):P.b3.eval X (envP fs v x t++(.int i::y.d::encN s::r))=encN (s++unkB y):=by
 rw[P.b3,ev_f];simp only[zAA,zBA];rw[yMK,xTL,yUA,yRB]
 ·rw[yTA,yQB,unkB,tagB];simp only[List.append_assoc]
 ·cases whole y.val with
  | none=>exact .inl rfl
  | some s=>exact .inr ⟨s,.inl rfl⟩
theorem foldU(hw:wfFs fs=true)(H:Hf fs v x t):Folds X (envP fs v x t) 4 P.srcU P.isU P.bsU Tg.d (fun S:List (List UInt8)=>[encN S.flatten,.int S.length]) (fun _ y S=>S++[unkB y]) (zWA (fs.getD []) t.u) (qZD (fs.getD []) v x t):=by
 have hl:=(xAG hw).1;have hk:=qAC hw;have hul:=zXC (fs.getD []) t.u;have hG:=foldG hw H;refine⟨rfl,?_,?_,fun i y S hy hS=>?_⟩
 ·simp only[P.srcU,envP,ev_f,zAA,zBA,ev_v,List.getD_cons_zero,List.getD_cons_succ,zQA,yGA,zGA,X_41,zPA,decU_enc,xKC,xDA]
 ·simp only[P.isU,zAA,zBA];rw[hG.fold 0,hG.fold 1,zNK];rfl
 ·have hi:=(List.getElem?_eq_some_iff.1 hy).1;have hSl:S.length<=2000000:=by
   rw[hS,xEC (fun _ y=>unkB y),qIA,List.length_append,yLE]
   have:=qXE (v:=v) (x:=x) (t:=t) hl (qHA (fs.getD [])) hk
   simp only[List.length_map,List.length_take];omega
  simp only[P.bsU,zAA,zBA];rw[yNK,ev_f];simp only[zAA,zBA];have e7:(DE.v 7).eval X (envP fs v x t++D.int (i:Nat)::y.d::[encN S.flatten,.int S.length]) = .int S.length:=rfl;rw[e7,ev_k,yDC,qJI (by omega) (by omega)]
  simp
theorem yVG:xKA (fun _ y S=>S++[unkB y]) 0 (zWA (fs.getD []) t.u) (qZD (fs.getD []) v x t)=xQD (fs.getD []) v x t:=by
 rw[xEC (fun _ y=>unkB y),qIA];rfl
theorem xFL(hw:wfFs fs=true)(H:Hf fs v x t):P.unk1.eval X (envP fs v x t) = .int (xQD (fs.getD []) v x t).length:=by
 rw[P.unk1,(foldU hw H).fold 1,yVG];rfl
theorem xEL(hw:wfFs fs=true)(H:Hf fs v x t):P.unk0.eval X (envP fs v x t)=encN (xQD (fs.getD []) v x t).flatten:=by
 rw[P.unk0,(foldU hw H).fold 0,yVG];rfl
theorem zYJ:P.outE.eval X (envP fs v x t)=encN (outP (fs.getD []) v x t):=by
 rw[P.outE,qJD.fold 0,qGA];rfl
theorem yXL(hw:wfFs fs=true):(xQD (fs.getD []) v x t).length<=2000000:=by
 have:=qXE (v:=v) (x:=x) (t:=t) (xAG hw).1 (qHA (fs.getD [])) (qAC hw)
 have hul:=zXC (fs.getD []) t.u;rw[xQD,List.length_append,yLE,zOK,List.length_map];omega
theorem qTK(hw:wfFs fs=true)(H:Hf fs v x t):P.o1.eval X (envP fs v x t)=encN (outP (fs.getD []) v x t++zDA (xQD (fs.getD []) v x t).length):=by
 rw[P.o1,ev_f];simp only[zAA,zBA];rw[zYJ,ev_f];simp only[zAA,zBA];rw[ev_f];simp only[zAA,zBA]
 have:=yXL (v:=v) (x:=x) (t:=t) hw
 rw[xFL hw H,zOA,wrapu (by simp only[lim];omega),zGA,X_46,zKA,Int.toNat_natCast,yUA,yYC]
theorem qUK(hw:wfFs fs=true)(H:Hf fs v x t):P.o2.eval X (envP fs v x t)=encN (outP (fs.getD []) v x t++zDA (xQD (fs.getD []) v x t).length++(xQD (fs.getD []) v x t).flatten):=by
 rw[P.o2,ev_f];simp only[zAA,zBA];rw[qTK hw H,xEL hw H,yUA,yYC]
end
end Go.Mx
namespace Go.Mx
open Go Go.Dx
theorem zOJ:∀(l:List Fl) (a:Nat),a<=l.foldl (fun n f=>if 0<=f.tag then max n (f.tag.toNat+1) else n) a
 | [],a=>Nat.le_refl _
 | f::r,a=>by
  refine Nat.le_trans ?_ (zOJ r _);show a<=if 0<=f.tag then max a (f.tag.toNat+1) else a
  split <;> omega
theorem yRH:∀(l:List Fl) (a:Nat) (f:Fl),f∈l->0<=f.tag->f.tag.toNat<l.foldl (fun n f=>if 0<=f.tag then max n (f.tag.toNat+1) else n) a
 | g::r,a,f,h,h0=>by
  rcases List.mem_cons.1 h with rfl|h
  ·refine Nat.lt_of_lt_of_le ?_ (zOJ r _);show f.tag.toNat<if 0<=f.tag then max a (f.tag.toNat+1) else a
   rw[if_pos h0];omega
  ·exact yRH r _ f h h0
section
variable {fs:Option (List Fl)} {v:Int} {x:Bool} {t:T}
theorem tag_mem{i:Nat}{f:Fl}(hf:(fs.getD [])[i]? = some f)(h0:0<=f.tag)(hu:qYA f (at' t i)=false):tagB f.tag.toNat (field f v x (at' t i))∈qZD (fs.getD []) v x t:=by
 rw[yLE,List.mem_flatten];refine⟨rowG fs v x t f.tag.toNat,List.mem_map.2 ⟨f.tag.toNat,List.mem_range.2 (yRH _ 0 f (List.mem_of_getElem? hf) h0),rfl⟩,?_⟩;rw[rowG,List.mem_flatten];refine⟨_,List.mem_of_getElem? (yNF (g:=fun i f'=>zCC f.tag.toNat (rowP v x t i f')) hf),?_⟩;show _∈zCC f.tag.toNat (rowP v x t i f);rw[zCC,if_pos ⟨by show f.tag=_;omega,hu⟩];exact List.mem_singleton.2 rfl
theorem yYL(h:(yAA fs v true t).length<=lim):(xQD (fs.getD []) v true t).flatten.length<=lim:=by
 rw[xNB] at h;simp only[List.length_append] at h;omega
theorem ySJ(h:(yAA fs v true t).length<=lim):(qZD (fs.getD []) v true t).flatten.length<=lim:=by
 have:=yYL h
 rw[xQD,List.flatten_append,List.length_append] at this;omega
theorem hf_of(h:(yAA fs v true t).length<=lim):Hf fs v true t:=fun i f hf h0 hu=>by
 have h1:=yPF (tag_mem (v:=v) (x:=true) hf h0 hu);have h2:=ySJ h;rw[tagB] at h1;simp only[List.length_append] at h1;omega
theorem yCA{n k:Nat}{ds:List D}(h:ySA k=false)(hs:side k ds):Pre n k ds:=⟨fun e=>by rw[h] at e;exact absurd e Bool.false_ne_true,hs⟩
theorem xOL{f:Fl}(h:f∈fs.getD []):wFs f.sub+2<=wFs fs:=by
 have:=zEE h
 have:=yZG f
 omega
theorem ev47(n:Nat)(h:Pre (n+1) 47 [encF fs,.int v,.bool x,t.d]):zCA X (Pre n) ob47 [encF fs,.int v,.bool x,t.d]/\de47.eval X [encF fs,.int v,.bool x,t.d]=X 47 [encF fs,.int v,.bool x,t.d]:=by
 obtain⟨hm,hs⟩:=h;have hm:=hm rfl;rw[yOF,zPA] at hm;rw[xTF,zPA,zKA,zSA,xBA] at hs;obtain⟨hw,hl⟩:=hs;obtain⟨hw1,hw2⟩:=xAG hw;have hnot:(DE.f .not [.v 2]).eval X (envP fs v x t) = .bool (!x):=by
  simp only[envP,ev_f,zAA,zBA,ev_v,List.getD_cons_zero,List.getD_cons_succ,yEC]
 have h40:∀(i:Nat) (d:D),side 40 [d,.int (i:Nat)]:=fun i d=>by rw[xSF,zKA];omega
 constructor
 ·rw[ob47_eq];show zCA X (Pre n) _ (envP fs v x t);refine⟨fun hx=>?_,qJD.all (fun k f hf=>?_),trivial⟩
  ·rw[hnot,zSA] at hx;have hx:x=true:=by cases x <;> simp_all
   subst hx;have H:=hf_of hl;have hl1:=ySJ hl;have hlP:=yYL hl;refine⟨?_,?_,yCA rfl trivial,(foldU hw H).all (fun k y hy=>?_),yCA rfl ?_,(foldG hw H).all (fun k g hg=>?_),yCA rfl ?_,trivial⟩
   ·simp only[Ob.holds];rw[qUK hw H,xFA,<- xNB];exact xBB hl
   ·simp only[Ob.holds];rw[qTK hw H,xFA];rw[xNB] at hl;refine xBB (Nat.le_trans ?_ hl);simp only[List.length_append];omega
   ·have hsz:((xKA (fun _ y S=>S++[unkB y]) 0 ((zWA (fs.getD []) t.u).take k) (qZD (fs.getD []) v true t)).flatten++unkB y).length<=lim:=by
     rw[xEC (fun _ y=>unkB y),qIA];rw[xQD,zOK] at hlP;have hm:((zWA (fs.getD []) t.u).map unkB)[k]? = some (unkB y):=by rw[List.getElem?_map,hy];rfl
     have:=xTG hm
     simp only[List.flatten_append,List.length_append,List.map_take] at this hlP ⊢;omega
    generalize xKA (fun _ y S=>S++[unkB y]) 0 ((zWA (fs.getD []) t.u).take k) (qZD (fs.getD []) v true t)=S at hsz;have hsz2:=hsz;rw[unkB,tagB] at hsz2;simp only[List.length_append] at hsz2;refine⟨?_,?_,yCA rfl trivial,?_,yCA rfl trivial,?_,trivial⟩
    ·simp only[Ob.holds];rw[yNK,xFA];exact xBB hsz
    ·simp only[Ob.holds];rw[yMK,xFA];exact xBB (by simp only[List.length_append];omega)
    ·simp only[Ob.holds];rw[yLK,xFA];exact xBB (by simp only[List.length_append];omega)
    ·simp only[Ob.holds,envP,ev_f,zAA,zBA,ev_v,ev_k,List.cons_append,List.nil_append,List.getD_cons_zero,List.getD_cons_succ,zQA,xUB,zTA,yHA,xTA,zKA,Bool.false_eq_true,if_false];omega
   ·simp only[envP,ev_f,zAA,zBA,ev_v,List.getD_cons_zero,List.getD_cons_succ,zQA,yGA];rw[qXG,zPA];exact hw
   ·have hgk:=xNH hg;obtain⟨rfl,hgl⟩:=hgk;have hkn:=qAC hw;have eS:xKA (fun _ g S=>S++rowG fs v true t g) 0 ((List.range (qHA (fs.getD []))).take g) []=((List.range g).map (rowG fs v true t)).flatten:=by
     rw[qGA,qIA,List.nil_append,xLE (by omega)]
    rw[eS];generalize hS:((List.range g).map (rowG fs v true t)).flatten=S;have hS1:S.length<=1001000:=by rw[<- hS];exact qXE hw1 _ (by omega)
    have hpre:∃r,qZD (fs.getD []) v true t=S++(rowG fs v true t g++r):=by
     have hm:((List.range (qHA (fs.getD []))).map (rowG fs v true t))[g]? = some (rowG fs v true t g):=by rw[List.getElem?_map,hg];rfl
     obtain⟨r,hr⟩:=xUG hm;refine⟨r,?_⟩;rw[yLE,hr,<- hS,<- List.map_take,xLE (by omega)]
    obtain⟨r1,hr1⟩:=hpre;have hf2:=xWK (fs:=fs) (v:=v) (x:=true) (t:=t) hw1 g g (by omega) S (by omega) H;show zCA X (Pre n) _ (envG fs v true t g g S);refine⟨hf2.all (fun i f hf=>?_),trivial⟩;have hfm:f∈fs.getD []:=List.mem_of_getElem? hf;have hws:=xOL hfm;have hwm:=zEE hfm;rw[qGA,yBE];have hpre2:∃r,rowG fs v true t g=((mapI (fun i f=>zCC g (rowP v true t i f)) 0 (fs.getD [])).take i).flatten++(zCC g (rowP v true t i f)++r):=xUG (yNF (g:=fun i f=>zCC g (rowP v true t i f)) hf);obtain⟨r2,hr2⟩:=hpre2;generalize ((mapI (fun i f=>zCC g (rowP v true t i f)) 0 (fs.getD [])).take i).flatten=S2 at hr2;have heq:(DE.f .eqI [.f (.get 4) [.v 9],.v 4]).eval X (envG fs v true t g g S++(D.int (i:Nat)::f.d::[encN (S++S2).flatten,D.int ((S++S2).length:Nat)])) = .bool (decide (f.tag=(g:Int))):=by
     simp only[envG,envP,ev_f,zAA,zBA,ev_v,List.cons_append,List.nil_append,List.getD_cons_zero,List.getD_cons_succ,zQA,yFA,qZA,xIB]
    refine⟨fun hc=>?_,fun hc=>⟨⟨fun _=>?_,?_⟩,yCA rfl (h40 _ _),trivial⟩,trivial⟩
    ·rw[yVK,zSA,decide_eq_true_eq] at hc;have hfl:=H i f hf (by omega) hc.2;have ec:zCC g (rowP v true t i f)=[tagB g (field f v true (at' t i))]:=by rw[zCC,if_pos (by exact hc)];rfl
     rw[hr1,hr2,ec,tagB] at hl1;simp only[List.flatten_append,List.length_append,List.flatten_cons,List.flatten_nil,List.append_nil] at hl1;refine⟨?_,?_,yCA rfl trivial,?_,yCA rfl trivial,⟨fun _=>?_,?_⟩,yCA rfl (h40 _ _),trivial⟩
     ·simp only[Ob.holds];rw[yIK _ _ (by omega) _ _ _ _ _ hfl,xFA,tagB];exact xBB (by simp only[List.flatten_append,List.length_append];omega)
     ·simp only[Ob.holds];rw[yHK _ _ (by omega) _ _ _ _ _ hfl,xFA];exact xBB (by simp only[List.flatten_append,List.length_append];omega)
     ·simp only[Ob.holds];rw[yGK _ _ (by omega),xFA];exact xBB (by simp only[List.flatten_append,List.length_append];omega)
     ·simp only[envG,envP,zAA,zBA,ev_v,List.cons_append,List.nil_append,List.getD_cons_zero,List.getD_cons_succ];rw[yQI,xXA];omega
     ·simp only[envG,envP,zAA,zBA,ev_v,ev_f,List.cons_append,List.nil_append,List.getD_cons_zero,List.getD_cons_succ,zGA,X_40,xBA,zKA];rw[xYI,xXA,xBA];exact⟨hw2 f hfm,hfl⟩
    ·simp only[envG,envP,zAA,zBA,ev_v,List.cons_append,List.nil_append,List.getD_cons_zero,List.getD_cons_succ];rw[yRI,xXA];omega
    ·simp only[envG,envP,zAA,zBA,ev_v,List.cons_append,List.nil_append,List.getD_cons_zero,List.getD_cons_succ];rw[xUF,xXA];exact hw2 f hfm
   ·simp only[envP,zAA,zBA,ev_v,List.getD_cons_zero];rw[xZI,zPA];exact hw
  ·have hfm:f∈fs.getD []:=List.mem_of_getElem? hf;have hws:=xOL hfm;rw[qGA,yBE,List.nil_append];have hlo:=Nat.le_trans (outP_le fs v x t) hl;have hm:(mapI (fun i f=>yMC v (rowP v x t i f)) 0 (fs.getD []))[k]? = some (yMC v (rowP v x t k f)):=yNF (g:=fun i f=>yMC v (rowP v x t i f)) hf;have hle:=xTG hm;rw[outP] at hlo;generalize ((mapI (fun i f=>yMC v (rowP v x t i f)) 0 (fs.getD [])).take k).flatten=s at hle;refine⟨fun hc=>?_,fun _=>⟨yCA rfl trivial,trivial⟩,trivial⟩;rw[yUK,zSA,decide_eq_true_eq] at hc;have ec:yMC v (rowP v x t k f)=field f v x (at' t k):=by rw[yMC,if_pos (by exact hc)];rfl
   rw[ec] at hle;refine⟨?_,⟨fun _=>?_,?_⟩,yCA rfl (h40 _ _),trivial⟩
   ·simp only[Ob.holds];rw[ev_f];simp only[zAA,zBA];rw[zEJ];have e:(DE.v 6).eval X (envP fs v x t++D.int (k:Nat)::f.d::[encN s])=encN s:=rfl;rw[e,yUA,yYC,xFA];exact xBB (by simp only[List.length_append];omega)
   ·simp only[envP,zAA,zBA,ev_v,List.cons_append,List.nil_append,List.getD_cons_zero,List.getD_cons_succ];rw[yQI,xXA];omega
   ·simp only[envP,zAA,zBA,ev_v,ev_f,List.cons_append,List.nil_append,List.getD_cons_zero,List.getD_cons_succ,zGA,X_40,xBA,zKA];rw[xYI,xXA,xBA];exact⟨hw2 f hfm,by simp only[zKA,zSA];omega⟩
 ·rw[X_47,zPA,zKA,zSA,xBA,de47_eq];show _=encN (yAA fs v x t);rw[ev_f];simp only[zAA,zBA];show Fn.eval X .ite [DE.eval X _ (envP fs v x t),DE.eval X _ (envP fs v x t),DE.eval X _ (envP fs v x t)]=_;rw[hnot,zVA,zYJ];cases x
  ·rw[qEC];rfl
  ·rw[qUK hw (hf_of hl),xNB];rfl
end
theorem ev59(fs:Option (List Fl))(fx v:Int)(t:T)(n:Nat)(h:side 59 [.row [encF fs,.int fx],.int v,t.d])(hn:3*wFs fs<n):zCA X (Pre n) ob59 [.row [encF fs,.int fx],.int v,t.d]/\de59.eval X [.row [encF fs,.int fx],.int v,t.d]=X 59 [.row [encF fs,.int fx],.int v,t.d]:=by
 rw[yIL,zPA,zKA,zKA,xBA] at h;obtain⟨hw,hl⟩:=h;have c0:(D.row [encF fs,.int fx]).cells=[encF fs,.int fx]:=rfl;constructor
 ·refine⟨fun hc=>⟨⟨fun _=>?_,?_⟩,trivial⟩,fun hc=>⟨⟨fun _=>?_,?_⟩,trivial⟩,trivial⟩ <;>
  simp only[zAA,zBA,ev_v,ev_f,ev_k,List.getD_cons_zero,List.getD_cons_succ,zQA,c0,qJB,zSA,decide_eq_true_eq,decide_eq_false_iff_not] at hc ⊢
  ·rw[yOF,zPA];exact hn
  ·rw[xTF,zPA,zKA,zSA,xBA];rw[zZA,decide_eq_true hc,Bool.true_and] at hl;exact⟨hw,hl⟩
  ·rw[yOF,zPA];exact hn
  ·rw[xTF,zPA,zKA,zSA,xBA];rw[zZA,decide_eq_false hc,Bool.false_and] at hl;exact⟨hw,hl⟩
 ·rw[X_59,zPA,zKA,zKA,xBA];simp only[de59,zAA,zBA,ev_v,ev_f,ev_k,List.getD_cons_zero,List.getD_cons_succ,zQA,c0,qJB,zVA,zGA,X_47,zPA,xBA,zKA,zSA,decide_eq_true_eq,zZA];by_cases h0:0<=fx
  ·rw[if_pos h0,decide_eq_true h0,Bool.true_and]
  ·rw[if_neg h0,decide_eq_false h0,Bool.false_and]
theorem zRA(n:Int)(k:Nat):(zJA n k).length=k:=by simp[zJA]
end Go.Mx
namespace Go.Mx
open Go Go.Dx
theorem xUL(n:Int):IntKind.i16.wrap n=(n+32768)%65536-32768:=by
 simp[IntKind.wrap,IntKind.bits,IntKind.signed];split <;> omega
theorem wrap_i8'(n:Int):IntKind.i8.wrap n=(n+128)%256-128:=by
 simp[IntKind.wrap,IntKind.bits,IntKind.signed];split <;> omega
theorem Fixed2(n:Int):zJA n 2=[qFA n 1,qFA n 0]:=rfl
theorem Fixed4(n:Int):zJA n 4=[qFA n 3,qFA n 2,qFA n 1,qFA n 0]:=rfl
theorem Fixed8(n:Int):zJA n 8=[qFA n 7,qFA n 6,qFA n 5,qFA n 4,qFA n 3,qFA n 2,qFA n 1,qFA n 0]:=rfl
theorem qNE(n:Int):qFA n 0=UInt8.ofNat (IntKind.u8.wrap n).toNat:=by
 simp only[qFA,Nat.mul_zero,Int.pow_zero,Int.fdiv_one]
theorem yND(n:Int)(i:Nat)(b:Int)(k:IntKind)(hb:(min b.toNat k.bits)=8*i):UInt8.ofNat (IntKind.u8.wrap (shrI n b k)).toNat=qFA n i:=by
 rw[shrI,qFA,hb]
theorem qNI(n:Int)(i:Nat):qFA n i=UInt8.ofNat (n / 2 ^ (8*i)%256).toNat:=by
 rw[qFA,IntKind.wrap_u8,Int.fdiv_eq_ediv_of_nonneg _ (by exact Int.le_of_lt (Int.pow_pos (by decide)))]
theorem zGC(n m:Int)(s:Nat)(h:∀i,i<s->n / 2 ^ (8*i)%256=m / 2 ^ (8*i)%256):zJA n s=zJA m s:=by
 rw[zJA,zJA];apply List.map_congr_left;intro i hi;rw[List.mem_reverse,List.mem_range] at hi;rw[qNI,qNI,h i hi]
theorem yHH(n:Int):zJA (IntKind.u16.wrap n) 2=zJA n 2:=zGC _ _ _ fun i hi=>by
 rw[IntKind.wrap_u16]
 match i,hi with
 | 0,_=>simp only[Nat.mul_zero,Int.pow_zero,Int.ediv_one];omega
 | 1,_=>simp only[Nat.mul_one,(by decide:(2:Int) ^ 8=256)];omega
theorem yGH(n:Int):zJA (IntKind.i16.wrap n) 2=zJA n 2:=zGC _ _ _ fun i hi=>by
 rw[xUL]
 match i,hi with
 | 0,_=>simp only[Nat.mul_zero,Int.pow_zero,Int.ediv_one];omega
 | 1,_=>simp only[Nat.mul_one,(by decide:(2:Int) ^ 8=256)];omega
theorem xTK(n:Int):zJA (IntKind.u32.wrap n) 4=zJA n 4:=zGC _ _ _ fun i hi=>by
 rw[IntKind.wrap_u32]
 match i,hi with
 | 0,_=>simp only[Nat.mul_zero,Int.pow_zero,Int.ediv_one];omega
 | 1,_=>simp only[Nat.mul_one,(by decide:(2:Int) ^ 8=256)];omega
 | 2,_=>simp only[(by decide:(2:Int) ^ (8*2)=65536)];omega
 | 3,_=>simp only[(by decide:(2:Int) ^ (8*3)=16777216)];omega
theorem zRE(n:Int):zJA (IntKind.i32.wrap n) 4=zJA n 4:=zGC _ _ _ fun i hi=>by
 rw[IntKind.wrap_i32]
 match i,hi with
 | 0,_=>simp only[Nat.mul_zero,Int.pow_zero,Int.ediv_one];omega
 | 1,_=>simp only[Nat.mul_one,(by decide:(2:Int) ^ 8=256)];omega
 | 2,_=>simp only[(by decide:(2:Int) ^ (8*2)=65536)];omega
 | 3,_=>simp only[(by decide:(2:Int) ^ (8*3)=16777216)];omega
theorem xUK(n:Int):zJA (IntKind.u64.wrap n) 8=zJA n 8:=zGC _ _ _ fun i hi=>by
 rw[IntKind.wrap_u64]
 match i,hi with
 | 0,_=>simp only[Nat.mul_zero,Int.pow_zero,Int.ediv_one];omega
 | 1,_=>simp only[Nat.mul_one,(by decide:(2:Int) ^ 8=256)];omega
 | 2,_=>simp only[(by decide:(2:Int) ^ (8*2)=65536)];omega
 | 3,_=>simp only[(by decide:(2:Int) ^ (8*3)=16777216)];omega
 | 4,_=>simp only[(by decide:(2:Int) ^ (8*4)=4294967296)];omega
 | 5,_=>simp only[(by decide:(2:Int) ^ (8*5)=1099511627776)];omega
 | 6,_=>simp only[(by decide:(2:Int) ^ (8*6)=281474976710656)];omega
 | 7,_=>simp only[(by decide:(2:Int) ^ (8*7)=72057594037927936)];omega
theorem fixed_i8(n:Int):zJA (IntKind.i8.wrap n) 1=zJA n 1:=zGC _ _ _ fun i hi=>by
 rw[wrap_i8']
 match i,hi with
 | 0,_=>simp only[Nat.mul_zero,Int.pow_zero,Int.ediv_one];omega
theorem xRD(o:Option (List UInt8))(x:UInt8)(s:List UInt8):(encB o).appd (.bytes (x::s))=app (encB o) (x::s):=by cases o <;> simp[encB,app,D.appd,D.asStr]
theorem app_s(o:D)(s r:List UInt8):(app o s).appd (.str r)=app o (s++r):=by simp[app,D.appd]
theorem app_b(o:D)(s:List UInt8)(r:Option (List UInt8)):(app o s).appd (encB r)=app o (s++r.getD []):=by cases r <;> simp[app,D.appd,encB]
theorem xUA(o:D)(s:List UInt8):(app o s).len=o.asStr.length+s.length:=by simp[app,D.len]
theorem room_app{o:D}{s:List UInt8}(h:(app o s).len<=lim):(app o s).len*1<=LIM/\(app o s).len<=maxLen:=xBB h
theorem qWA(l:List D):Fn.eval X .mkbytes l = .bytes (l.map fun d=>UInt8.ofNat d.asInt.toNat):=by cases l with|nil=>rfl|cons a l=>cases l with|nil=>rfl|cons b l=>cases l with|nil=>rfl|cons c l=>rfl
theorem ev2(o:Option (List UInt8))(b:Bool)(n:Nat)(h:side 2 [encB o,.bool b]):zCA X (Pre n) ob2 [encB o,.bool b]/\de2.eval X [encB o,.bool b]=X 2 [encB o,.bool b]:=by
 have h:(X 2 [encB o,.bool b]).len<=lim:=h;rw[X_2,xUA] at h;have hl:∀c:UInt8,(app (encB o) [c]).len<=lim:=fun c=>by
  rw[xUA];simpa[zSA] using(by cases b <;> simpa using h)
 constructor
 ·refine⟨fun _=>⟨?_,trivial⟩,fun _=>⟨?_,trivial⟩,trivial⟩ <;>
  ·simp only[Ob.holds,ev_f,zAA,zBA,ev_v,ev_k,List.getD_cons_zero,qWA,List.map_cons,List.map_nil,zKA,yUA,xRD];exact room_app (hl _)
 ·simp only[de2,X_2,ev_f,zAA,zBA,ev_v,ev_k,List.getD_cons_zero,List.getD_cons_succ,qWA,List.map_cons,List.map_nil,zKA,zSA,yUA,xRD,zVA];cases b <;> rfl
theorem ev5(o:Option (List UInt8))(x:Int)(n:Nat)(h:side 5 [encB o,.int x]):zCA X (Pre n) ob5 [encB o,.int x]/\de5.eval X [encB o,.int x]=X 5 [encB o,.int x]:=by
 have e:de5.eval X [encB o,.int x]=X 5 [encB o,.int x]:=by
  simp only[de5,X_5,ev_f,zAA,zBA,ev_v,ev_k,List.getD_cons_zero,List.getD_cons_succ,zME,zOA,qWA,List.map_cons,List.map_nil,zKA,yUA,xRD,Fixed2,qNE];rw[yND x 1 8 .u16 (by decide)]
 refine⟨⟨?_,trivial⟩,e⟩;show (de5.eval X [encB o,.int x]).len*1<=_/\(de5.eval X [encB o,.int x]).len<=_;rw[e];exact xBB h
theorem ev30(o:Option (List UInt8))(x:Int)(n:Nat)(h:side 30 [encB o,.int x]):zCA X (Pre n) ob30 [encB o,.int x]/\de30.eval X [encB o,.int x]=X 30 [encB o,.int x]:=by
 have e:de30.eval X [encB o,.int x]=X 30 [encB o,.int x]:=by
  simp only[de30,X_30,ev_f,zAA,zBA,ev_v,ev_k,List.getD_cons_zero,List.getD_cons_succ,zME,zOA,qWA,List.map_cons,List.map_nil,zKA,yUA,xRD,Fixed4,qNE];rw[yND x 1 8 .u32 (by decide),yND x 2 16 .u32 (by decide),yND x 3 24 .u32 (by decide)]
 refine⟨⟨?_,trivial⟩,e⟩;show (de30.eval X [encB o,.int x]).len*1<=_/\(de30.eval X [encB o,.int x]).len<=_;rw[e];exact xBB h
theorem ev29(o:Option (List UInt8))(x:Int)(n:Nat)(h:side 29 [encB o,.int x]):zCA X (Pre n) ob29 [encB o,.int x]/\de29.eval X [encB o,.int x]=X 29 [encB o,.int x]:=by
 have e:de29.eval X [encB o,.int x]=X 29 [encB o,.int x]:=by
  simp only[de29,X_29,ev_f,zAA,zBA,ev_v,ev_k,List.getD_cons_zero,List.getD_cons_succ,zME,zOA,qWA,List.map_cons,List.map_nil,zKA,yUA,xRD,Fixed8,qNE];rw[yND x 1 8 .u64 (by decide),yND x 2 16 .u64 (by decide),yND x 3 24 .u64 (by decide),yND x 4 32 .u64 (by decide),yND x 5 40 .u64 (by decide),yND x 6 48 .u64 (by decide),yND x 7 56 .u64 (by decide)]
 refine⟨⟨?_,trivial⟩,e⟩;show (de29.eval X [encB o,.int x]).len*1<=_/\(de29.eval X [encB o,.int x]).len<=_;rw[e];exact xBB h
theorem ev4(o:Option (List UInt8))(x:Int)(n:Nat)(h:side 4 [encB o,.int x]):zCA X (Pre n) ob4 [encB o,.int x]/\de4.eval X [encB o,.int x]=X 4 [encB o,.int x]:=by
 have e:de4.eval X [encB o,.int x]=X 4 [encB o,.int x]:=by
  simp only[de4,X_4,X_5,ev_f,zAA,zBA,ev_v,List.getD_cons_zero,List.getD_cons_succ,zOA,zGA,zKA,yHH]
 refine⟨⟨yCA rfl ?_,trivial⟩,e⟩;show (de4.eval X [encB o,.int x]).len<=lim;rw[e];exact h
theorem ev6(o:Option (List UInt8))(x:Int)(n:Nat)(h:side 6 [encB o,.int x]):zCA X (Pre n) ob6 [encB o,.int x]/\de6.eval X [encB o,.int x]=X 6 [encB o,.int x]:=by
 have e:de6.eval X [encB o,.int x]=X 6 [encB o,.int x]:=by
  simp only[de6,X_6,X_30,ev_f,zAA,zBA,ev_v,List.getD_cons_zero,List.getD_cons_succ,zOA,zGA,zKA,xTK]
 refine⟨⟨yCA rfl ?_,trivial⟩,e⟩;show (de6.eval X [encB o,.int x]).len<=lim;rw[e];exact h
theorem ev7(o:Option (List UInt8))(x:Int)(n:Nat)(h:side 7 [encB o,.int x]):zCA X (Pre n) ob7 [encB o,.int x]/\de7.eval X [encB o,.int x]=X 7 [encB o,.int x]:=by
 have e:de7.eval X [encB o,.int x]=X 7 [encB o,.int x]:=by
  simp only[de7,X_7,X_29,ev_f,zAA,zBA,ev_v,List.getD_cons_zero,List.getD_cons_succ,zOA,zGA,zKA,xUK]
 refine⟨⟨yCA rfl ?_,trivial⟩,e⟩;show (de7.eval X [encB o,.int x]).len<=lim;rw[e];exact h
theorem zHF(s:List UInt8):(D.str s).asStr=s:=rfl
theorem yKF(s:List UInt8):(D.str s).len=s.length:=rfl
theorem ev11(o:Option (List UInt8))(s:List UInt8)(n:Nat)(h:side 11 [encB o,.str s]):zCA X (Pre n) ob11 [encB o,.str s]/\de11.eval X [encB o,.str s]=X 11 [encB o,.str s]:=by
 have e:de11.eval X [encB o,.str s]=X 11 [encB o,.str s]:=by
  simp only[de11,X_11,X_4,ev_f,zAA,zBA,ev_v,List.getD_cons_zero,List.getD_cons_succ,zTA,zOA,zGA,zKA,yGH,yUA,app_s,zHF,yKF]
 have h:(X 11 [encB o,.str s]).len<=lim:=h;refine⟨⟨?_,yCA rfl ?_,trivial⟩,e⟩
 ·show (de11.eval X [encB o,.str s]).len*1<=_/\(de11.eval X [encB o,.str s]).len<=_;rw[e];exact xBB h
 ·simp only[ev_f,zAA,zBA,ev_v,List.getD_cons_zero,List.getD_cons_succ,zTA,zOA];show (X 4 _).len<=lim;rw[X_11,xUA,List.length_append,zRA] at h;rw[X_4,xUA,zRA];omega
theorem ev15(o s:Option (List UInt8))(n:Nat)(h:side 15 [encB o,encB s]):zCA X (Pre n) ob15 [encB o,encB s]/\de15.eval X [encB o,encB s]=X 15 [encB o,encB s]:=by
 have e:de15.eval X [encB o,encB s]=X 15 [encB o,encB s]:=by
  simp only[de15,X_15,X_6,ev_f,zAA,zBA,ev_v,List.getD_cons_zero,List.getD_cons_succ,zTA,zOA,zGA,zKA,zRE,yUA,app_b,yTA,yHA]
 have h:(X 15 [encB o,encB s]).len<=lim:=h;refine⟨⟨?_,yCA rfl ?_,trivial⟩,e⟩
 ·show (de15.eval X [encB o,encB s]).len*1<=_/\(de15.eval X [encB o,encB s]).len<=_;rw[e];exact xBB h
 ·simp only[ev_f,zAA,zBA,ev_v,List.getD_cons_zero,List.getD_cons_succ,zTA,zOA];show (X 6 _).len<=lim;rw[X_15,xUA,List.length_append,zRA] at h;rw[X_6,xUA,zRA];omega
theorem xBD(s:Option (List UInt8)):(encB s).isNil=s.isNone:=by cases s <;> rfl
theorem ev17(o s:Option (List UInt8))(n:Nat)(h:side 17 [encB o,encB s]):zCA X (Pre n) ob17 [encB o,encB s]/\de17.eval X [encB o,encB s]=X 17 [encB o,encB s]:=by
 have h:(X 17 [encB o,encB s]).len<=lim:=h;rw[X_17,xBD] at h;constructor
 ·refine⟨fun hc=>⟨yCA rfl ?_,trivial⟩,fun hc=>⟨yCA rfl ?_,trivial⟩,trivial⟩ <;>
  simp only[ev_f,zAA,zBA,ev_v,ev_k,List.getD_cons_zero,List.getD_cons_succ,qOB,xBD,zSA] at hc ⊢
  ·rw[hc] at h;exact h
  ·rw[hc] at h;exact h
 ·simp only[de17,X_17,X_15,X_6,ev_f,zAA,zBA,ev_v,ev_k,List.getD_cons_zero,List.getD_cons_succ,qOB,xBD,zGA,zKA,zVA];cases s <;> rfl
end Go.Mx
namespace Go.Mx
open Go Go.Dx
theorem xEB{x:Int}(h1:0<=x)(h2:x<4294967296):IntKind.u32.wrap x=x:=by
 rw[IntKind.wrap_u32];omega
theorem xSJ(n:Nat)(h:n<4294967296):IntKind.u32.wrap ((BitVec.ofInt IntKind.u32.bits (n:Int) &&& BitVec.ofInt IntKind.u32.bits 127).toNat:Nat)=((n%128:Nat):Int):=by
 have e:(BitVec.ofInt IntKind.u32.bits (n:Int) &&& BitVec.ofInt IntKind.u32.bits 127).toNat=n%128:=by
  rw[BitVec.toNat_and];have e1:(BitVec.ofInt IntKind.u32.bits (n:Int)).toNat=n:=by simp[IntKind.bits,BitVec.toNat_ofInt];omega
  have e2:(BitVec.ofInt IntKind.u32.bits 127).toNat=2 ^ 7-1:=rfl;rw[e1,e2,Nat.and_two_pow_sub_one_eq_mod]
 rw[e,xEB (by omega) (by omega)]
theorem yTK(n:Nat)(h:n<128):IntKind.u32.wrap ((BitVec.ofInt IntKind.u32.bits (n:Int) ||| BitVec.ofInt IntKind.u32.bits 128).toNat:Nat)=((n+128:Nat):Int):=by
 have:∀n:Fin 128,IntKind.u32.wrap ((BitVec.ofInt IntKind.u32.bits (n.1:Int) ||| BitVec.ofInt IntKind.u32.bits 128).toNat:Nat)=((n.1+128:Nat):Int):=by decide
 exact this ⟨n,h⟩
theorem zAJ(a b:Int)(k:IntKind):Fn.eval X (.bor k) [.int a,.int b] = .int (k.wrap (BitVec.ofInt k.bits a ||| BitVec.ofInt k.bits b).toNat):=rfl
theorem qTF(n:Nat)(h:n<4294967296):UInt8.ofNat (IntKind.u8.wrap (IntKind.u32.wrap ((BitVec.ofInt IntKind.u32.bits (IntKind.u32.wrap ((BitVec.ofInt IntKind.u32.bits (n:Int) &&& BitVec.ofInt IntKind.u32.bits 127).toNat:Nat)) ||| BitVec.ofInt IntKind.u32.bits 128).toNat:Nat))).toNat=UInt8.ofNat (n%128+128):=by
 rw[xSJ n h,yTK _ (by omega),qLF (by omega) (by omega),Int.toNat_natCast]
theorem qEK(n:Nat)(h:n<=127):UInt8.ofNat (IntKind.u8.wrap (n:Int)).toNat=UInt8.ofNat n:=by
 rw[qLF (by omega) (by omega),Int.toNat_natCast]
theorem zJK(n:Nat)(b:Int)(q:Nat)(hb:(2:Int) ^ (min b.toNat IntKind.u32.bits)=(q:Nat))(hq:0<q):shrI (n:Int) b .u32=((n / q:Nat):Int):=by
 rw[shrI,hb,Int.fdiv_eq_ediv_of_nonneg _ (by omega)];rfl
theorem xEJ(n:Nat):(zDA n).length=uvN n+1:=by
 rw[uv_eq];simp[uvP]
theorem uvP0(n:Nat):uvP n 0=[]:=rfl
theorem ev10(o:Option (List UInt8))(x:Int)(n:Nat)(h0:0<=x)(h1:x<4294967296)(h:side 10 [encB o,.int x]):zCA X (Pre n) ob10 [encB o,.int x]/\de10.eval X [encB o,.int x]=X 10 [encB o,.int x]:=by
 obtain⟨m,rfl⟩:=Int.eq_ofNat_of_zero_le h0;have hm:m<4294967296:=by omega
 have h:(X 10 [encB o,.int (m:Nat)]).len<=lim:=h;have hb:uvN m<=4:=yYG 5 m (Nat.lt_of_lt_of_le hm (by decide));have hst:=zHH m;have hd:∀q,m / q<4294967296:=fun q=>Nat.lt_of_le_of_lt (Nat.div_le_self _ _) hm
 have e31:(DE.f (.ext 31) [.v 1]).eval X [encB o,.int (m:Nat)] = .int ((uvN m+1:Nat):Int):=by
  simp only[ev_f,zAA,zBA,ev_v,List.getD_cons_zero,List.getD_cons_succ,zGA,X_31,zKA,Int.toNat_natCast,xEJ]
 have s7:shrI (m:Int) 7 .u32=((m / 128:Nat):Int):=zJK m 7 128 (by decide) (by decide);have s14:shrI (m:Int) 14 .u32=((m / 16384:Nat):Int):=zJK m 14 16384 (by decide) (by decide);have s21:shrI (m:Int) 21 .u32=((m / 2097152:Nat):Int):=zJK m 21 2097152 (by decide) (by decide);have s28:shrI (m:Int) 28 .u32=((m / 268435456:Nat):Int):=zJK m 28 268435456 (by decide) (by decide);have p1:∀k,uvP m (k+1)=uvP m k++[UInt8.ofNat (m / 128 ^ k%128+128)]:=xDJ m;have q0:m / 128 ^ 0=m:=by simp
 have q1:m / 128 ^ 1=m / 128:=rfl;have q2:m / 128 ^ 2=m / 16384:=rfl;have q3:m / 128 ^ 3=m / 2097152:=rfl;have q4:m / 128 ^ 4=m / 268435456:=rfl;have c5:∀k:Nat,(DE.f .eqI [.f (.ext 31) [.v 1],.k (.int (k:Nat))]).eval X [encB o,.int (m:Nat)] = .bool (decide (uvN m+1=k)):=fun k=>by
  rw[ev_f];simp only[zAA,zBA,e31,ev_k,qZA,xIB,Int.ofNat_inj]
 have c5':(DE.f .eqI [.f (.ext 31) [.v 1],.k (.int 5)]).eval X [encB o,.int (m:Nat)] = .bool (decide (uvN m+1=5)):=c5 5;have c4':(DE.f .eqI [.f (.ext 31) [.v 1],.k (.int 4)]).eval X [encB o,.int (m:Nat)] = .bool (decide (uvN m+1=4)):=c5 4;have c3':(DE.f .eqI [.f (.ext 31) [.v 1],.k (.int 3)]).eval X [encB o,.int (m:Nat)] = .bool (decide (uvN m+1=3)):=c5 3;have c2':(DE.f .eqI [.f (.ext 31) [.v 1],.k (.int 2)]).eval X [encB o,.int (m:Nat)] = .bool (decide (uvN m+1=2)):=c5 2;have c1':(DE.f .eqI [.f (.ext 31) [.v 1],.k (.int 1)]).eval X [encB o,.int (m:Nat)] = .bool (decide (uvN m+1=1)):=c5 1;have main:∀k,uvN m=k->X 10 [encB o,.int (m:Nat)]=app (encB o) (uvP m k++[UInt8.ofNat (m / 128 ^ k)]):=fun k hk=>by
  rw[X_10,zKA,Int.toNat_natCast,uv_eq,hk]
 have t5:uvN m=4->(DE.f .app [.v 0,.f .mkbytes [.f (.wrap .u8) [.f (.bor .u32) [.f (.band .u32) [.v 1,.k (.int 127)],.k (.int 128)]],.f (.wrap .u8) [.f (.bor .u32) [.f (.band .u32) [.f (.shr .u32) [.v 1,.k (.int 7)],.k (.int 127)],.k (.int 128)]],.f (.wrap .u8) [.f (.bor .u32) [.f (.band .u32) [.f (.shr .u32) [.v 1,.k (.int 14)],.k (.int 127)],.k (.int 128)]],.f (.wrap .u8) [.f (.bor .u32) [.f (.band .u32) [.f (.shr .u32) [.v 1,.k (.int 21)],.k (.int 127)],.k (.int 128)]],.f (.wrap .u8) [.f (.shr .u32) [.v 1,.k (.int 28)]]]]).eval X [encB o,.int (m:Nat)]=X 10 [encB o,.int (m:Nat)]:=fun hk=>by
  rw[main 4 hk];rw[hk] at hst;simp only[ev_f,zAA,zBA,ev_v,ev_k,List.getD_cons_zero,List.getD_cons_succ,zME,xVC,zAJ,zOA,qWA,List.map_cons,List.map_nil,zKA,yUA,s7,s14,s21,s28];rw[xRD,qTF m hm,qTF _ (hd _),qTF _ (hd _),qTF _ (hd _),qEK _ (by rw[q4] at hst;omega),p1,p1,p1,p1,uvP0,q0,q1,q2,q3,q4];rfl
 have t4:uvN m=3->(DE.f .app [.v 0,.f .mkbytes [.f (.wrap .u8) [.f (.bor .u32) [.f (.band .u32) [.v 1,.k (.int 127)],.k (.int 128)]],.f (.wrap .u8) [.f (.bor .u32) [.f (.band .u32) [.f (.shr .u32) [.v 1,.k (.int 7)],.k (.int 127)],.k (.int 128)]],.f (.wrap .u8) [.f (.bor .u32) [.f (.band .u32) [.f (.shr .u32) [.v 1,.k (.int 14)],.k (.int 127)],.k (.int 128)]],.f (.wrap .u8) [.f (.shr .u32) [.v 1,.k (.int 21)]]]]).eval X [encB o,.int (m:Nat)]=X 10 [encB o,.int (m:Nat)]:=fun hk=>by
  rw[main 3 hk];rw[hk] at hst;simp only[ev_f,zAA,zBA,ev_v,ev_k,List.getD_cons_zero,List.getD_cons_succ,zME,xVC,zAJ,zOA,qWA,List.map_cons,List.map_nil,zKA,yUA,s7,s14,s21,s28];rw[xRD,qTF m hm,qTF _ (hd _),qTF _ (hd _),qEK _ (by rw[q3] at hst;omega),p1,p1,p1,uvP0,q0,q1,q2,q3];rfl
 have t3:uvN m=2->(DE.f .app [.v 0,.f .mkbytes [.f (.wrap .u8) [.f (.bor .u32) [.f (.band .u32) [.v 1,.k (.int 127)],.k (.int 128)]],.f (.wrap .u8) [.f (.bor .u32) [.f (.band .u32) [.f (.shr .u32) [.v 1,.k (.int 7)],.k (.int 127)],.k (.int 128)]],.f (.wrap .u8) [.f (.shr .u32) [.v 1,.k (.int 14)]]]]).eval X [encB o,.int (m:Nat)]=X 10 [encB o,.int (m:Nat)]:=fun hk=>by
  rw[main 2 hk];rw[hk] at hst;simp only[ev_f,zAA,zBA,ev_v,ev_k,List.getD_cons_zero,List.getD_cons_succ,zME,xVC,zAJ,zOA,qWA,List.map_cons,List.map_nil,zKA,yUA,s7,s14,s21,s28];rw[xRD,qTF m hm,qTF _ (hd _),qEK _ (by rw[q2] at hst;omega),p1,p1,uvP0,q0,q1,q2];rfl
 have t2:uvN m=1->(DE.f .app [.v 0,.f .mkbytes [.f (.wrap .u8) [.f (.bor .u32) [.f (.band .u32) [.v 1,.k (.int 127)],.k (.int 128)]],.f (.wrap .u8) [.f (.shr .u32) [.v 1,.k (.int 7)]]]]).eval X [encB o,.int (m:Nat)]=X 10 [encB o,.int (m:Nat)]:=fun hk=>by
  rw[main 1 hk];rw[hk] at hst;simp only[ev_f,zAA,zBA,ev_v,ev_k,List.getD_cons_zero,List.getD_cons_succ,zME,xVC,zAJ,zOA,qWA,List.map_cons,List.map_nil,zKA,yUA,s7,s14,s21,s28];rw[xRD,qTF m hm,qEK _ (by rw[q1] at hst;omega),p1,uvP0,q0,q1];rfl
 have t1:uvN m=0->(DE.f .app [.v 0,.f .mkbytes [.f (.wrap .u8) [.v 1]]]).eval X [encB o,.int (m:Nat)]=X 10 [encB o,.int (m:Nat)]:=fun hk=>by
  rw[main 0 hk];rw[hk,q0] at hst;simp only[ev_f,zAA,zBA,ev_v,ev_k,List.getD_cons_zero,List.getD_cons_succ,zOA,qWA,List.map_cons,List.map_nil,zKA,yUA];rw[xRD,qEK _ (by omega),uvP0,q0];rfl
 constructor
 ·refine⟨fun c=>⟨?_,trivial⟩,fun _=>⟨fun c=>⟨?_,trivial⟩,fun _=>⟨fun c=>⟨?_,trivial⟩,fun _=>⟨fun c=>⟨?_,trivial⟩,fun _=>⟨fun c=>⟨?_,trivial⟩,trivial⟩,trivial⟩,trivial⟩,trivial⟩,yCA rfl trivial,trivial⟩
  ·rw[c5',zSA,decide_eq_true_eq] at c;simp only[Ob.holds];rw[t5 (by omega)];exact xBB h
  ·rw[c4',zSA,decide_eq_true_eq] at c;simp only[Ob.holds];rw[t4 (by omega)];exact xBB h
  ·rw[c3',zSA,decide_eq_true_eq] at c;simp only[Ob.holds];rw[t3 (by omega)];exact xBB h
  ·rw[c2',zSA,decide_eq_true_eq] at c;simp only[Ob.holds];rw[t2 (by omega)];exact xBB h
  ·rw[c1',zSA,decide_eq_true_eq] at c;simp only[Ob.holds];rw[t1 (by omega)];exact xBB h
 ·have step:∀(c a b:DE) (p:Bool),c.eval X [encB o,.int (m:Nat)] = .bool p->(DE.f .ite [c,a,b]).eval X [encB o,.int (m:Nat)]=if p then a.eval X [encB o,.int (m:Nat)] else b.eval X [encB o,.int (m:Nat)]:=fun c a b p hp=>by
   rw[ev_f];simp only[zAA,zBA,hp,zVA]
  rw[de10,step _ _ _ _ c5'];by_cases d5:uvN m+1=5
  ·rw[if_pos (decide_eq_true d5)];exact t5 (by omega)
  ·rw[if_neg (by simp only[d5,decide_false];exact Bool.false_ne_true),step _ _ _ _ c4'];by_cases d4:uvN m+1=4
   ·rw[if_pos (decide_eq_true d4)];exact t4 (by omega)
   ·rw[if_neg (by simp only[d4,decide_false];exact Bool.false_ne_true),step _ _ _ _ c3'];by_cases d3:uvN m+1=3
    ·rw[if_pos (decide_eq_true d3)];exact t3 (by omega)
    ·rw[if_neg (by simp only[d3,decide_false];exact Bool.false_ne_true),step _ _ _ _ c2'];by_cases d2:uvN m+1=2
     ·rw[if_pos (decide_eq_true d2)];exact t2 (by omega)
     ·rw[if_neg (by simp only[d2,decide_false];exact Bool.false_ne_true),step _ _ _ _ c1'];rw[if_pos (decide_eq_true (by omega))];exact t1 (by omega)
theorem ev12(o:Option (List UInt8))(s:List UInt8)(n:Nat)(h:side 12 [encB o,.str s]):zCA X (Pre n) ob12 [encB o,.str s]/\de12.eval X [encB o,.str s]=X 12 [encB o,.str s]:=by
 rw[xVI,yKF] at h;obtain⟨h1,h2⟩:=h;have ew:IntKind.u32.wrap (1+IntKind.u32.wrap (s.length:Nat))=((s.length+1:Nat):Int):=by
  rw[xEB (x:=(s.length:Nat)) (by omega) (by omega),xEB (by omega) (by omega)];omega
 have e:de12.eval X [encB o,.str s]=X 12 [encB o,.str s]:=by
  simp only[de12,X_12,X_10,ev_f,zAA,zBA,ev_v,ev_k,List.getD_cons_zero,List.getD_cons_succ,zTA,yKF,zOA,yDC,ew,zGA,zKA,Int.toNat_natCast,yUA,app_s,zHF]
 have hu:(zDA (s.length+1)).length<=5:=by
  rw[xEJ]
  have:=yYG 5 (s.length+1) (Nat.lt_of_lt_of_le (by omega) (by decide:4294967296<=128 ^ 5))
  omega
 refine⟨⟨?_,yCA rfl ?_,trivial⟩,e⟩
 ·show (de12.eval X [encB o,.str s]).len*1<=_/\(de12.eval X [encB o,.str s]).len<=_;rw[e,X_12,xUA,List.length_append,yKF,zHF];exact xBB (by omega)
 ·simp only[ev_f,zAA,zBA,ev_v,ev_k,List.getD_cons_zero,List.getD_cons_succ,zTA,yKF,zOA,yDC,ew];show (X 10 _).len<=lim;rw[X_10,xUA,zKA,Int.toNat_natCast];omega
end Go.Mx
namespace Go.Mx
open Go Go.Dx
def de22:DE:=(.f .ite [.v 2,.f (.ext 10) [.v 0,.k (.int 0)],.f (.ext 10) [.v 0,.f (.add .u32) [.k (.int 1),.f (.wrap .u32) [.v 1]]]])
def ob22:List Ob:=[.when (.v 2) true [.pre 10 [.v 0,.k (.int 0)]],.when (.v 2) false [.pre 10 [.v 0,.f (.add .u32) [.k (.int 1),.f (.wrap .u32) [.v 1]]]]]
def de21:DE:=(.f .ite [.v 2,.f (.ext 6) [.v 0,.k (.int (-1))],.f (.ext 6) [.v 0,.f (.wrap .i32) [.v 1]]])
def ob21:List Ob:=[.when (.v 2) true [.pre 6 [.v 0,.k (.int (-1))]],.when (.v 2) false [.pre 6 [.v 0,.f (.wrap .i32) [.v 1]]]]
def de20:DE:=(.f (.ext 10) [.v 0,.f (.add .u32) [.k (.int 1),.f (.wrap .u32) [.v 1]]])
def ob20:List Ob:=[.pre 10 [.v 0,.f (.add .u32) [.k (.int 1),.f (.wrap .u32) [.v 1]]]]
def de19:DE:=(.f (.ext 6) [.v 0,.f (.wrap .i32) [.v 1]])
def ob19:List Ob:=[.pre 6 [.v 0,.f (.wrap .i32) [.v 1]]]
def de14:DE:=(.f .ite [.f .isNil [.v 1],.f (.ext 10) [.v 0,.k (.int 0)],.f (.ext 12) [.v 0,.f (.get 0) [.f .deref [.v 1]]]])
def ob14:List Ob:=[.when (.f .isNil [.v 1]) true [.pre 10 [.v 0,.k (.int 0)]],.when (.f .isNil [.v 1]) false [.pre 12 [.v 0,.f (.get 0) [.f .deref [.v 1]]],.when (.f .isNil [.v 1]) true [(.nz (.k (.int 0)))]]]
def de13:DE:=(.f .ite [.f .isNil [.v 1],.f (.ext 4) [.v 0,.k (.int (-1))],.f (.ext 11) [.v 0,.f (.get 0) [.f .deref [.v 1]]]])
def ob13:List Ob:=[.when (.f .isNil [.v 1]) true [.pre 4 [.v 0,.k (.int (-1))]],.when (.f .isNil [.v 1]) false [.pre 11 [.v 0,.f (.get 0) [.f .deref [.v 1]]],.when (.f .isNil [.v 1]) true [(.nz (.k (.int 0)))]]]
def de3:DE:=(.f .app [.v 0,.f .mkbytes [.f (.wrap .u8) [.v 1]]])
def ob3:List Ob:=[.room (.f .app [.v 0,.f .mkbytes [.f (.wrap .u8) [.v 1]]]) 1]
theorem ev3(o:Option (List UInt8))(x:Int)(n:Nat)(h:side 3 [encB o,.int x]):zCA X (Pre n) ob3 [encB o,.int x]/\de3.eval X [encB o,.int x]=X 3 [encB o,.int x]:=by
 have e:de3.eval X [encB o,.int x]=X 3 [encB o,.int x]:=by
  simp only[de3,X_3,ev_f,zAA,zBA,ev_v,List.getD_cons_zero,List.getD_cons_succ,zOA,yUA,zKA];rw[show zJA x 1=[UInt8.ofNat (IntKind.u8.wrap x).toNat] by simp[zJA,qNE]];show (encB o).appd (.bytes [UInt8.ofNat (IntKind.u8.wrap x).toNat])=_;cases o <;> simp[encB,D.appd,app,D.asStr]
 have h:(X 3 [encB o,.int x]).len<=lim:=h;refine⟨⟨?_,trivial⟩,e⟩;show (de3.eval X [encB o,.int x]).len*1<=_/\(de3.eval X [encB o,.int x]).len<=_;rw[e];exact xBB h
theorem ev19(o:Option (List UInt8))(x:Int)(n:Nat)(h:side 19 [encB o,.int x]):zCA X (Pre n) ob19 [encB o,.int x]/\de19.eval X [encB o,.int x]=X 19 [encB o,.int x]:=by
 have h:(X 19 [encB o,.int x]).len<=lim:=h;rw[X_19,xUA,zRA] at h;refine⟨⟨yCA rfl ?_,trivial⟩,?_⟩
 ·simp only[ev_f,zAA,zBA,ev_v,List.getD_cons_zero,List.getD_cons_succ,zOA];show (X 6 _).len<=lim;rw[X_6,xUA,zRA];exact h
 ·simp only[de19,X_19,X_6,ev_f,zAA,zBA,ev_v,List.getD_cons_zero,List.getD_cons_succ,zOA,zGA,zKA,zRE]
theorem addone{x:Int}(h0:0<=x)(h1:x<2147483648):IntKind.u32.wrap (1+IntKind.u32.wrap x)=1+x:=by
 rw[xEB h0 (by omega),xEB (by omega) (by omega)]
theorem Uv5{m:Nat}(h:m<4294967296):(zDA m).length<=5:=by
 have:=yYG 5 m (Nat.lt_of_lt_of_le h (by decide))
 rw[xEJ];omega
theorem ev20(o:Option (List UInt8))(x:Int)(n:Nat)(h:side 20 [encB o,.int x]):zCA X (Pre n) ob20 [encB o,.int x]/\de20.eval X [encB o,.int x]=X 20 [encB o,.int x]:=by
 rw[side_20] at h;simp only[zKA] at h;obtain⟨h0,h1,h2⟩:=h;have e:(DE.f (.add .u32) [.k (.int 1),.f (.wrap .u32) [.v 1]]).eval X [encB o,.int x] = .int (1+x):=by
  simp only[ev_f,zAA,zBA,ev_v,ev_k,List.getD_cons_zero,List.getD_cons_succ,zOA,yDC,addone h0 h1]
 refine⟨⟨yCA rfl ?_,trivial⟩,?_⟩
 ·rw[zAA,zAA,zBA,e];show (X 10 _).len<=lim;rw[X_10,xUA,zKA]
  have:=Uv5 (m:=(1+x).toNat) (by omega)
  show (encB o).asStr.length+_<=_;omega
 ·rw[de20,ev_f,zAA,zAA,zBA,e,zGA,X_10,X_20,zKA,zKA,show (1+x).toNat=x.toNat+1 by omega];rfl
theorem ev21(o:Option (List UInt8))(x:Int)(b:Bool)(n:Nat)(h:side 21 [encB o,.int x,.bool b]):zCA X (Pre n) ob21 [encB o,.int x,.bool b]/\de21.eval X [encB o,.int x,.bool b]=X 21 [encB o,.int x,.bool b]:=by
 have h:(X 21 [encB o,.int x,.bool b]).len<=lim:=h;rw[X_21,xUA] at h;have hv:(DE.v 2).eval X [encB o,.int x,.bool b] = .bool b:=rfl;refine⟨⟨fun hb=>⟨yCA rfl ?_,trivial⟩,fun hb=>⟨yCA rfl ?_,trivial⟩,trivial⟩,?_⟩
 ·simp only[zAA,zBA,ev_v,ev_k,List.getD_cons_zero];show (X 6 _).len<=lim;rw[X_6,xUA,zRA];rw[show (if (D.bool b).asBool then zJA (-1) 4 else zJA (D.int x).asInt 4).length=4 by split <;> rw[zRA]] at h;exact h
 ·simp only[ev_f,zAA,zBA,ev_v,List.getD_cons_zero,List.getD_cons_succ,zOA];show (X 6 _).len<=lim;rw[X_6,xUA,zRA];rw[show (if (D.bool b).asBool then zJA (-1) 4 else zJA (D.int x).asInt 4).length=4 by split <;> rw[zRA]] at h;exact h
 ·simp only[de21,X_21,X_6,ev_f,zAA,zBA,ev_v,ev_k,List.getD_cons_zero,List.getD_cons_succ,zOA,zGA,zVA,zKA,zRE,zSA];cases b <;> rfl
theorem ev22(o:Option (List UInt8))(x:Int)(b:Bool)(n:Nat)(h:side 22 [encB o,.int x,.bool b]):zCA X (Pre n) ob22 [encB o,.int x,.bool b]/\de22.eval X [encB o,.int x,.bool b]=X 22 [encB o,.int x,.bool b]:=by
 rw[side_22] at h;simp only[zKA] at h;obtain⟨h0,h1,h2⟩:=h;have e:(DE.f (.add .u32) [.k (.int 1),.f (.wrap .u32) [.v 1]]).eval X [encB o,.int x,.bool b] = .int (1+x):=by
  simp only[ev_f,zAA,zBA,ev_v,ev_k,List.getD_cons_zero,List.getD_cons_succ,zOA,yDC,addone h0 h1]
 refine⟨⟨fun hb=>⟨yCA rfl ?_,trivial⟩,fun hb=>⟨yCA rfl ?_,trivial⟩,trivial⟩,?_⟩
 ·simp only[zAA,zBA,ev_v,ev_k,List.getD_cons_zero];show (X 10 _).len<=lim;rw[X_10,xUA,zKA]
  have:=Uv5 (m:=(0:Int).toNat) (by omega)
  show (encB o).asStr.length+_<=_;omega
 ·rw[zAA,zAA,zBA,e];show (X 10 _).len<=lim;rw[X_10,xUA,zKA]
  have:=Uv5 (m:=(1+x).toNat) (by omega)
  show (encB o).asStr.length+_<=_;omega
 ·rw[de22,ev_f,zAA,zAA,zAA,zBA];rw[ev_f,zAA,zAA,zBA,ev_f,zAA,zAA,zBA,e,ev_k,zGA,zGA,X_10,X_10,X_22,zKA,zKA,zKA];show Fn.eval X .ite [.bool b,_,_]=_;rw[zVA,zSA,show (1+x).toNat=x.toNat+1 by omega];cases b <;> rfl
def encP(s:Option (List UInt8)):D:=match s with|none=>.nil|some s=>.ptr (.str s)
theorem ev13(o s:Option (List UInt8))(n:Nat)(h:side 13 [encB o,encP s]):zCA X (Pre n) ob13 [encB o,encP s]/\de13.eval X [encB o,encP s]=X 13 [encB o,encP s]:=by
 have h:(X 13 [encB o,encP s]).len<=lim:=h;rw[X_13,xUA] at h;have eN:(DE.f .isNil [.v 1]).eval X [encB o,encP s] = .bool s.isNone:=by
  rw[ev_f,zAA,zBA,qOB];cases s <;> rfl
 have eD:∀t,s=some t->(DE.f (.get 0) [.f .deref [.v 1]]).eval X [encB o,encP s] = .str t:=fun t e=>by subst e;rfl
 refine⟨⟨fun hb=>⟨yCA rfl ?_,trivial⟩,fun hb=>⟨yCA rfl ?_,fun hc=>?_,trivial⟩,trivial⟩,?_⟩
 ·rw[eN] at hb;simp only[zAA,zBA,ev_v,ev_k,List.getD_cons_zero];show (X 4 _).len<=lim;cases s with
  | some t=>simp[D.asBool] at hb
  | none =>
   rw[X_4,xUA,zRA];change (encB o).asStr.length+(zJA (-1) 2).length<=lim at h;rw[zRA] at h;exact h
 ·rw[eN] at hb;cases s with
  | none=>simp[D.asBool] at hb
  | some t =>
   rw[zAA,zAA,zBA,eD t rfl];show (X 11 _).len<=lim;rw[X_11,xUA];exact h
 ·rw[hc] at hb;cases hb
 ·rw[de13,ev_f,zAA,zAA,zAA,zBA,eN,zVA];cases s with
  | none=>rfl
  | some t =>
   simp only[Option.isNone_some,Bool.false_eq_true,if_false];rw[ev_f,zAA,zAA,zBA,eD t rfl,zGA,X_11,X_13];rfl
theorem ev14(o s:Option (List UInt8))(n:Nat)(h:side 14 [encB o,encP s]):zCA X (Pre n) ob14 [encB o,encP s]/\de14.eval X [encB o,encP s]=X 14 [encB o,encP s]:=by
 rw[yFL] at h;have eN:(DE.f .isNil [.v 1]).eval X [encB o,encP s] = .bool s.isNone:=by
  rw[ev_f,zAA,zBA,qOB];cases s <;> rfl
 have eD:∀t,s=some t->(DE.f (.get 0) [.f .deref [.v 1]]).eval X [encB o,encP s] = .str t:=fun t e=>by subst e;rfl
 refine⟨⟨fun hb=>⟨yCA rfl ?_,trivial⟩,fun hb=>⟨yCA rfl ?_,fun hc=>?_,trivial⟩,trivial⟩,?_⟩
 ·rw[eN] at hb;simp only[zAA,zBA,ev_v,ev_k,List.getD_cons_zero];show (X 10 _).len<=lim;rw[X_10,xUA,zKA]
  have:=Uv5 (m:=(0:Int).toNat) (by omega)
  show (encB o).asStr.length+_<=_;omega
 ·rw[eN] at hb;cases s with
  | none=>simp[D.asBool] at hb
  | some t =>
   rw[zAA,zAA,zBA,eD t rfl];show side 12 _;rw[ev_v,List.getD_cons_zero,xVI];exact h
 ·rw[hc] at hb;cases hb
 ·rw[de14,ev_f,zAA,zAA,zAA,zBA,eN,zVA];cases s with
  | none=>rfl
  | some t =>
   simp only[Option.isNone_some,Bool.false_eq_true,if_false];rw[ev_f,zAA,zAA,zBA,eD t rfl,zGA,X_12,X_14];rfl
def uvT:List UInt8:=[1,1,1,1,1,1,1,1,2,2,2,2,2,2,2,3,3,3,3,3,3,3,4,4,4,4,4,4,4,5,5,5,5,5,5,5,6,6,6,6,6,6,6,7,7,7,7,7,7,7,8,8,8,8,8,8,8,9,9,9,9,9,9,9,10,0,0,0,0,0,0,0,0,0,0,0,0,0,0,0,0,0,0,0,0,0,0,0,0,0,0,0,0,0,0,0,0,0,0,0,0,0,0,0,0,0,0,0,0,0,0,0,0,0,0,0,0,0,0,0,0,0,0,0,0,0,0,0,0,0,0,0,0,0,0,0,0,0,0,0,0,0,0,0,0,0,0,0,0,0,0,0,0,0,0,0,0,0,0,0,0,0,0,0,0,0,0,0,0,0,0,0,0,0,0,0,0,0,0,0,0,0,0,0,0,0,0,0,0,0,0,0,0,0,0,0,0,0,0,0,0,0,0,0,0,0,0,0,0,0,0,0,0,0,0,0,0,0,0,0,0,0,0,0,0,0,0,0,0,0,0,0,0,0,0,0,0,0,0,0,0,0,0,0,0,0,0,0,0,0,0,0,0,0,0,0]
def l8T:List UInt8:=[0,1,2,2,3,3,3,3,4,4,4,4,4,4,4,4,5,5,5,5,5,5,5,5,5,5,5,5,5,5,5,5,6,6,6,6,6,6,6,6,6,6,6,6,6,6,6,6,6,6,6,6,6,6,6,6,6,6,6,6,6,6,6,6,7,7,7,7,7,7,7,7,7,7,7,7,7,7,7,7,7,7,7,7,7,7,7,7,7,7,7,7,7,7,7,7,7,7,7,7,7,7,7,7,7,7,7,7,7,7,7,7,7,7,7,7,7,7,7,7,7,7,7,7,7,7,7,7,8,8,8,8,8,8,8,8,8,8,8,8,8,8,8,8,8,8,8,8,8,8,8,8,8,8,8,8,8,8,8,8,8,8,8,8,8,8,8,8,8,8,8,8,8,8,8,8,8,8,8,8,8,8,8,8,8,8,8,8,8,8,8,8,8,8,8,8,8,8,8,8,8,8,8,8,8,8,8,8,8,8,8,8,8,8,8,8,8,8,8,8,8,8,8,8,8,8,8,8,8,8,8,8,8,8,8,8,8,8,8,8,8,8,8,8,8,8,8,8,8,8,8,8,8,8,8,8]
namespace U31
def A:DE:=.f .ite [.f .leI [.k (.int 65536),.v 0],.f (.shr .u32) [.v 0,.k (.int 16)],.v 0]
def B:DE:=.f .ite [.f .leI [.k (.int 65536),.v 0],.k (.int 16),.k (.int 0)]
def C:DE:=.f .leI [.k (.int 256),A]
def M:DE:=.f .ite [C,.f (.shr .u32) [A,.k (.int 8)],A]
def N:DE:=.f .ite [C,.f (.add .i64) [B,.k (.int 8)],B]
def W:DE:=.f (.wrap .u8) [M]
def L:DE:=.f (.wrap .i64) [.f .at [.k (.bytes l8T),W]]
def I:DE:=.f (.wrap .u8) [.f (.add .i64) [N,L]]
end U31
def de31:DE:=.f (.wrap .i64) [.f .at [.k (.bytes uvT),U31.I]]
def ob31:List Ob:=[.idx U31.I (.k (.bytes uvT)) true,.idx U31.W (.k (.bytes l8T)) true]
theorem xLL:uvT.length=256:=by decide +kernel
theorem qDK:l8T.length=256:=by decide +kernel
theorem l8_le:∀m:Fin 256,(l8T.getD m.1 0).toNat<=8:=by decide +kernel
theorem tab0:∀m:Fin 256,(uvT.getD (0+(l8T.getD m.1 0).toNat) 0).toNat=if m.1<128 then 1 else 2:=by decide +kernel
theorem tab8:∀m:Fin 256,1<=m.1->(uvT.getD (8+(l8T.getD m.1 0).toNat) 0).toNat=if m.1<64 then 2 else 3:=by decide +kernel
theorem tab16:∀m:Fin 256,1<=m.1->(uvT.getD (16+(l8T.getD m.1 0).toNat) 0).toNat=if m.1<32 then 3 else 4:=by decide +kernel
theorem tab24:∀m:Fin 256,1<=m.1->(uvT.getD (24+(l8T.getD m.1 0).toNat) 0).toNat=if m.1<16 then 4 else 5:=by decide +kernel
theorem xNC(n:Nat):(zDA n).length=if 127<n then 1+(zDA (n / 128)).length else 1:=by
 rw[zDA];split
 ·rw[List.length_cons];omega
 ·rfl
theorem uvlen(n:Nat)(h:n<4294967296):(zDA n).length=if n<128 then 1 else if n<16384 then 2 else if n<2097152 then 3 else if n<268435456 then 4 else 5:=by
 have e1:=xNC n;have e2:=xNC (n / 128);have e3:=xNC (n / 128 / 128);have e4:=xNC (n / 128 / 128 / 128);have e5:=xNC (n / 128 / 128 / 128 / 128)
 repeat (first|omega|split at *)
theorem qLI(l:List UInt8)(i:Nat)(h:i<l.length):Fn.eval X .at [.bytes l,.int (i:Nat)] = .int (l.getD i 0).toNat:=by
 rw[zUF,Int.toNat_natCast];show (l.map fun x=>D.int x.toNat).getD i .nil=_;rw[List.getD_eq_getElem?_getD,List.getElem?_map,List.getD_eq_getElem?_getD,List.getElem?_eq_getElem h];rfl
theorem ev31(x:Int)(n:Nat)(h0:0<=x)(h1:x<4294967296):zCA X (Pre n) ob31 [.int x]/\de31.eval X [.int x]=X 31 [.int x]:=by
 obtain⟨k,rfl⟩:=Int.eq_ofNat_of_zero_le h0;have hk:k<4294967296:=by omega
 have s16:shrI (k:Int) 16 .u32=((k / 65536:Nat):Int):=zJK k 16 65536 (by decide) (by decide);have eA:U31.A.eval X [.int (k:Nat)] = .int ((if 65536<=k then k / 65536 else k:Nat):Int):=by
  simp only[U31.A,ev_f,zAA,zBA,ev_v,ev_k,List.getD_cons_zero,qJB,zME,zVA,s16];by_cases c:65536<=k
  ·rw[if_pos c,if_pos (by simpa using(by omega:(65536:Int)<=(k:Int)))]
  ·rw[if_neg c,if_neg (by simpa using(by omega:¬(65536:Int)<=(k:Int)))]
 have eB:U31.B.eval X [.int (k:Nat)] = .int ((if 65536<=k then 16 else 0:Nat):Int):=by
  simp only[U31.B,ev_f,zAA,zBA,ev_v,ev_k,List.getD_cons_zero,qJB,zVA];by_cases c:65536<=k
  ·rw[if_pos c,if_pos (by simpa using(by omega:(65536:Int)<=(k:Int)))];rfl
  ·rw[if_neg c,if_neg (by simpa using(by omega:¬(65536:Int)<=(k:Int)))];rfl
 generalize ha:(if 65536<=k then k / 65536 else k)=a at eA;generalize hb:(if 65536<=k then 16 else 0)=b at eB;have ha2:a<65536:=by rw[<- ha];split <;> omega
 have hb2:b<=16:=by rw[<- hb];split <;> omega
 have s8:shrI (a:Int) 8 .u32=((a / 256:Nat):Int):=zJK a 8 256 (by decide) (by decide);have eC:U31.C.eval X [.int (k:Nat)] = .bool (decide (256<=a)):=by
  simp only[U31.C,ev_f,zAA,zBA,ev_k,eA,qJB]
  congr 1
  by_cases c:256<=a
  ·rw[decide_eq_true c,decide_eq_true (by omega:(256:Int)<=(a:Int))]
  ·rw[decide_eq_false c,decide_eq_false (by omega:¬(256:Int)<=(a:Int))]
 have eM:U31.M.eval X [.int (k:Nat)] = .int ((if 256<=a then a / 256 else a:Nat):Int):=by
  simp only[U31.M,ev_f,zAA,zBA,ev_k,eA,eC,zME,zVA,s8];by_cases c:256<=a
  ·rw[if_pos c,if_pos (by simpa using c)]
  ·rw[if_neg c,if_neg (by simpa using c)]
 have eN:U31.N.eval X [.int (k:Nat)] = .int ((if 256<=a then b+8 else b:Nat):Int):=by
  simp only[U31.N,ev_f,zAA,zBA,ev_k,eB,eC,yDC,zVA];by_cases c:256<=a
  ·rw[if_pos c,if_pos (by simpa using c),qJI (by omega) (by omega)];rfl
  ·rw[if_neg c,if_neg (by simpa using c)]
 generalize hm:(if 256<=a then a / 256 else a)=m at eM;generalize hn:(if 256<=a then b+8 else b)=q at eN;have hm2:m<256:=by rw[<- hm];split <;> omega
 have hq2:q<=24:=by rw[<- hn];split <;> omega
 have eW:U31.W.eval X [.int (k:Nat)] = .int (m:Nat):=by
  rw[U31.W,ev_f,zAA,zBA,eM,zOA,qLF (by omega) (by omega)]
 have hl:=l8_le ⟨m,hm2⟩;simp only at hl;have eL:U31.L.eval X [.int (k:Nat)] = .int ((l8T.getD m 0).toNat:Nat):=by
  rw[U31.L,ev_f,zAA,zBA,ev_f,zAA,zAA,zBA,eW,ev_k,qLI _ _ (by rw[qDK];exact hm2),zOA,qJI (by omega) (by omega)]
 have eI:U31.I.eval X [.int (k:Nat)] = .int ((q+(l8T.getD m 0).toNat:Nat):Int):=by
  rw[U31.I,ev_f,zAA,zBA,ev_f,zAA,zAA,zBA,eN,eL,yDC,zOA,qJI (by omega) (by omega),qLF (by omega) (by omega)];rfl
 have hu:((uvT.getD (q+(l8T.getD m 0).toNat) 0).toNat:Nat)=(zDA k).length:=by
  rw[uvlen k hk];have t0:=tab0 ⟨m,hm2⟩;have t8:=tab8 ⟨m,hm2⟩;have t16:=tab16 ⟨m,hm2⟩;have t24:=tab24 ⟨m,hm2⟩;simp only at t0 t8 t16 t24;by_cases c1:65536<=k
  ·rw[if_pos c1] at ha hb;by_cases c2:256<=a
   ·rw[if_pos c2] at hm hn;have hq:q=24:=by omega
    rw[hq,t24 (by omega)]
    repeat (first|omega|split)
   ·rw[if_neg c2] at hm hn;have hq:q=16:=by omega
    rw[hq,t16 (by omega)]
    repeat (first|omega|split)
  ·rw[if_neg c1] at ha hb;by_cases c2:256<=a
   ·rw[if_pos c2] at hm hn;have hq:q=8:=by omega
    rw[hq,t8 (by omega)]
    repeat (first|omega|split)
   ·rw[if_neg c2] at hm hn;have hq:q=0:=by omega
    rw[hq,t0]
    repeat (first|omega|split)
 refine⟨⟨?_,?_,trivial⟩,?_⟩
 ·simp only[Ob.holds,eI,zKA,if_true,ev_k,Int.toNat_natCast];refine⟨Int.natCast_nonneg _,?_⟩;show _<uvT.length;rw[xLL];omega
 ·simp only[Ob.holds,eW,zKA,if_true,ev_k,Int.toNat_natCast];refine⟨Int.natCast_nonneg _,?_⟩;show _<l8T.length;rw[qDK];omega
 ·rw[de31,ev_f,zAA,zBA,ev_f,zAA,zAA,zBA,eI,ev_k,qLI _ _ (by rw[xLL];omega),hu,zOA,X_31,zKA,Int.toNat_natCast]
  have:=Uv5 hk
  rw[qJI (by omega) (by omega)]
end Go.Mx
namespace Go.Mx
open Go Go.Dx
inductive K where
 | int (k:IntKind)|bool|str|pstr|byts|tree|trees|tag|tags|fl|fls|msg|idt
deriving Repr,DecidableEq
def agg(P:Program)(t:TypeId):Bool:=match P.underlying t with|some d=>zHA d|none=>false
def sl(P:Program)(t:TypeId):Option TypeId:=match P.underlying t with|some (.slice e)=>some e|_=>none
def isI(P:Program)(k:IntKind)(t:TypeId):Bool:=match P.underlying t with|some (.int k')=>decide (k'=k)|_=>false
def isBo(P:Program)(t:TypeId):Bool:=match P.underlying t with|some .bool=>true|_=>false
def isSt(P:Program)(t:TypeId):Bool:=match P.underlying t with|some .string=>true|_=>false
def isPs(P:Program)(t:TypeId):Bool:=match P.underlying t with|some (.pointer e)=>isSt P e|_=>false
def isBy(P:Program)(t:TypeId):Bool:=match sl P t with|some e=>isI P .u8 e|none=>false
def yPH(P:Program)(t:TypeId):Bool:=agg P t&&match tys P t with|[a,b]=>isI P .u32 a&&isBy P b|_=>false
def zTG(P:Program)(t:TypeId):Bool:=match sl P t with|some e=>yPH P e|none=>false
def xFC(P:Program)(t:TypeId):Bool:=agg P t&&match tys P t with|[a,b,c,d,e]=>isI P .i64 a&&isBy P b&&isBo P c&&decide (sl P d=some t)&&zTG P e|_=>false
def qBK(P:Program)(t:TypeId):Bool:=match sl P t with|some e=>xFC P e|none=>false
def isFl(P:Program)(t:TypeId):Bool:=agg P t&&match tys P t with|[a,b,c,d,e,f,g,h]=>isI P .i64 a&&isI P .i64 b&&isI P .i64 c&&isI P .i64 d&&isI P .i64 e&&isI P .i64 f&&isI P .i64 g&&decide (sl P h=some t)|_=>false
def isFls(P:Program)(t:TypeId):Bool:=match sl P t with|some e=>isFl P e|none=>false
def isMsg(P:Program)(t:TypeId):Bool:=agg P t&&match tys P t with|[a,b]=>isFls P a&&isI P .i64 b|_=>false
def isId(P:Program)(t:TypeId):Bool:=agg P t&&match tys P t with|[a,b]=>isBo P a&&isSt P b|_=>false
def isK(P:Program):K->TypeId->Bool
 | .int k=>isI P k | .bool=>isBo P | .str=>isSt P | .pstr=>isPs P | .byts=>isBy P | .tree=>xFC P | .trees=>qBK P | .tag=>yPH P | .tags=>zTG P | .fl=>isFl P | .fls=>isFls P | .msg=>isMsg P | .idt=>isId P
def KOk:K->D->Prop
 | .int k,d=>∃n,d = .int n/\(Lit.int k n).wf=true
 | .bool,d=>∃b,d = .bool b
 | .str,d=>∃s,d = .str s
 | .pstr,d=>∃s,d=encP s
 | .byts,d=>∃s,d=encB s
 | .tree,d=>∃t:T,d=t.d
 | .trees,d=>∃l,d=encT l
 | .tag,d=>∃t:Tg,d=t.d
 | .idt,d=>∃(b:Bool) (s:List UInt8),d = .row [.bool b,.str s]
 | .tags,d=>∃l,d=encU l
 | .fl,d=>∃f:Fl,d=f.d
 | .fls,d=>∃l,d=encF l
 | .msg,d=>∃fs fx,d = .row [encF fs,.int fx]
section
variable {P:Program} {ok:Nat->Prop} {w:World}
theorem yPL{t e:TypeId}(h:sl P t=some e):P.underlying t=some (.slice e):=by
 unfold sl at h;split at h
 ·rename_i e' hu;cases h;exact hu
 ·cases h
theorem zNJ{t:TypeId}{k:IntKind}(h:isI P k t=true):P.underlying t=some (.int k):=by
 unfold isI at h;split at h
 ·rename_i k' hu;rw[of_decide_eq_true h] at hu;exact hu
 ·cases h
theorem isBo_eq{t:TypeId}(h:isBo P t=true):P.underlying t=some .bool:=by
 unfold isBo at h;split at h
 ·assumption
 ·cases h
theorem isSt_eq{t:TypeId}(h:isSt P t=true):P.underlying t=some .string:=by
 unfold isSt at h;split at h
 ·assumption
 ·cases h
theorem zQH{t:TypeId}(h:agg P t=true):∃d,P.underlying t=some d/\zHA d=true:=by
 unfold agg at h;split at h
 ·rename_i d hu;exact⟨d,hu,h⟩
 ·cases h
theorem yFI{t:TypeId}(h:isBy P t=true):∃e,P.underlying t=some (.slice e)/\P.underlying e=some (.int .u8):=by
 unfold isBy at h;split at h
 ·rename_i e he;exact⟨e,yPL he,zNJ h⟩
 ·cases h
theorem xAB{t:TypeId}{k:IntKind}{v:Value}{d:D}(h:isI P k t=true)(hr:Rep P ok w t v d):KOk (.int k) d:=by
 have hu:=zNJ h;cases hr with
 | int hu' hw=>rw[hu] at hu';cases hu';exact⟨_,rfl,hw⟩
 | row hu' hd=>rw[hu] at hu';cases hu';simp[zHA] at hd
 | _=>simp_all
theorem qTG{t:TypeId}{v:Value}{d:D}(h:isBo P t=true)(hr:Rep P ok w t v d):KOk .bool d:=by
 have hu:=isBo_eq h;cases hr with
 | bool=>exact⟨_,rfl⟩
 | row hu' hd=>rw[hu] at hu';cases hu';simp[zHA] at hd
 | _=>simp_all
theorem xII{t:TypeId}{v:Value}{d:D}(h:isSt P t=true)(hr:Rep P ok w t v d):KOk .str d:=by
 have hu:=isSt_eq h;cases hr with
 | str=>exact⟨_,rfl⟩
 | row hu' hd=>rw[hu] at hu';cases hu';simp[zHA] at hd
 | _=>simp_all
theorem rep_pstr{t:TypeId}{v:Value}{d:D}(h:isPs P t=true)(hr:Rep P ok w t v d):KOk .pstr d:=by
 unfold isPs at h;split at h
 ·rename_i e hu;cases hr with
  | pnil=>exact⟨none,rfl⟩
  | ptr hu' _ _ hr' =>
   rw[hu] at hu';cases hu'
   obtain⟨s,rfl⟩:=xII h hr';exact⟨some s,rfl⟩
  | row hu' hd=>rw[hu] at hu';cases hu';simp[zHA] at hd
  | _=>simp_all
 ·cases h
theorem qUG{t:TypeId}{v:Value}{d:D}(h:isBy P t=true)(hr:Rep P ok w t v d):KOk .byts d:=by
 obtain⟨e,hu,he⟩:=yFI h;cases hr with
 | snil=>exact⟨none,rfl⟩
 | bytes=>exact⟨some _,rfl⟩
 | list hu' he'=>rw[hu] at hu';cases hu';exact absurd he he'
 | row hu' hd=>rw[hu] at hu';cases hu';simp[zHA] at hd
 | _=>simp_all
theorem xHF{t:TypeId}{v:Value}{d:D}(h:agg P t=true)(hr:Rep P ok w t v d):∃ds,d = .row ds/\ds.length=(tys P t).length /\ ∀(j:Nat) (u:TypeId) (x:D),(tys P t)[j]? = some u->ds[j]? = some x -> ∃v',Rep P ok w u v' x:=by
 obtain⟨dd,hu,ha⟩:=zQH h;cases hr with
 | row hu' hd hlen hlen' h1 hr =>
  rename_i vs ds;refine⟨ds,rfl,hlen',fun j u x hj hx=>?_⟩;have hj2:j<vs.length:=by rw[hlen];exact(List.getElem?_eq_some_iff.1 hj).1
  exact⟨vs[j],hr j u _ x hj (List.getElem?_eq_getElem hj2) hx⟩
 | int hu'=>rw[hu] at hu';cases hu';simp[zHA] at ha
 | bool hu'=>rw[hu] at hu';cases hu';simp[zHA] at ha
 | str hu'=>rw[hu] at hu';cases hu';simp[zHA] at ha
 | flt hu'=>rw[hu] at hu';cases hu';simp[zHA] at ha
 | snil hu'=>rw[hu] at hu';cases hu';simp[zHA] at ha
 | bytes hu'=>rw[hu] at hu';cases hu';simp[zHA] at ha
 | list hu'=>rw[hu] at hu';cases hu';simp[zHA] at ha
 | pnil hu'=>rw[hu] at hu';cases hu';simp[zHA] at ha
 | ptr hu'=>rw[hu] at hu';cases hu';simp[zHA] at ha
 | mnil hu'=>rw[hu] at hu';cases hu';simp[zHA] at ha
 | map hu'=>rw[hu] at hu';cases hu';simp[zHA] at ha
theorem yGJ{t e:TypeId}{v:Value}{d:D}(h:sl P t=some e)(ha:agg P e=true)(hr:Rep P ok w t v d):d = .nil ∨ ∃ds,d = .list ds /\ ∀x∈ds,∃v',Rep P ok w e v' x:=by
 have hu:=yPL h;obtain⟨dd,hue,hae⟩:=zQH ha;cases hr with
 | snil=>exact .inl rfl
 | bytes hu' he=>rw[hu] at hu';cases hu';rw[hue] at he;cases he;simp[zHA] at hae
 | list hu' he hi hok hlen hcap hmax hsz hc hr =>
  rw[hu] at hu';cases hu'
  rename_i vs ds;refine .inr ⟨ds,rfl,fun x hx=>?_⟩;obtain⟨j,hj,hjx⟩:=List.mem_iff_getElem.1 hx;have hj2:j<vs.length:=by omega
  exact⟨vs[j],hr j _ x (List.getElem?_eq_getElem hj2) (by rw[List.getElem?_eq_getElem hj,hjx])⟩
 | row hu' hd=>rw[hu] at hu';cases hu';simp[zHA] at hd
 | _=>simp_all
theorem yTD{A:Type}{f:A->D}:∀ {ds:List D},(∀x∈ds,∃a,x=f a) -> ∃l:List A,ds=l.map f
 | [],_=>⟨[],rfl⟩
 | d::ds,h=>by
  obtain⟨a,ha⟩:=h d (by simp);obtain⟨l,hl⟩:=yTD (f:=f) (ds:=ds) (fun x hx=>h x (by simp[hx]));exact⟨a::l,by simp[ha,hl]⟩
theorem zRL{t:TypeId}{v:Value}{d:D}(h:yPH P t=true)(hr:Rep P ok w t v d):KOk .tag d:=by
 unfold yPH at h;simp only[Bool.and_eq_true] at h;obtain⟨ha,h⟩:=h;obtain⟨ds,rfl,hlen,hcell⟩:=xHF ha hr;split at h
 ·rename_i a b hty;simp only[Bool.and_eq_true] at h;rw[hty] at hlen hcell
  match ds,hlen with
  | [x,y],_ =>
   obtain⟨v1,r1⟩:=hcell 0 a x rfl rfl;obtain⟨v2,r2⟩:=hcell 1 b y rfl rfl;obtain⟨n,rfl,_⟩:=xAB h.1 r1;obtain⟨s,rfl⟩:=qUG h.2 r2;exact⟨⟨n,s⟩,rfl⟩
 ·cases h
theorem rep_id{t:TypeId}{v:Value}{d:D}(h:isId P t=true)(hr:Rep P ok w t v d):KOk .idt d:=by
 unfold isId at h;simp only[Bool.and_eq_true] at h;obtain⟨ha,h⟩:=h;obtain⟨ds,rfl,hlen,hcell⟩:=xHF ha hr;split at h
 ·rename_i a b hty;simp only[Bool.and_eq_true] at h;rw[hty] at hlen hcell
  match ds,hlen with
  | [x,y],_ =>
   obtain⟨v1,r1⟩:=hcell 0 a x rfl rfl;obtain⟨v2,r2⟩:=hcell 1 b y rfl rfl;obtain⟨n,rfl⟩:=qTG h.1 r1;obtain⟨s,rfl⟩:=xII h.2 r2;exact⟨n,s,rfl⟩
 ·cases h
theorem yQH{t:TypeId}(h:yPH P t=true):agg P t=true:=by
 unfold yPH at h;simp only[Bool.and_eq_true] at h;exact h.1
theorem zUG{t:TypeId}(h:xFC P t=true):agg P t=true:=by
 unfold xFC at h;simp only[Bool.and_eq_true] at h;exact h.1
theorem isFl_agg{t:TypeId}(h:isFl P t=true):agg P t=true:=by
 unfold isFl at h;simp only[Bool.and_eq_true] at h;exact h.1
theorem yHJ{t:TypeId}{v:Value}{d:D}(h:zTG P t=true)(hr:Rep P ok w t v d):KOk .tags d:=by
 unfold zTG at h;split at h
 ·rename_i e he;rcases yGJ he (yQH h) hr with rfl|⟨ds,rfl,hx⟩
  ·exact⟨none,rfl⟩
  ·obtain⟨l,rfl⟩:=yTD (f:=Tg.d) (fun x hx'=>by obtain⟨v',r⟩:=hx x hx';exact zRL h r);exact⟨some l,rfl⟩
 ·cases h
theorem xIF{t:TypeId}{v:Value}{d:D}(hr:Rep P ok w t v d):(xFC P t=true->KOk .tree d) /\ ∀e,sl P t=some e->xFC P e=true->KOk .trees d:=by
 have noAgg:∀ {t:TypeId} {d:TypeDesc},P.underlying t=some d->zHA d=false -> ¬xFC P t=true:=fun hu hd h=>by
  obtain⟨d',hu',ha⟩:=zQH (zUG h);rw[hu] at hu';cases hu';rw[hd] at ha;cases ha
 have noSl:∀ {t e:TypeId} {d:TypeDesc},P.underlying t=some d->sl P t=some e->d = .slice e:=fun hu h=>by
  have:=yPL h
  rw[hu] at this;cases this;rfl
 induction hr with
 | int hu _=>exact⟨fun h=>absurd h (noAgg hu rfl),fun e he=>absurd (noSl hu he) (by simp)⟩
 | bool hu=>exact⟨fun h=>absurd h (noAgg hu rfl),fun e he=>absurd (noSl hu he) (by simp)⟩
 | str hu _=>exact⟨fun h=>absurd h (noAgg hu rfl),fun e he=>absurd (noSl hu he) (by simp)⟩
 | flt hu=>exact⟨fun h=>absurd h (noAgg hu rfl),fun e he=>absurd (noSl hu he) (by simp)⟩
 | snil hu=>exact⟨fun h=>absurd h (noAgg hu rfl),fun e he ht=>⟨none,rfl⟩⟩
 | bytes hu he8 _ _ _ _ =>
  refine⟨fun h=>absurd h (noAgg hu rfl),fun e he ht=>?_⟩
  have:=noSl hu he
  cases this;exact absurd ht (noAgg he8 rfl)
 | list hu he8 hi hok hlen hcap hmax hsz hc hr ih =>
  rename_i t' e' cap ad i vs ds;refine⟨fun h=>absurd h (noAgg hu rfl),fun e he ht=>?_⟩
  have:=noSl hu he
  cases this;obtain⟨l,rfl⟩:=yTD (f:=T.d) (ds:=ds) (fun x hx=>by
   obtain⟨j,hj,hjx⟩:=List.mem_iff_getElem.1 hx;have hj2:j<vs.length:=by omega
   exact(ih j _ x (List.getElem?_eq_getElem hj2) (by rw[List.getElem?_eq_getElem hj,hjx])).1 ht)
  exact⟨some l,by simp[encT,zBE]⟩
 | row hu hd hlen hlen' h1 hr ih =>
  rename_i t' d' vs ds;refine⟨fun h=>?_,fun e he ht=>?_⟩
  rotate_left
  ·have:=noSl hu he
   subst this;simp[zHA] at hd
  have h0:=h;unfold xFC at h;simp only[Bool.and_eq_true] at h;obtain⟨ha,h⟩:=h;split at h
  ·rename_i a b c d'' e hty;simp only[Bool.and_eq_true,decide_eq_true_eq] at h;obtain⟨⟨⟨⟨q1,q2⟩,q3⟩,q4⟩,q5⟩:=h;have cell:∀(j:Nat) (u:TypeId) (x:D),(tys P t')[j]? = some u->ds[j]? = some x -> ∃v',vs[j]? = some v':=fun j u x hj hx=>by
    have hj2:j<vs.length:=by rw[hlen];exact(List.getElem?_eq_some_iff.1 hj).1
    exact⟨vs[j],List.getElem?_eq_getElem hj2⟩
   rw[hty] at hlen' hr ih cell
   match ds,hlen' with
   | [x1,x2,x3,x4,x5],_ =>
    obtain⟨v1,r1⟩:=cell 0 a x1 rfl rfl;obtain⟨v2,r2⟩:=cell 1 b x2 rfl rfl;obtain⟨v3,r3⟩:=cell 2 c x3 rfl rfl;obtain⟨v4,r4⟩:=cell 3 d'' x4 rfl rfl;obtain⟨v5,r5⟩:=cell 4 e x5 rfl rfl;obtain⟨n,rfl,_⟩:=xAB q1 (hr 0 a v1 x1 rfl r1 rfl);obtain⟨s,rfl⟩:=qUG q2 (hr 1 b v2 x2 rfl r2 rfl);obtain⟨bb,rfl⟩:=qTG q3 (hr 2 c v3 x3 rfl r3 rfl);obtain⟨l,rfl⟩:=(ih 3 d'' v4 x4 rfl r4 rfl).2 t' q4 h0;obtain⟨u,rfl⟩:=yHJ q5 (hr 4 e v5 x5 rfl r5 rfl);exact⟨.mk n s bb l u,by simp[T.d]⟩
  ·cases h
 | pnil hu=>exact⟨fun h=>absurd h (noAgg hu rfl),fun e he=>absurd (noSl hu he) (by simp)⟩
 | ptr hu _ _ _ _=>exact⟨fun h=>absurd h (noAgg hu rfl),fun e he=>absurd (noSl hu he) (by simp)⟩
 | mnil hu=>exact⟨fun h=>absurd h (noAgg hu rfl),fun e he=>absurd (noSl hu he) (by simp)⟩
 | map hu _ _ _ _ _ _ _ _ _ _=>exact⟨fun h=>absurd h (noAgg hu rfl),fun e he=>absurd (noSl hu he) (by simp)⟩
theorem xHI{t:TypeId}{v:Value}{d:D}(hr:Rep P ok w t v d):(isFl P t=true->KOk .fl d) /\ ∀e,sl P t=some e->isFl P e=true->KOk .fls d:=by
 have noAgg:∀ {t:TypeId} {d:TypeDesc},P.underlying t=some d->zHA d=false -> ¬isFl P t=true:=fun hu hd h=>by
  obtain⟨d',hu',ha⟩:=zQH (isFl_agg h);rw[hu] at hu';cases hu';rw[hd] at ha;cases ha
 have noSl:∀ {t e:TypeId} {d:TypeDesc},P.underlying t=some d->sl P t=some e->d = .slice e:=fun hu h=>by
  have:=yPL h
  rw[hu] at this;cases this;rfl
 induction hr with
 | int hu _=>exact⟨fun h=>absurd h (noAgg hu rfl),fun e he=>absurd (noSl hu he) (by simp)⟩
 | bool hu=>exact⟨fun h=>absurd h (noAgg hu rfl),fun e he=>absurd (noSl hu he) (by simp)⟩
 | str hu _=>exact⟨fun h=>absurd h (noAgg hu rfl),fun e he=>absurd (noSl hu he) (by simp)⟩
 | flt hu=>exact⟨fun h=>absurd h (noAgg hu rfl),fun e he=>absurd (noSl hu he) (by simp)⟩
 | snil hu=>exact⟨fun h=>absurd h (noAgg hu rfl),fun e he ht=>⟨none,rfl⟩⟩
 | bytes hu he8 _ _ _ _ =>
  refine⟨fun h=>absurd h (noAgg hu rfl),fun e he ht=>?_⟩
  have:=noSl hu he
  cases this;exact absurd ht (noAgg he8 rfl)
 | list hu he8 hi hok hlen hcap hmax hsz hc hr ih =>
  rename_i t' e' cap ad i vs ds;refine⟨fun h=>absurd h (noAgg hu rfl),fun e he ht=>?_⟩
  have:=noSl hu he
  cases this;obtain⟨l,rfl⟩:=yTD (f:=Fl.d) (ds:=ds) (fun x hx=>by
   obtain⟨j,hj,hjx⟩:=List.mem_iff_getElem.1 hx;have hj2:j<vs.length:=by omega
   exact(ih j _ x (List.getElem?_eq_getElem hj2) (by rw[List.getElem?_eq_getElem hj,hjx])).1 ht)
  exact⟨some l,by simp[encF,xPG]⟩
 | row hu hd hlen hlen' h1 hr ih =>
  rename_i t' d' vs ds;refine⟨fun h=>?_,fun e he ht=>?_⟩
  rotate_left
  ·have:=noSl hu he
   subst this;simp[zHA] at hd
  have h0:=h;unfold isFl at h;simp only[Bool.and_eq_true] at h;obtain⟨ha,h⟩:=h;split at h
  ·rename_i a b c d'' e f g hh hty;simp only[Bool.and_eq_true,decide_eq_true_eq] at h;obtain⟨⟨⟨⟨⟨⟨⟨q1,q2⟩,q3⟩,q4⟩,q5⟩,q6⟩,q7⟩,q8⟩:=h;have cell:∀(j:Nat) (u:TypeId) (x:D),(tys P t')[j]? = some u->ds[j]? = some x -> ∃v',vs[j]? = some v':=fun j u x hj hx=>by
    have hj2:j<vs.length:=by rw[hlen];exact(List.getElem?_eq_some_iff.1 hj).1
    exact⟨vs[j],List.getElem?_eq_getElem hj2⟩
   rw[hty] at hlen' hr ih cell
   match ds,hlen' with
   | [x1,x2,x3,x4,x5,x6,x7,x8],_ =>
    obtain⟨v1,r1⟩:=cell 0 a x1 rfl rfl;obtain⟨v2,r2⟩:=cell 1 b x2 rfl rfl;obtain⟨v3,r3⟩:=cell 2 c x3 rfl rfl;obtain⟨v4,r4⟩:=cell 3 d'' x4 rfl rfl;obtain⟨v5,r5⟩:=cell 4 e x5 rfl rfl;obtain⟨v6,r6⟩:=cell 5 f x6 rfl rfl;obtain⟨v7,r7⟩:=cell 6 g x7 rfl rfl;obtain⟨v8,r8⟩:=cell 7 hh x8 rfl rfl;obtain⟨n1,rfl,_⟩:=xAB q1 (hr 0 a v1 x1 rfl r1 rfl);obtain⟨n2,rfl,_⟩:=xAB q2 (hr 1 b v2 x2 rfl r2 rfl);obtain⟨n3,rfl,_⟩:=xAB q3 (hr 2 c v3 x3 rfl r3 rfl);obtain⟨n4,rfl,_⟩:=xAB q4 (hr 3 d'' v4 x4 rfl r4 rfl);obtain⟨n5,rfl,_⟩:=xAB q5 (hr 4 e v5 x5 rfl r5 rfl);obtain⟨n6,rfl,_⟩:=xAB q6 (hr 5 f v6 x6 rfl r6 rfl);obtain⟨n7,rfl,_⟩:=xAB q7 (hr 6 g v7 x7 rfl r7 rfl);obtain⟨l,rfl⟩:=(ih 7 hh v8 x8 rfl r8 rfl).2 t' q8 h0;exact⟨.mk n1 n2 n3 n4 n5 n6 n7 l,by simp[Fl.d]⟩
  ·cases h
 | pnil hu=>exact⟨fun h=>absurd h (noAgg hu rfl),fun e he=>absurd (noSl hu he) (by simp)⟩
 | ptr hu _ _ _ _=>exact⟨fun h=>absurd h (noAgg hu rfl),fun e he=>absurd (noSl hu he) (by simp)⟩
 | mnil hu=>exact⟨fun h=>absurd h (noAgg hu rfl),fun e he=>absurd (noSl hu he) (by simp)⟩
 | map hu _ _ _ _ _ _ _ _ _ _=>exact⟨fun h=>absurd h (noAgg hu rfl),fun e he=>absurd (noSl hu he) (by simp)⟩
theorem isK_ok{k:K}{t:TypeId}{v:Value}{d:D}(h:isK P k t=true)(hr:Rep P ok w t v d):KOk k d:=by
 cases k with
 | int k=>exact xAB h hr
 | bool=>exact qTG h hr
 | str=>exact xII h hr
 | pstr=>exact rep_pstr h hr
 | byts=>exact qUG h hr
 | tree=>exact(xIF hr).1 h
 | trees =>
  simp only[isK,qBK] at h;split at h
  ·rename_i e he;exact(xIF hr).2 e he h
  ·cases h
 | tag=>exact zRL h hr
 | tags=>exact yHJ h hr
 | fl=>exact(xHI hr).1 h
 | fls =>
  simp only[isK,isFls] at h;split at h
  ·rename_i e he;exact(xHI hr).2 e he h
  ·cases h
 | idt=>exact rep_id h hr
 | msg =>
  simp only[isK,isMsg,Bool.and_eq_true] at h;obtain⟨ha,h⟩:=h;obtain⟨ds,rfl,hlen,hcell⟩:=xHF ha hr;split at h
  ·rename_i a b hty;simp only[Bool.and_eq_true] at h;rw[hty] at hlen hcell
   match ds,hlen with
   | [x,y],_ =>
    obtain⟨v1,r1⟩:=hcell 0 a x rfl rfl;obtain⟨v2,r2⟩:=hcell 1 b y rfl rfl;obtain⟨n,rfl,_⟩:=xAB h.2 r2;have h1:=h.1;unfold isFls at h1;split at h1
    ·rename_i e he;obtain⟨s,rfl⟩:=(xHI r1).2 e he h1;exact⟨s,n,rfl⟩
    ·cases h1
  ·cases h
end
def isA(P:Program):K->AK->Bool
 | k,.val t=>isK P k t
 | .byts,.own t=>isBy P t
 | .byts,.rd t=>isBy P t
 | _,_=>false
def areA(P:Program):List K->List AK->Bool
 | [],[]=>true
 | k::ks,a::as=>isA P k a&&areA P ks as
 | _,_=>false
inductive KsOk:List K->List D->Prop where
 | nil:KsOk [] []
 | cons {k d ks ds} (h:KOk k d) (hs:KsOk ks ds):KsOk (k::ks) (d::ds)
theorem own_byts{P:Program}{ok:Nat->Prop}{w:World}{t:TypeId}{v:Value}{d:D}(h:isBy P t=true)(hr:yVA P ok w t v d):KOk .byts d:=by
 obtain⟨e,hu,he⟩:=yFI h;obtain⟨e',i,n,xs,hu',hi,hown,hD⟩:=hr;rw[hu] at hu';cases hu'
 cases hD with
 | nil=>exact⟨none,rfl⟩
 | bytes=>exact⟨some _,rfl⟩
 | list _ he'=>exact absurd he he'
theorem yRE{P:Program}{ok:Nat->Prop}{w:World}:∀ {ks:List K} {as:List AK} {vs:List Value} {ds:List D},areA P ks as=true->ArgsOk P ok w as vs ds->KsOk ks ds
 | [],[],_,_,_,h=>by cases h;exact .nil
 | k::ks,a::as,_,_,h,.cons hr hs=>by
  simp only[areA,Bool.and_eq_true] at h;refine .cons ?_ (yRE h.2 hs);have h1:=h.1;cases hr with
  | val hr=>exact isK_ok h1 hr
  | own hr =>
   cases k <;> simp only[isA,Bool.false_eq_true] at h1
   exact own_byts h1 hr
  | mcell=>cases k <;> simp[isA] at h1
  | wcell=>cases k <;> simp[isA] at h1
  | ccell=>cases k <;> simp[isA] at h1
  | rd hh ht h1' hr =>
   cases k <;> simp only[isA,Bool.false_eq_true] at h1
   exact isK_ok (k:=.byts) h1 hr
 | [],_::_,_,_,h,_=>by simp[areA] at h
 | _::_,[],_,_,h,_=>by simp[areA] at h
end Go.Mx
namespace Go.Mx
open Go Go.Dx
def deK:Nat->DE
 | 2=>de2
 | 3=>de3
 | 4=>de4
 | 5=>de5
 | 6=>de6
 | 7=>de7
 | 10=>de10
 | 11=>de11
 | 12=>de12
 | 13=>de13
 | 14=>de14
 | 15=>de15
 | 17=>de17
 | 19=>de19
 | 20=>de20
 | 21=>de21
 | 22=>de22
 | 29=>de29
 | 30=>de30
 | 31=>de31
 | 40=>de40
 | 41=>de41
 | 42=>de42
 | 45=>de45
 | 46=>de46
 | 47=>de47
 | 48=>de48
 | 49=>de49
 | 50=>de50
 | 51=>de51
 | 52=>de52
 | 53=>de53
 | 54=>de54
 | 55=>de55
 | 56=>de56
 | 57=>de57
 | 58=>de58
 | 59=>de59
 | _=>.k .nil
def obK:Nat->List Ob
 | 2=>ob2
 | 3=>ob3
 | 4=>ob4
 | 5=>ob5
 | 6=>ob6
 | 7=>ob7
 | 10=>ob10
 | 11=>ob11
 | 12=>ob12
 | 13=>ob13
 | 14=>ob14
 | 15=>ob15
 | 17=>ob17
 | 19=>ob19
 | 20=>ob20
 | 21=>ob21
 | 22=>ob22
 | 29=>ob29
 | 30=>ob30
 | 31=>ob31
 | 40=>ob40
 | 41=>ob41
 | 42=>ob42
 | 45=>ob45
 | 46=>ob46
 | 47=>ob47
 | 48=>ob48
 | 49=>ob49
 | 50=>ob50
 | 51=>ob51
 | 52=>ob52
 | 53=>ob53
 | 54=>ob54
 | 55=>ob55
 | 56=>ob56
 | 57=>ob57
 | 58=>ob58
 | 59=>ob59
 | _=>[]
def sig:Nat->List K
 | 2=>[.byts,.bool]
 | 3=>[.byts,.int .i8]
 | 4=>[.byts,.int .i16]
 | 5=>[.byts,.int .u16]
 | 6=>[.byts,.int .i32]
 | 7=>[.byts,.int .i64]
 | 10=>[.byts,.int .u32]
 | 11=>[.byts,.str]
 | 12=>[.byts,.str]
 | 13=>[.byts,.pstr]
 | 14=>[.byts,.pstr]
 | 15=>[.byts,.byts]
 | 17=>[.byts,.byts]
 | 19=>[.byts,.int .i64]
 | 20=>[.byts,.int .i64]
 | 21=>[.byts,.int .i64,.bool]
 | 22=>[.byts,.int .i64,.bool]
 | 29=>[.byts,.int .u64]
 | 30=>[.byts,.int .u32]
 | 31=>[.int .u32]
 | 40=>[.tree,.int .i64]
 | 41=>[.fls,.tags]
 | 42=>[.fl,.int .i64,.tree]
 | 45=>[.int .i64,.int .i64]
 | 46=>[.int .u64]
 | 47=>[.fls,.int .i64,.bool,.tree]
 | 48=>[.int .i64,.fls,.bool,.int .i64,.bool,.tree]
 | 49=>[.fl,.int .i64,.bool,.tree]
 | 50=>[.fl,.tree]
 | 51=>[.fls]
 | 52=>[.byts,.byts]
 | 53=>[.bool,.bool,.int .i64,.int .i64]
 | 54=>[.tree]
 | 55=>[.int .i64]
 | 56=>[.fl,.int .i64,.tree]
 | 57=>[.fl,.int .i64]
 | 58=>[.int .u8,.int .i64]
 | 59=>[.msg,.int .i64,.tree]
 | _=>[]
def rank:Nat->Nat
 | 4=>1
 | 6=>1
 | 7=>1
 | 10=>1
 | 11=>2
 | 12=>2
 | 13=>3
 | 14=>3
 | 15=>2
 | 17=>3
 | 19=>2
 | 20=>2
 | 21=>2
 | 22=>2
 | 41=>1
 | 42=>5
 | 47=>5
 | 48=>5
 | 49=>5
 | 50=>5
 | 53=>1
 | 59=>6
 | _=>0
def known?:Nat->Bool
 | 2=>true
 | 3=>true
 | 4=>true
 | 5=>true
 | 6=>true
 | 7=>true
 | 10=>true
 | 11=>true
 | 12=>true
 | 13=>true
 | 14=>true
 | 15=>true
 | 17=>true
 | 19=>true
 | 20=>true
 | 21=>true
 | 22=>true
 | 29=>true
 | 30=>true
 | 31=>true
 | 40=>true
 | 41=>true
 | 42=>true
 | 45=>true
 | 46=>true
 | 47=>true
 | 48=>true
 | 49=>true
 | 50=>true
 | 51=>true
 | 52=>true
 | 53=>true
 | 54=>true
 | 55=>true
 | 56=>true
 | 57=>true
 | 58=>true
 | 59=>true
 | _=>false
theorem wf_u8{n:Int}(h:(Lit.int .u8 n).wf=true):0<=n/\n<256:=by
 simp[Lit.wf,IntKind.min,IntKind.max,IntKind.signed,IntKind.bits] at h;omega
theorem xIJ{n:Int}(h:(Lit.int .u32 n).wf=true):0<=n/\n<4294967296:=by
 simp[Lit.wf,IntKind.min,IntKind.max,IntKind.signed,IntKind.bits] at h;omega
theorem wf_u64{n:Int}(h:(Lit.int .u64 n).wf=true):0<=n/\n<18446744073709551616:=by
 simp[Lit.wf,IntKind.min,IntKind.max,IntKind.signed,IntKind.bits] at h;omega
mutual
theorem Ob.mono{Y:Nat->List D->D}{P Q:Nat->List D->Prop}(h:∀k ds,P k ds->Q k ds):∀(o:Ob) (J:List D),o.holds Y P J->o.holds Y Q J
 | .room _ _,_,ho=>ho
 | .cap _ _,_,ho=>ho
 | .nz _,_,ho=>ho
 | .ge0 _,_,ho=>ho
 | .term _ _ _ _,_,ho=>ho
 | .idx _ _ _,_,ho=>ho
 | .pre _ _,_,ho=>h _ _ ho
 | .all _ _ _ os,_,ho=>fun k hk=>Obs.mono h os _ (ho k hk)
 | .when _ _ os,_,ho=>fun hc=>Obs.mono h os _ (ho hc)
theorem Obs.mono{Y:Nat->List D->D}{P Q:Nat->List D->Prop}(h:∀k ds,P k ds->Q k ds):∀(os:List Ob) (J:List D),zCA Y P os J->zCA Y Q os J
 | [],_,_=>trivial
 | o::os,_,ho=>⟨Ob.mono h o _ ho.1,Obs.mono h os _ ho.2⟩
end
theorem yQA{n k:Nat}{ds:List D}(h:Pre n k ds):side k ds:=h.2
theorem yUD{P:Program}{Y:Nat->List D->D}{A B:Nat->List D->Prop}{f:FuncId}{c:Ctr}(h:∀ds,B c.fn ds->A c.fn ds)(hc:zMB P Y A f c):zMB P Y B f c :=
 ⟨hc.1,fun ok w vs ds h1 h2 h3 h4=>hc.2 ok w vs ds h1 h2 h3 (fun hp=>h ds (h4 hp))⟩
theorem evA2:∀(ds:List D),KsOk (sig 2) ds->side 2 ds->zCA X side (obK 2) ds/\(deK 2).eval X ds=X 2 ds:=fun ds hk h=>by
 obtain @⟨⟩ | @⟨_,d1,_,_,k1,hk⟩:=hk;obtain @⟨⟩ | @⟨_,d2,_,_,k2,hk⟩:=hk;cases hk;obtain⟨x1,rfl⟩:=k1;obtain⟨x2,rfl⟩:=k2;have e:=ev2 x1 x2 0 h;exact⟨Obs.mono (fun _ _ h=>yQA h) _ _ e.1,e.2⟩
theorem evA3:∀(ds:List D),KsOk (sig 3) ds->side 3 ds->zCA X side (obK 3) ds/\(deK 3).eval X ds=X 3 ds:=fun ds hk h=>by
 obtain @⟨⟩ | @⟨_,d1,_,_,k1,hk⟩:=hk;obtain @⟨⟩ | @⟨_,d2,_,_,k2,hk⟩:=hk;cases hk;obtain⟨x1,rfl⟩:=k1;obtain⟨x2,rfl,w2⟩:=k2;have e:=ev3 x1 x2 0 h;exact⟨Obs.mono (fun _ _ h=>yQA h) _ _ e.1,e.2⟩
theorem evA4:∀(ds:List D),KsOk (sig 4) ds->side 4 ds->zCA X side (obK 4) ds/\(deK 4).eval X ds=X 4 ds:=fun ds hk h=>by
 obtain @⟨⟩ | @⟨_,d1,_,_,k1,hk⟩:=hk;obtain @⟨⟩ | @⟨_,d2,_,_,k2,hk⟩:=hk;cases hk;obtain⟨x1,rfl⟩:=k1;obtain⟨x2,rfl,w2⟩:=k2;have e:=ev4 x1 x2 0 h;exact⟨Obs.mono (fun _ _ h=>yQA h) _ _ e.1,e.2⟩
theorem evA5:∀(ds:List D),KsOk (sig 5) ds->side 5 ds->zCA X side (obK 5) ds/\(deK 5).eval X ds=X 5 ds:=fun ds hk h=>by
 obtain @⟨⟩ | @⟨_,d1,_,_,k1,hk⟩:=hk;obtain @⟨⟩ | @⟨_,d2,_,_,k2,hk⟩:=hk;cases hk;obtain⟨x1,rfl⟩:=k1;obtain⟨x2,rfl,w2⟩:=k2;have e:=ev5 x1 x2 0 h;exact⟨Obs.mono (fun _ _ h=>yQA h) _ _ e.1,e.2⟩
theorem evA6:∀(ds:List D),KsOk (sig 6) ds->side 6 ds->zCA X side (obK 6) ds/\(deK 6).eval X ds=X 6 ds:=fun ds hk h=>by
 obtain @⟨⟩ | @⟨_,d1,_,_,k1,hk⟩:=hk;obtain @⟨⟩ | @⟨_,d2,_,_,k2,hk⟩:=hk;cases hk;obtain⟨x1,rfl⟩:=k1;obtain⟨x2,rfl,w2⟩:=k2;have e:=ev6 x1 x2 0 h;exact⟨Obs.mono (fun _ _ h=>yQA h) _ _ e.1,e.2⟩
theorem evA7:∀(ds:List D),KsOk (sig 7) ds->side 7 ds->zCA X side (obK 7) ds/\(deK 7).eval X ds=X 7 ds:=fun ds hk h=>by
 obtain @⟨⟩ | @⟨_,d1,_,_,k1,hk⟩:=hk;obtain @⟨⟩ | @⟨_,d2,_,_,k2,hk⟩:=hk;cases hk;obtain⟨x1,rfl⟩:=k1;obtain⟨x2,rfl,w2⟩:=k2;have e:=ev7 x1 x2 0 h;exact⟨Obs.mono (fun _ _ h=>yQA h) _ _ e.1,e.2⟩
theorem evA10:∀(ds:List D),KsOk (sig 10) ds->side 10 ds->zCA X side (obK 10) ds/\(deK 10).eval X ds=X 10 ds:=fun ds hk h=>by
 obtain @⟨⟩ | @⟨_,d1,_,_,k1,hk⟩:=hk;obtain @⟨⟩ | @⟨_,d2,_,_,k2,hk⟩:=hk;cases hk;obtain⟨x1,rfl⟩:=k1;obtain⟨x2,rfl,w2⟩:=k2;have e:=ev10 x1 x2 0 (xIJ w2).1 (xIJ w2).2 h;exact⟨Obs.mono (fun _ _ h=>yQA h) _ _ e.1,e.2⟩
theorem evA11:∀(ds:List D),KsOk (sig 11) ds->side 11 ds->zCA X side (obK 11) ds/\(deK 11).eval X ds=X 11 ds:=fun ds hk h=>by
 obtain @⟨⟩ | @⟨_,d1,_,_,k1,hk⟩:=hk;obtain @⟨⟩ | @⟨_,d2,_,_,k2,hk⟩:=hk;cases hk;obtain⟨x1,rfl⟩:=k1;obtain⟨x2,rfl⟩:=k2;have e:=ev11 x1 x2 0 h;exact⟨Obs.mono (fun _ _ h=>yQA h) _ _ e.1,e.2⟩
theorem evA12:∀(ds:List D),KsOk (sig 12) ds->side 12 ds->zCA X side (obK 12) ds/\(deK 12).eval X ds=X 12 ds:=fun ds hk h=>by
 obtain @⟨⟩ | @⟨_,d1,_,_,k1,hk⟩:=hk;obtain @⟨⟩ | @⟨_,d2,_,_,k2,hk⟩:=hk;cases hk;obtain⟨x1,rfl⟩:=k1;obtain⟨x2,rfl⟩:=k2;have e:=ev12 x1 x2 0 h;exact⟨Obs.mono (fun _ _ h=>yQA h) _ _ e.1,e.2⟩
theorem evA13:∀(ds:List D),KsOk (sig 13) ds->side 13 ds->zCA X side (obK 13) ds/\(deK 13).eval X ds=X 13 ds:=fun ds hk h=>by
 obtain @⟨⟩ | @⟨_,d1,_,_,k1,hk⟩:=hk;obtain @⟨⟩ | @⟨_,d2,_,_,k2,hk⟩:=hk;cases hk;obtain⟨x1,rfl⟩:=k1;obtain⟨x2,rfl⟩:=k2;have e:=ev13 x1 x2 0 h;exact⟨Obs.mono (fun _ _ h=>yQA h) _ _ e.1,e.2⟩
theorem evA14:∀(ds:List D),KsOk (sig 14) ds->side 14 ds->zCA X side (obK 14) ds/\(deK 14).eval X ds=X 14 ds:=fun ds hk h=>by
 obtain @⟨⟩ | @⟨_,d1,_,_,k1,hk⟩:=hk;obtain @⟨⟩ | @⟨_,d2,_,_,k2,hk⟩:=hk;cases hk;obtain⟨x1,rfl⟩:=k1;obtain⟨x2,rfl⟩:=k2;have e:=ev14 x1 x2 0 h;exact⟨Obs.mono (fun _ _ h=>yQA h) _ _ e.1,e.2⟩
theorem evA15:∀(ds:List D),KsOk (sig 15) ds->side 15 ds->zCA X side (obK 15) ds/\(deK 15).eval X ds=X 15 ds:=fun ds hk h=>by
 obtain @⟨⟩ | @⟨_,d1,_,_,k1,hk⟩:=hk;obtain @⟨⟩ | @⟨_,d2,_,_,k2,hk⟩:=hk;cases hk;obtain⟨x1,rfl⟩:=k1;obtain⟨x2,rfl⟩:=k2;have e:=ev15 x1 x2 0 h;exact⟨Obs.mono (fun _ _ h=>yQA h) _ _ e.1,e.2⟩
theorem evA17:∀(ds:List D),KsOk (sig 17) ds->side 17 ds->zCA X side (obK 17) ds/\(deK 17).eval X ds=X 17 ds:=fun ds hk h=>by
 obtain @⟨⟩ | @⟨_,d1,_,_,k1,hk⟩:=hk;obtain @⟨⟩ | @⟨_,d2,_,_,k2,hk⟩:=hk;cases hk;obtain⟨x1,rfl⟩:=k1;obtain⟨x2,rfl⟩:=k2;have e:=ev17 x1 x2 0 h;exact⟨Obs.mono (fun _ _ h=>yQA h) _ _ e.1,e.2⟩
theorem evA19:∀(ds:List D),KsOk (sig 19) ds->side 19 ds->zCA X side (obK 19) ds/\(deK 19).eval X ds=X 19 ds:=fun ds hk h=>by
 obtain @⟨⟩ | @⟨_,d1,_,_,k1,hk⟩:=hk;obtain @⟨⟩ | @⟨_,d2,_,_,k2,hk⟩:=hk;cases hk;obtain⟨x1,rfl⟩:=k1;obtain⟨x2,rfl,w2⟩:=k2;have e:=ev19 x1 x2 0 h;exact⟨Obs.mono (fun _ _ h=>yQA h) _ _ e.1,e.2⟩
theorem evA20:∀(ds:List D),KsOk (sig 20) ds->side 20 ds->zCA X side (obK 20) ds/\(deK 20).eval X ds=X 20 ds:=fun ds hk h=>by
 obtain @⟨⟩ | @⟨_,d1,_,_,k1,hk⟩:=hk;obtain @⟨⟩ | @⟨_,d2,_,_,k2,hk⟩:=hk;cases hk;obtain⟨x1,rfl⟩:=k1;obtain⟨x2,rfl,w2⟩:=k2;have e:=ev20 x1 x2 0 h;exact⟨Obs.mono (fun _ _ h=>yQA h) _ _ e.1,e.2⟩
theorem evA21:∀(ds:List D),KsOk (sig 21) ds->side 21 ds->zCA X side (obK 21) ds/\(deK 21).eval X ds=X 21 ds:=fun ds hk h=>by
 obtain @⟨⟩ | @⟨_,d1,_,_,k1,hk⟩:=hk;obtain @⟨⟩ | @⟨_,d2,_,_,k2,hk⟩:=hk;obtain @⟨⟩ | @⟨_,d3,_,_,k3,hk⟩:=hk;cases hk;obtain⟨x1,rfl⟩:=k1;obtain⟨x2,rfl,w2⟩:=k2;obtain⟨x3,rfl⟩:=k3;have e:=ev21 x1 x2 x3 0 h;exact⟨Obs.mono (fun _ _ h=>yQA h) _ _ e.1,e.2⟩
theorem evA22:∀(ds:List D),KsOk (sig 22) ds->side 22 ds->zCA X side (obK 22) ds/\(deK 22).eval X ds=X 22 ds:=fun ds hk h=>by
 obtain @⟨⟩ | @⟨_,d1,_,_,k1,hk⟩:=hk;obtain @⟨⟩ | @⟨_,d2,_,_,k2,hk⟩:=hk;obtain @⟨⟩ | @⟨_,d3,_,_,k3,hk⟩:=hk;cases hk;obtain⟨x1,rfl⟩:=k1;obtain⟨x2,rfl,w2⟩:=k2;obtain⟨x3,rfl⟩:=k3;have e:=ev22 x1 x2 x3 0 h;exact⟨Obs.mono (fun _ _ h=>yQA h) _ _ e.1,e.2⟩
theorem evA29:∀(ds:List D),KsOk (sig 29) ds->side 29 ds->zCA X side (obK 29) ds/\(deK 29).eval X ds=X 29 ds:=fun ds hk h=>by
 obtain @⟨⟩ | @⟨_,d1,_,_,k1,hk⟩:=hk;obtain @⟨⟩ | @⟨_,d2,_,_,k2,hk⟩:=hk;cases hk;obtain⟨x1,rfl⟩:=k1;obtain⟨x2,rfl,w2⟩:=k2;have e:=ev29 x1 x2 0 h;exact⟨Obs.mono (fun _ _ h=>yQA h) _ _ e.1,e.2⟩
theorem evA30:∀(ds:List D),KsOk (sig 30) ds->side 30 ds->zCA X side (obK 30) ds/\(deK 30).eval X ds=X 30 ds:=fun ds hk h=>by
 obtain @⟨⟩ | @⟨_,d1,_,_,k1,hk⟩:=hk;obtain @⟨⟩ | @⟨_,d2,_,_,k2,hk⟩:=hk;cases hk;obtain⟨x1,rfl⟩:=k1;obtain⟨x2,rfl,w2⟩:=k2;have e:=ev30 x1 x2 0 h;exact⟨Obs.mono (fun _ _ h=>yQA h) _ _ e.1,e.2⟩
theorem evA31:∀(ds:List D),KsOk (sig 31) ds->side 31 ds->zCA X side (obK 31) ds/\(deK 31).eval X ds=X 31 ds:=fun ds hk h=>by
 obtain @⟨⟩ | @⟨_,d1,_,_,k1,hk⟩:=hk;cases hk;obtain⟨x1,rfl,w1⟩:=k1;have e:=ev31 x1 0 (xIJ w1).1 (xIJ w1).2;exact⟨Obs.mono (fun _ _ h=>yQA h) _ _ e.1,e.2⟩
theorem evA40:∀(ds:List D),KsOk (sig 40) ds->side 40 ds->zCA X side (obK 40) ds/\(deK 40).eval X ds=X 40 ds:=fun ds hk h=>by
 obtain @⟨⟩ | @⟨_,d1,_,_,k1,hk⟩:=hk;obtain @⟨⟩ | @⟨_,d2,_,_,k2,hk⟩:=hk;cases hk;obtain⟨x1,rfl⟩:=k1;obtain⟨x2,rfl,w2⟩:=k2;have e:=ev40 x1 x2 h 0;exact⟨Obs.mono (fun _ _ h=>yQA h) _ _ e.1,e.2⟩
theorem evA41:∀(ds:List D),KsOk (sig 41) ds->side 41 ds->zCA X side (obK 41) ds/\(deK 41).eval X ds=X 41 ds:=fun ds hk h=>by
 obtain @⟨⟩ | @⟨_,d1,_,_,k1,hk⟩:=hk;obtain @⟨⟩ | @⟨_,d2,_,_,k2,hk⟩:=hk;cases hk;obtain⟨x1,rfl⟩:=k1;obtain⟨x2,rfl⟩:=k2;have e:=ev41 x1 x2 0 (by rw[qXG,zPA] at h;exact h);exact⟨Obs.mono (fun _ _ h=>yQA h) _ _ e.1,e.2⟩
theorem evR42(n:Nat):∀(ds:List D),KsOk (sig 42) ds->Pre (n+1) 42 ds->zCA X (Pre n) (obK 42) ds/\(deK 42).eval X ds=X 42 ds:=fun ds hk h=>by
 obtain @⟨⟩ | @⟨_,d1,_,_,k1,hk⟩:=hk;obtain @⟨⟩ | @⟨_,d2,_,_,k2,hk⟩:=hk;obtain @⟨⟩ | @⟨_,d3,_,_,k3,hk⟩:=hk;cases hk;obtain⟨x1,rfl⟩:=k1;obtain⟨x2,rfl,w2⟩:=k2;obtain⟨x3,rfl⟩:=k3;exact ev42 x1 x2 x3 n h
theorem evA45:∀(ds:List D),KsOk (sig 45) ds->side 45 ds->zCA X side (obK 45) ds/\(deK 45).eval X ds=X 45 ds:=fun ds hk h=>by
 obtain @⟨⟩ | @⟨_,d1,_,_,k1,hk⟩:=hk;obtain @⟨⟩ | @⟨_,d2,_,_,k2,hk⟩:=hk;cases hk;obtain⟨x1,rfl,w1⟩:=k1;obtain⟨x2,rfl,w2⟩:=k2;have e:=ev45 x1 x2 0 (by rw[qMC] at h;exact h.1) (by rw[qMC] at h;exact h.2);exact⟨Obs.mono (fun _ _ h=>yQA h) _ _ e.1,e.2⟩
theorem evA46:∀(ds:List D),KsOk (sig 46) ds->side 46 ds->zCA X side (obK 46) ds/\(deK 46).eval X ds=X 46 ds:=fun ds hk h=>by
 obtain @⟨⟩ | @⟨_,d1,_,_,k1,hk⟩:=hk;cases hk;obtain⟨x1,rfl,w1⟩:=k1;have e:=ev46 x1 (wf_u64 w1).1 (wf_u64 w1).2 0;exact⟨Obs.mono (fun _ _ h=>yQA h) _ _ e.1,e.2⟩
theorem evR47(n:Nat):∀(ds:List D),KsOk (sig 47) ds->Pre (n+1) 47 ds->zCA X (Pre n) (obK 47) ds/\(deK 47).eval X ds=X 47 ds:=fun ds hk h=>by
 obtain @⟨⟩ | @⟨_,d1,_,_,k1,hk⟩:=hk;obtain @⟨⟩ | @⟨_,d2,_,_,k2,hk⟩:=hk;obtain @⟨⟩ | @⟨_,d3,_,_,k3,hk⟩:=hk;obtain @⟨⟩ | @⟨_,d4,_,_,k4,hk⟩:=hk;cases hk;obtain⟨x1,rfl⟩:=k1;obtain⟨x2,rfl,w2⟩:=k2;obtain⟨x3,rfl⟩:=k3;obtain⟨x4,rfl⟩:=k4;exact ev47 (fs:=x1) (v:=x2) (x:=x3) (t:=x4) n h
theorem evR48(n:Nat):∀(ds:List D),KsOk (sig 48) ds->Pre (n+1) 48 ds->zCA X (Pre n) (obK 48) ds/\(deK 48).eval X ds=X 48 ds:=fun ds hk h=>by
 obtain @⟨⟩ | @⟨_,d1,_,_,k1,hk⟩:=hk;obtain @⟨⟩ | @⟨_,d2,_,_,k2,hk⟩:=hk;obtain @⟨⟩ | @⟨_,d3,_,_,k3,hk⟩:=hk;obtain @⟨⟩ | @⟨_,d4,_,_,k4,hk⟩:=hk;obtain @⟨⟩ | @⟨_,d5,_,_,k5,hk⟩:=hk;obtain @⟨⟩ | @⟨_,d6,_,_,k6,hk⟩:=hk;cases hk;obtain⟨x1,rfl,w1⟩:=k1;obtain⟨x2,rfl⟩:=k2;obtain⟨x3,rfl⟩:=k3;obtain⟨x4,rfl,w4⟩:=k4;obtain⟨x5,rfl⟩:=k5;obtain⟨x6,rfl⟩:=k6;exact ev48 x1 x2 x3 x4 x5 x6 n h
theorem evR49(n:Nat):∀(ds:List D),KsOk (sig 49) ds->Pre (n+1) 49 ds->zCA X (Pre n) (obK 49) ds/\(deK 49).eval X ds=X 49 ds:=fun ds hk h=>by
 obtain @⟨⟩ | @⟨_,d1,_,_,k1,hk⟩:=hk;obtain @⟨⟩ | @⟨_,d2,_,_,k2,hk⟩:=hk;obtain @⟨⟩ | @⟨_,d3,_,_,k3,hk⟩:=hk;obtain @⟨⟩ | @⟨_,d4,_,_,k4,hk⟩:=hk;cases hk;obtain⟨x1,rfl⟩:=k1;obtain⟨x2,rfl,w2⟩:=k2;obtain⟨x3,rfl⟩:=k3;obtain⟨x4,rfl⟩:=k4;exact ev49 x1 x2 x3 x4 n h
theorem evR50(n:Nat):∀(ds:List D),KsOk (sig 50) ds->Pre (n+1) 50 ds->zCA X (Pre n) (obK 50) ds/\(deK 50).eval X ds=X 50 ds:=fun ds hk h=>by
 obtain @⟨⟩ | @⟨_,d1,_,_,k1,hk⟩:=hk;obtain @⟨⟩ | @⟨_,d2,_,_,k2,hk⟩:=hk;cases hk;obtain⟨x1,rfl⟩:=k1;obtain⟨x2,rfl⟩:=k2;exact ev50 x1 x2 n h
theorem evA51:∀(ds:List D),KsOk (sig 51) ds->side 51 ds->zCA X side (obK 51) ds/\(deK 51).eval X ds=X 51 ds:=fun ds hk h=>by
 obtain @⟨⟩ | @⟨_,d1,_,_,k1,hk⟩:=hk;cases hk;obtain⟨x1,rfl⟩:=k1;have e:=ev51 x1 (by rw[xZI,zPA] at h;exact h) 0;exact⟨Obs.mono (fun _ _ h=>yQA h) _ _ e.1,e.2⟩
theorem evA52:∀(ds:List D),KsOk (sig 52) ds->side 52 ds->zCA X side (obK 52) ds/\(deK 52).eval X ds=X 52 ds:=fun ds hk h=>by
 obtain @⟨⟩ | @⟨_,d1,_,_,k1,hk⟩:=hk;obtain @⟨⟩ | @⟨_,d2,_,_,k2,hk⟩:=hk;cases hk;obtain⟨x1,rfl⟩:=k1;obtain⟨x2,rfl⟩:=k2;have e:=ev52 x1 x2 0;exact⟨Obs.mono (fun _ _ h=>yQA h) _ _ e.1,e.2⟩
theorem evA53:∀(ds:List D),KsOk (sig 53) ds->side 53 ds->zCA X side (obK 53) ds/\(deK 53).eval X ds=X 53 ds:=fun ds hk h=>by
 obtain @⟨⟩ | @⟨_,d1,_,_,k1,hk⟩:=hk;obtain @⟨⟩ | @⟨_,d2,_,_,k2,hk⟩:=hk;obtain @⟨⟩ | @⟨_,d3,_,_,k3,hk⟩:=hk;obtain @⟨⟩ | @⟨_,d4,_,_,k4,hk⟩:=hk;cases hk;obtain⟨x1,rfl⟩:=k1;obtain⟨x2,rfl⟩:=k2;obtain⟨x3,rfl,w3⟩:=k3;obtain⟨x4,rfl,w4⟩:=k4;have e:=ev53 x1 x2 x3 x4 0 (by rw[xOE] at h;exact h.1) (by rw[xOE] at h;exact h.2.1) (by rw[xOE] at h;exact h.2.2);exact⟨Obs.mono (fun _ _ h=>yQA h) _ _ e.1,e.2⟩
theorem evA54:∀(ds:List D),KsOk (sig 54) ds->side 54 ds->zCA X side (obK 54) ds/\(deK 54).eval X ds=X 54 ds:=fun ds hk h=>by
 obtain @⟨⟩ | @⟨_,d1,_,_,k1,hk⟩:=hk;cases hk;obtain⟨x1,rfl⟩:=k1;have e:=ev54 x1 0;exact⟨Obs.mono (fun _ _ h=>yQA h) _ _ e.1,e.2⟩
theorem evA55:∀(ds:List D),KsOk (sig 55) ds->side 55 ds->zCA X side (obK 55) ds/\(deK 55).eval X ds=X 55 ds:=fun ds hk h=>by
 obtain @⟨⟩ | @⟨_,d1,_,_,k1,hk⟩:=hk;cases hk;obtain⟨x1,rfl,w1⟩:=k1;exact⟨trivial,ev55 x1⟩
theorem evA56:∀(ds:List D),KsOk (sig 56) ds->side 56 ds->zCA X side (obK 56) ds/\(deK 56).eval X ds=X 56 ds:=fun ds hk h=>by
 obtain @⟨⟩ | @⟨_,d1,_,_,k1,hk⟩:=hk;obtain @⟨⟩ | @⟨_,d2,_,_,k2,hk⟩:=hk;obtain @⟨⟩ | @⟨_,d3,_,_,k3,hk⟩:=hk;cases hk;obtain⟨x1,rfl⟩:=k1;obtain⟨x2,rfl,w2⟩:=k2;obtain⟨x3,rfl⟩:=k3;exact⟨trivial,ev56 x1 x2 x3⟩
theorem evA57:∀(ds:List D),KsOk (sig 57) ds->side 57 ds->zCA X side (obK 57) ds/\(deK 57).eval X ds=X 57 ds:=fun ds hk h=>by
 obtain @⟨⟩ | @⟨_,d1,_,_,k1,hk⟩:=hk;obtain @⟨⟩ | @⟨_,d2,_,_,k2,hk⟩:=hk;cases hk;obtain⟨x1,rfl⟩:=k1;obtain⟨x2,rfl,w2⟩:=k2;exact⟨trivial,ev57 x1 x2⟩
theorem evA58:∀(ds:List D),KsOk (sig 58) ds->side 58 ds->zCA X side (obK 58) ds/\(deK 58).eval X ds=X 58 ds:=fun ds hk h=>by
 obtain @⟨⟩ | @⟨_,d1,_,_,k1,hk⟩:=hk;obtain @⟨⟩ | @⟨_,d2,_,_,k2,hk⟩:=hk;cases hk;obtain⟨x1,rfl,w1⟩:=k1;obtain⟨x2,rfl,w2⟩:=k2;have e:=ev58 x1 x2 0 (wf_u8 w1).1 (wf_u8 w1).2 (by rw[qAI] at h;exact h.2.1) (by rw[qAI] at h;exact h.2.2);exact⟨Obs.mono (fun _ _ h=>yQA h) _ _ e.1,e.2⟩
theorem evA59:∀(ds:List D),KsOk (sig 59) ds->side 59 ds->zCA X side (obK 59) ds/\(deK 59).eval X ds=X 59 ds:=fun ds hk h=>by
 obtain @⟨⟩ | @⟨_,d1,_,_,k1,hk⟩:=hk;obtain @⟨⟩ | @⟨_,d2,_,_,k2,hk⟩:=hk;obtain @⟨⟩ | @⟨_,d3,_,_,k3,hk⟩:=hk;cases hk;obtain⟨x1,y1,rfl⟩:=k1;obtain⟨x2,rfl,w2⟩:=k2;obtain⟨x3,rfl⟩:=k3;have e:=ev59 x1 y1 x2 x3 (3*wFs x1+1) h (by omega);exact⟨Obs.mono (fun _ _ h=>yQA h) _ _ e.1,e.2⟩
theorem evA(k:Nat)(hk:known? k=true)(hr:ySA k=false):∀(ds:List D),KsOk (sig k) ds->side k ds->zCA X side (obK k) ds/\(deK k).eval X ds=X k ds:=by
 unfold known? at hk;split at hk
 ·exact evA2
 ·exact evA3
 ·exact evA4
 ·exact evA5
 ·exact evA6
 ·exact evA7
 ·exact evA10
 ·exact evA11
 ·exact evA12
 ·exact evA13
 ·exact evA14
 ·exact evA15
 ·exact evA17
 ·exact evA19
 ·exact evA20
 ·exact evA21
 ·exact evA22
 ·exact evA29
 ·exact evA30
 ·exact evA31
 ·exact evA40
 ·exact evA41
 ·simp[ySA] at hr
 ·exact evA45
 ·exact evA46
 ·simp[ySA] at hr
 ·simp[ySA] at hr
 ·simp[ySA] at hr
 ·simp[ySA] at hr
 ·exact evA51
 ·exact evA52
 ·exact evA53
 ·exact evA54
 ·exact evA55
 ·exact evA56
 ·exact evA57
 ·exact evA58
 ·exact evA59
 ·cases hk
theorem evR(k:Nat)(hk:known? k=true)(hr:ySA k=true)(n:Nat):∀(ds:List D),KsOk (sig k) ds->Pre (n+1) k ds->zCA X (Pre n) (obK k) ds/\(deK k).eval X ds=X k ds:=by
 unfold known? at hk;split at hk
 ·simp[ySA] at hr
 ·simp[ySA] at hr
 ·simp[ySA] at hr
 ·simp[ySA] at hr
 ·simp[ySA] at hr
 ·simp[ySA] at hr
 ·simp[ySA] at hr
 ·simp[ySA] at hr
 ·simp[ySA] at hr
 ·simp[ySA] at hr
 ·simp[ySA] at hr
 ·simp[ySA] at hr
 ·simp[ySA] at hr
 ·simp[ySA] at hr
 ·simp[ySA] at hr
 ·simp[ySA] at hr
 ·simp[ySA] at hr
 ·simp[ySA] at hr
 ·simp[ySA] at hr
 ·simp[ySA] at hr
 ·simp[ySA] at hr
 ·simp[ySA] at hr
 ·exact evR42 n
 ·simp[ySA] at hr
 ·simp[ySA] at hr
 ·exact evR47 n
 ·exact evR48 n
 ·exact evR49 n
 ·exact evR50 n
 ·simp[ySA] at hr
 ·simp[ySA] at hr
 ·simp[ySA] at hr
 ·simp[ySA] at hr
 ·simp[ySA] at hr
 ·simp[ySA] at hr
 ·simp[ySA] at hr
 ·simp[ySA] at hr
 ·simp[ySA] at hr
 ·cases hk
def ctrs(tab:List (Nat×Ctr))(r:Nat)(f:FuncId):Option Ctr :=
 match lk f tab with
 | some c=>if rank c.fn<r || (r==5&&ySA c.fn) then some c else none
 | none=>none
def noRd:RK->Bool
 | .rd _=>false
 | _=>true
theorem zUE{c:Ctr}(h:noRd c.res=true)(d:D):GoodR c d:=fun t ht=>by rw[ht] at h;cases h
def yAL(P:Program)(tab:List (Nat×Ctr))(f:FuncId)(c:Ctr):Bool :=
 match P.funcs[f]? with
 | some fn =>
  match runF ⟨P,ctrs tab (rank c.fn),fun _ _ _=>none⟩ 100000 8 c fn with
  | some (d,os)=>noRd c.res&&(d.beq (deK c.fn)&&qUC os (obK c.fn))
  | none=>false
 | none=>false
def ctrOk?(P:Program)(tab:List (Nat×Ctr))(f:FuncId)(c:Ctr):Bool :=
 known? c.fn&&areA P (sig c.fn) c.args&&c.pre&&yAL P tab f c
theorem rank5{k:Nat}(hk:known? k=true):rank k=5↔ySA k=true:=by
 unfold known? at hk;split at hk
 all_goals first|cases hk;done|decide
theorem zLF{tab:List (Nat×Ctr)}{r:Nat}{f:FuncId}{c:Ctr}(h:ctrs tab r f=some c):lk f tab=some c/\(rank c.fn<r∨(r=5/\ySA c.fn=true)):=by
 unfold ctrs at h;split at h
 ·rename_i c' hc;split at h
  ·rename_i hb;cases h;simp only[Bool.or_eq_true,decide_eq_true_eq,Bool.and_eq_true,beq_iff_eq] at hb;exact⟨hc,hb⟩
  ·cases h
 ·cases h
theorem zCL{P:Program}{A B:Nat->List D->Prop}{tab:List (Nat×Ctr)}(hnm:xNA P)(hord:P.follows .mixedOrders=true){f:FuncId}{c:Ctr}(hrun:yAL P tab f c=true)(hsig:areA P (sig c.fn) c.args=true)(hpre:c.pre=true)
  (hc:∀g d,ctrs tab (rank c.fn) g=some d->zMB P X A g d) (hX:∀ds,KsOk (sig c.fn) ds->B c.fn ds->zCA X A (obK c.fn) ds/\(deK c.fn).eval X ds=X c.fn ds):zMB P X B f c:=by
 unfold yAL at hrun;split at hrun
 rotate_left
 ·cases hrun
 rename_i fn hf;split at hrun
 rotate_left
 ·cases hrun
 rename_i d os hr;simp only[Bool.and_eq_true] at hrun;have e1:=DE.beq_eq hrun.2.1;have e2:=qCB hrun.2.2;subst e1;subst e2
 exact zLD (C:=⟨P,ctrs tab (rank c.fn),fun _ _ _=>none⟩) hnm hord hc hf hr (fun ok w vs ds hA hp=>by
  obtain⟨q1,q2⟩:=hX ds (yRE hsig hA) (hp hpre);exact⟨q1,q2,zUE hrun.1 _⟩)
theorem tab_ok{P:Program}{tab:List (Nat×Ctr)}{hand:Nat->Bool}(hnm:xNA P)(hord:P.follows .mixedOrders=true)
  (hh:∀f c,lk f tab=some c->hand c.fn=true->zMB P X side f c) (hchk:∀f c,lk f tab=some c->hand c.fn=false->ctrOk? P tab f c=true) (hhr:∀k,hand k=true->ySA k=false):∀r f c,lk f tab=some c->rank c.fn=r->zMB P X side f c:=by
 intro r
 induction r using Nat.strongRecOn with
 | ind r ih =>
  intro f c hl hr;cases hx:hand c.fn with
  | true=>exact hh f c hl hx
  | false =>
   have h:=hchk f c hl hx;unfold ctrOk? at h;simp only[Bool.and_eq_true] at h;obtain⟨⟨⟨hk,hsig⟩,hpre⟩,hrun⟩:=h;cases hrec:ySA c.fn with
   | false =>
    refine zCL hnm hord hrun hsig hpre (A:=side) (fun g d hg=>?_) (evA c.fn hk hrec);obtain⟨h1,h2⟩:=zLF hg;rcases h2 with h2|⟨h2,_⟩
    ·exact ih _ (by omega) g d h1 rfl
    ·have:=(rank5 hk).1 h2
     rw[hrec] at this;cases this
   | true =>
    have h5:r=5:=by rw[<- hr];exact(rank5 hk).2 hrec
    have main:∀n f c,lk f tab=some c->known? c.fn=true->ySA c.fn=true->areA P (sig c.fn) c.args=true->c.pre=true->yAL P tab f c=true->zMB P X (Pre n) f c:=by
     intro n
     induction n with
     | zero =>
      intro f c hl hk hrec hsig hpre hrun;refine zCL hnm hord hrun hsig hpre (A:=fun _ _=>False) (fun g d hg=>?_) (fun ds _ hB=>?_)
      ·have hg':=zLF hg;have hdx:hand d.fn=false∨hand d.fn=true:=by cases hand d.fn <;> simp
       have hex:∃fn b,P.funcs[g]? = some fn/\fn.body=some b/\d.pre=true∨zMB P X side g d:=by
        rcases hdx with hdx|hdx
        ·have h:=hchk g d hg'.1 hdx;unfold ctrOk? at h;simp only[Bool.and_eq_true] at h;obtain⟨⟨⟨_,_⟩,hp⟩,hr⟩:=h;unfold yAL at hr;split at hr
         ·rename_i fn hf;split at hr
          ·rename_i d' os hr';unfold runF at hr';split at hr'
           ·rename_i body q hb _;exact⟨fn,body,.inl ⟨hf,hb,hp⟩⟩
           ·cases hr'
          ·cases hr
         ·cases hr
        ·have:=hh g d hg'.1 hdx
         obtain⟨fn,b,_,_⟩:=this.1;exact⟨fn,b,.inr this⟩
       obtain⟨fn,b,h|h⟩:=hex
       ·exact⟨⟨fn,b,h.1,h.2.1⟩,fun ok w vs ds _ _ _ h4=>(h4 h.2.2).elim⟩
       ·exact yUD (fun _ h=>h.elim) h
      ·exact absurd (hB.1 hrec) (by omega)
     | succ n ihn =>
      intro f c hl hk hrec hsig hpre hrun;refine zCL hnm hord hrun hsig hpre (A:=Pre n) (fun g d hg=>?_) (evR c.fn hk hrec n);obtain⟨h1,h2⟩:=zLF hg;have hr5:=(rank5 hk).2 hrec;by_cases hd:rank d.fn<5
      ·exact yUD (fun _ h=>h.2) (ih (rank d.fn) (by omega) g d h1 rfl)
      ·have hdr:ySA d.fn=true:=by
        rcases h2 with h2|h2
        ·omega
        ·exact h2.2
       cases hdx:hand d.fn with
       | true=>exact yUD (fun _ h=>h.2) (hh g d h1 hdx)
       | false =>
        have h:=hchk g d h1 hdx;unfold ctrOk? at h;simp only[Bool.and_eq_true] at h;obtain⟨⟨⟨q1,q2⟩,q3⟩,q4⟩:=h;exact ihn g d h1 q1 hdr q2 q3 q4
    have hfin:=fun n=>main n f c hl hk hrec hsig hpre hrun
    refine⟨(hfin 0).1,fun ok w vs ds h1 h2 h3 h4=>?_⟩;exact(hfin (meas c.fn ds+1)).2 ok w vs ds h1 h2 h3 (fun hp=>⟨fun _=>by omega,h4 hp⟩)
theorem all_ok{P:Program}{tab:List (Nat×Ctr)}{hand:Nat->Bool}(hnm:xNA P)(hord:P.follows .mixedOrders=true)
  (hh:∀f c,lk f tab=some c->hand c.fn=true->zMB P X side f c) (hchk:∀f c,lk f tab=some c->hand c.fn=false->ctrOk? P tab f c=true) (hhr:∀k,hand k=true->ySA k=false):∀f c,lk f tab=some c->zMB P X side f c :=
 fun f c h=>tab_ok hnm hord hh hchk hhr _ f c h rfl
end Go.Mx
namespace Go.Dx
open Go
section
variable {P:Program} {X:Nat->List D->D} {Pre:Nat->List D->Prop} {J:List D}
theorem yFG{ks:List (Nat×Int)}{ds:List D}(hk:∀j k,lk j ks=some k->ds.getD j .nil = .int k)(g:Gh):∀(l:List SV) (i:Nat),dens X ds g (qRD ks i l)=dens X ds g l/\(oks X ds l->oks X ds (qRD ks i l))/\(qRD ks i l).length=l.length
 | [],i=>⟨rfl,id,rfl⟩
 | v::r,i=>by
  obtain⟨h1,h2,h3⟩:=yFG hk g r (i+1);have main:∀u:SV,qRD ks i (v::r)=u::qRD ks (i+1) r->u.den X ds g=v.den X ds g->(v.ok X ds->u.ok X ds)->dens X ds g (qRD ks i (v::r))=dens X ds g (v::r)/\(oks X ds (v::r)->oks X ds (qRD ks i (v::r)))/\(qRD ks i (v::r)).length=(v::r).length:=fun u e e1 e2=>by
   rw[e];refine⟨by simp only[dens];rw[e1,h1],fun h=>?_,by simp[h3]⟩;simp only[oks] at h ⊢;exact⟨e2 h.1,h2 h.2⟩
  simp only[qRD] at main ⊢;split at main
  ·rename_i t j;split at main
   ·rename_i k hj;refine main _ rfl ?_ (fun h=>?_)
    ·simp only[SV.den,DE.eval,hk j k hj]
    ·simp only[SV.ok,SV.okk] at h ⊢
     first
      | trivial
      | (have e:=hk j k hj;simp only[DE.eval] at h ⊢;rw[e] at h;exact h)
   ·exact main _ rfl rfl id
  ·exact main _ rfl rfl id
theorem qED:∀(l:List SV) (i s:Nat) (sv:SV),l[s]? = some sv->lk (i+s) (zFD i l)=some sv
 | [],_,_,_,h=>by simp at h
 | x::l,i,0,sv,h=>by
  simp only[List.getElem?_cons_zero,Option.some.injEq] at h;subst h
  simp[zFD,lk]
 | x::l,i,s+1,sv,h=>by
  simp only[List.getElem?_cons_succ] at h
  have:=qED l (i+1) s sv h
  have hne:(i+(s+1)==i)=false:=by simp
  simp only[zFD,lk,hne];rw[show i+(s+1)=i+1+s by omega];simpa using this
theorem zLK{ok:Nat->Prop}{w:World}{ks:List AK}{vs:List Value}{ds:List D}{nt:Nat}{q:Sa}{cs:List (Nat×Int)}(hq:yPA P 0 ks=some q)(ho:owns ks<=1)(hnt:ks.length<=nt)
  (h:ArgsOk P ok w ks vs ds) (hok:∀b,ok b->b<w.heap.size /\ ¬Wr w ks vs b) (hk:∀j k,lk j cs=some k->ds.getD j .nil = .int k) :
  Mem P X (yQJ ok w ks vs) ds (xLC ks.length { q with as:=qRD cs 0 q.as } nt) (qVA ok w ks vs) w/\Env X ds (xLC ks.length { q with as:=qRD cs 0 q.as } nt) (qVA ok w ks vs) { tmps:=vs.toArray++Array.replicate (nt-vs.toArray.size) undef,defers:=[] }:=by
 obtain⟨hm,he⟩:=qEH (X:=X) hq ho hnt h hok;obtain⟨o1,o2,o3⟩:=yFG (X:=X) hk (qVA ok w ks vs) q.as 0;refine⟨hm.same rfl rfl rfl rfl,⟨fun s sv hs=>?_,he.df,he.sz⟩⟩;obtain⟨_,hs'⟩:=zFE (qRD cs 0 q.as) 0 s sv hs;rw[Nat.sub_zero] at hs';have hlt:s<q.as.length:=by rw[<- o3];exact(List.getElem?_eq_some_iff.1 hs').1
 have hu:q.as[s]? = some q.as[s]:=List.getElem?_eq_getElem hlt;have hl:=qED q.as 0 s _ hu;rw[Nat.zero_add] at hl;obtain⟨t1,_⟩:=he.tm s _ hl;have e1:(dens X ds (qVA ok w ks vs) (qRD cs 0 q.as))[s]? = some (sv.den X ds (qVA ok w ks vs)):=by rw[zUA,List.getElem?_map,hs'];rfl
 have e2:(dens X ds (qVA ok w ks vs) q.as)[s]? = some (q.as[s].den X ds (qVA ok w ks vs)):=by rw[zUA,List.getElem?_map,hu];rfl
 rw[o1,e2] at e1;refine⟨by rw[<- Option.some.inj e1];exact t1,?_⟩;have hall:oks X ds q.as:=yIA.2 fun x hx=>by
  obtain⟨j,hj,hjx⟩:=List.mem_iff_getElem.1 hx
  have:=qED q.as 0 j x (by rw[List.getElem?_eq_getElem hj,hjx])
  rw[Nat.zero_add] at this;exact(he.tm j x this).2
 exact yIA.1 (o2 hall) sv (List.mem_of_getElem? hs')
end
section
variable {X:Nat->List D->D} {Pre:Nat->List D->Prop}
theorem callK{C:Cfg}(hnm:xNA C.P)(hord:C.P.follows .mixedOrders=true)(hctr:∀f c,C.ctr f=some c->zMB C.P X Pre f c){n dp:Nat}{f:FuncId}{c:Ctr}{fn:Func}{de:DE}{os:List Ob}{ks:List (Nat×Int)}
  (hf:C.P.funcs[f]? = some fn) (hrun:runFK C n dp c fn ks=some (de,os)) {ok:Nat->Prop} {w:World} {vs:List Value} {ds:List D} (hA:ArgsOk C.P ok w c.args vs ds)
  (hok:∀b,ok b->b<w.heap.size /\ ¬Wr w c.args vs b) (hk:∀j k,lk j ks=some k->ds.getD j .nil = .int k) (hob:zCA X Pre os ds) (hde:de.eval X ds=X c.fn ds) (hgood:GoodR c (X c.fn ds)) :
  Calls C.P f vs.toArray w fun e w'=>∃v,e = .returned v/\Fr (Wr w c.args vs) w w'/\zAC C.P ok w w' c vs v (X c.fn ds):=by
 unfold runFK at hrun;split at hrun
 rotate_left
 ·cases hrun
 rename_i body q hbody hq;split at hrun
 rotate_left
 ·cases hrun
 rename_i hoc;simp only[Bool.and_eq_true,decide_eq_true_eq] at hoc;obtain⟨hoo,hnt⟩:=hoc;split at hrun
 rotate_left
 ·cases hrun
 rename_i outs houts;split at hrun
 rotate_left
 ·cases hrun
 rename_i hall;split at hrun
 rotate_left
 ·cases hrun
 rename_i dl hdl;split at hrun
 rotate_left
 ·cases hrun
 rename_i d' o' htd hto;cases hrun;obtain⟨hm,he⟩:=zLK (X:=X) hq (zFL hoo) hnt hA hok hk;have hsound:=yYE hnm hord hctr n dp;refine calls_of_wp hf hbody (zYA ?_);refine hsound.sound _ ds [body] _ outs _ w _ hm he houts (fun o ho hpc=>xRB hto hob (o.pc,o.st.obl) (List.mem_map.2 ⟨o,ho,rfl⟩) hpc) _ (fun o ho hpc g' w' a' k1 k2 k3=>?_);obtain⟨dd,hod,hdm⟩:=yVF hdl o ho;unfold outD at hod;split at hod
 rotate_left
 ·cases hod
 rename_i l hrs;obtain⟨d2,hd2,rfl⟩:=Option.map_eq_some_iff.1 hod;have hev:de.eval X ds=d2.eval X ds:=xQB htd _ hdm hpc;obtain⟨r1,r2⟩:=qIC k2 k3 hrs;have hfr:Fr (Wr w c.args vs) w w':=k2.fr;have hres:zAC C.P ok w w' c vs ((tupS l).den X ds g') (X c.fn ds):=by
  rw[<- hde,hev];have k1':Ext (xLC c.args.length q fn.ntmps) (qVA ok w c.args vs) o.st g':=⟨fun n vi hn=>k1.rv n vi hn,fun o cs ho=>k1.rb o cs ho⟩;exact ret_ok k2 hoo hq hA k1' r2 hd2 (fun t ht=>by rw[<- hev,hde];exact hgood t ht)
 have hpost:a'.defers=[] /\ ∃v,(results fn a'.tmps).run C.P w' = .ok v w'/\(∃v',Ending.returned v = .returned v'/\Fr (Wr w c.args vs) w w'/\zAC C.P ok w w' c vs v' (X c.fn ds)) :=
  ⟨k3.df,_,r1,_,rfl,hfr,hres⟩
 rcases zED hall o ho with hx|hx
 ·rw[hx];exact hpost
 ·rw[hx];exact hpost
end
end Go.Dx
namespace Go.Mx
open Go Go.Dx
mutual
def flE:Fl->DE
 | .mk k f t n g d o s=>.f .mkrow [.k (.int k),.k (.int f),.k (.int t),.k (.int n),.k (.int g),.k (.int d),.k (.int o),scE s]
def scE:Option (List Fl)->DE
 | none=>.k .nil
 | some l=>.f .mklist (flEs l)
def flEs:List Fl->List DE
 | []=>[]
 | f::r=>flE f::flEs r
end
mutual
theorem flE_eval(J:List D):∀f:Fl,(flE f).eval X J=f.d
 | .mk k f t n g d o s=>by
  simp only[flE,ev_f,zAA,zBA,ev_k,zAB,yMJ J s,Fl.d]
theorem yMJ(J:List D):∀s:Option (List Fl),(scE s).eval X J=encF s
 | none=>rfl
 | some l=>by simp only[scE,ev_f,zLE,yIH J l,encF]
theorem yIH(J:List D):∀l:List Fl,zEA X (flEs l) J=fds l
 | []=>rfl
 | f::r=>by simp only[flEs,zAA,flE_eval J f,yIH J r,fds]
end
structure Made (m:Nat) (fs:Option (List Fl)) (fx most:Int):Prop where
 wf:wfFs fs=true
 most0:0<=most
 most1:most<=1000
 made:∀(v:Int) (t:T),0<=v->v<=most->zOE t=true->(yAA fs v (zZA fx v) t).length<=lim->(X m [.int v,(given (FitS fs v t)).d]).asStr=yAA fs v (zZA fx v) t/\side m [.int v,(given (FitS fs v t)).d]
end Go.Mx
namespace Go.Mx
open Go Go.Dx
theorem zBF:∀ {l:List T},wfTl l=true ↔ ∀x∈l,wfT x=true
 | []=>by simp[wfTl]
 | a::l=>by simp[wfTl,zBF (l:=l)]
section
variable {P:Program} {ok:Nat->Prop} {w:World}
theorem isI_u32{n:Int}(h:(Lit.int .u32 n).wf=true):0<=n/\n<4294967296:=by
 simp[Lit.wf,IntKind.min,IntKind.max,IntKind.signed,IntKind.bits] at h;omega
theorem rep_tagW{t:TypeId}{v:Value}{x:Tg}(h:yPH P t=true)(hr:Rep P ok w t v x.d):wfTg x=true:=by
 unfold yPH at h;simp only[Bool.and_eq_true] at h;obtain⟨ha,h⟩:=h;obtain⟨ds,hd,hlen,hcell⟩:=xHF ha hr;have hd':ds=[.int x.key,encB x.val]:=by simp only[Tg.d,D.row.injEq] at hd;exact hd.symm
 subst hd';split at h
 ·rename_i a b hty;simp only[Bool.and_eq_true] at h;rw[hty] at hcell;obtain⟨v1,r1⟩:=hcell 0 a _ rfl rfl;obtain⟨n,hn,hw⟩:=xAB h.1 r1;cases hn
  have:=isI_u32 hw
  simp[wfTg,this]
 ·cases h
theorem zSL{t:TypeId}{v:Value}{l:Option (List Tg)}(h:zTG P t=true)(hr:Rep P ok w t v (encU l)):(l.getD []).all wfTg=true:=by
 unfold zTG at h;split at h
 ·rename_i e he;rcases yGJ he (yQH h) hr with hx|⟨ds,hx,hall⟩
  ·cases l with
   | none=>rfl
   | some l=>simp[encU] at hx
  ·cases l with
   | none=>rfl
   | some l =>
    simp only[encU,D.list.injEq] at hx;subst hx;refine List.all_eq_true.2 fun x hx=>?_
    obtain⟨v',hv⟩:=hall x.d (List.mem_map.2 ⟨x,hx,rfl⟩);exact rep_tagW h hv
 ·cases h
theorem zTL{t:TypeId}{v:Value}{d:D}(hr:Rep P ok w t v d):(xFC P t=true -> ∀x:T,d=x.d->wfT x=true) /\ ∀e,sl P t=some e->xFC P e=true -> ∀l,d=encT l->wfTo l=true:=by
 have noAgg:∀ {t:TypeId} {d:TypeDesc},P.underlying t=some d->zHA d=false -> ¬xFC P t=true:=fun hu hd h=>by
  obtain⟨d',hu',ha⟩:=zQH (zUG h);rw[hu] at hu';cases hu';rw[hd] at ha;cases ha
 have noSl:∀ {t e:TypeId} {d:TypeDesc},P.underlying t=some d->sl P t=some e->d = .slice e:=fun hu h=>by
  have:=yPL h
  rw[hu] at this;cases this;rfl
 induction hr with
 | int hu _=>exact⟨fun h=>absurd h (noAgg hu rfl),fun e he=>absurd (noSl hu he) (by simp)⟩
 | bool hu=>exact⟨fun h=>absurd h (noAgg hu rfl),fun e he=>absurd (noSl hu he) (by simp)⟩
 | str hu _=>exact⟨fun h=>absurd h (noAgg hu rfl),fun e he=>absurd (noSl hu he) (by simp)⟩
 | flt hu=>exact⟨fun h=>absurd h (noAgg hu rfl),fun e he=>absurd (noSl hu he) (by simp)⟩
 | snil hu =>
  refine⟨fun h=>absurd h (noAgg hu rfl),fun e he ht l hl=>?_⟩;cases l with
  | none=>rfl
  | some l=>simp[encT] at hl
 | bytes hu he8 _ _ _ _ =>
  refine⟨fun h=>absurd h (noAgg hu rfl),fun e he ht=>?_⟩
  have:=noSl hu he
  cases this;exact absurd ht (noAgg he8 rfl)
 | list hu he8 hi hok hlen hcap hmax hsz hc hr ih =>
  rename_i t' e' cap ad i vs ds;refine⟨fun h=>absurd h (noAgg hu rfl),fun e he ht l hl=>?_⟩
  have:=noSl hu he
  cases this;cases l with
  | none=>rfl
  | some l =>
   simp only[encT,D.list.injEq,zBE] at hl;subst hl;refine zBF.2 fun x hx=>?_
   obtain⟨j,hj,hjx⟩:=List.mem_iff_getElem.1 hx;have hj1:(l.map T.d)[j]? = some x.d:=by rw[List.getElem?_map,List.getElem?_eq_getElem hj,hjx];rfl
   have hj2:j<vs.length:=by simp at hlen;omega
   exact(ih j _ _ (List.getElem?_eq_getElem hj2) hj1).1 ht x rfl
 | row hu hd hlen hlen' h1 hr ih =>
  rename_i t' d' vs ds;refine⟨fun h x hx=>?_,fun e he ht=>?_⟩
  rotate_left
  ·have:=noSl hu he
   subst this;simp[zHA] at hd
  have h0:=h;unfold xFC at h;simp only[Bool.and_eq_true] at h;obtain⟨ha,h⟩:=h;split at h
  ·rename_i a b c d'' e hty;simp only[Bool.and_eq_true,decide_eq_true_eq] at h;obtain⟨⟨⟨⟨q1,q2⟩,q3⟩,q4⟩,q5⟩:=h;obtain⟨n,s,bb,l,u⟩:=x;simp only[T.d,D.row.injEq] at hx;subst hx;have cell:∀(j:Nat),j<5 -> ∃v',vs[j]? = some v':=fun j hj=>by
    have hj2:j<vs.length:=by rw[hlen,hty];exact hj
    exact⟨vs[j],List.getElem?_eq_getElem hj2⟩
   rw[hty] at hr ih;obtain⟨v1,r1⟩:=cell 0 (by omega);obtain⟨v4,r4⟩:=cell 3 (by omega);obtain⟨v5,r5⟩:=cell 4 (by omega);obtain⟨n',hn,hw⟩:=xAB q1 (hr 0 a v1 _ rfl r1 rfl);cases hn;have hl:=(ih 3 d'' v4 _ rfl r4 rfl).2 t' q4 h0 l rfl;have hu:=zSL q5 (hr 4 e v5 _ rfl r5 rfl);simp only[wfT,Bool.and_eq_true];exact⟨⟨hw,hl⟩,hu⟩
  ·cases h
 | pnil hu=>exact⟨fun h=>absurd h (noAgg hu rfl),fun e he=>absurd (noSl hu he) (by simp)⟩
 | ptr hu _ _ _ _=>exact⟨fun h=>absurd h (noAgg hu rfl),fun e he=>absurd (noSl hu he) (by simp)⟩
 | mnil hu=>exact⟨fun h=>absurd h (noAgg hu rfl),fun e he=>absurd (noSl hu he) (by simp)⟩
 | map hu _ _ _ _ _ _ _ _ _ _=>exact⟨fun h=>absurd h (noAgg hu rfl),fun e he=>absurd (noSl hu he) (by simp)⟩
end
end Go.Mx
namespace Go.Mx
open Go Go.Dx
theorem xAD(x:Tg):∀(l:List Tg) (y:Tg),y∈xGA x l->y=x∨y∈l
 | [],y,h=>by simp[xGA] at h;exact .inl h
 | t::r,y,h=>by
  simp only[xGA] at h;split at h
  ·rcases List.mem_cons.1 h with rfl|h
   ·simp
   ·rcases xAD x r y h with h|h
    ·exact .inl h
    ·exact .inr (by simp[h])
  ·split at h
   ·exact .inr h
   ·rcases List.mem_cons.1 h with h|h
    ·exact .inl h
    ·exact .inr h
theorem zRG(x:Tg):∀(l:List Tg),SrtT l->SrtT (xGA x l)
 | [],_=>by simp[xGA,SrtT]
 | t::r,h=>by
  obtain⟨h1,h2⟩:=List.pairwise_cons.1 h;simp only[xGA];split
  ·rename_i hlt;refine List.pairwise_cons.2 ⟨fun y hy=>?_,zRG x r h2⟩;rcases xAD x r y hy with rfl|hy
   ·exact hlt
   ·exact h1 y hy
  ·split
   ·exact h
   ·refine List.pairwise_cons.2 ⟨fun y hy=>?_,h⟩;rcases List.mem_cons.1 hy with rfl|hy
    ·omega
    ·have:=h1 y hy;omega
theorem yCF(x:Tg):∀(l:List Tg),(∀y∈l,y.key<x.key)->xGA x l=l++[x]
 | [],_=>rfl
 | t::r,h=>by
  simp only[xGA,if_pos (h t (by simp))];rw[yCF x r (fun y hy=>h y (by simp[hy]))];rfl
theorem zGH(k:Int):∀(l out:List Tg),SrtT out->(∀y∈out,k<=y.key)->SrtT (l.foldl (fun out t=>if t.key<k then out else xGA t out) out) /\ ∀y∈l.foldl (fun out t=>if t.key<k then out else xGA t out) out,k<=y.key/\(y∈out∨y∈l)
 | [],out,h,hk=>⟨h,fun y hy=>⟨hk y hy,.inl hy⟩⟩
 | t::l,out,h,hk=>by
  simp only[List.foldl];by_cases c:t.key<k
  ·rw[if_pos c];obtain⟨a,b⟩:=zGH k l out h hk;exact⟨a,fun y hy=>⟨(b y hy).1,(b y hy).2.imp id (fun h=>by simp[h])⟩⟩
  ·rw[if_neg c];obtain⟨a,b⟩:=zGH k l (xGA t out) (zRG t out h) (fun y hy=>by
    rcases xAD t out y hy with rfl|hy
    ·omega
    ·exact hk y hy)
   refine⟨a,fun y hy=>⟨(b y hy).1,?_⟩⟩;rcases(b y hy).2 with h|h
   ·rcases xAD t out y h with rfl|h
    ·exact .inr (by simp)
    ·exact .inl h
   ·exact .inr (by simp[h])
theorem yZJ(fs:List Fl)(u:Option (List Tg)):SrtT (zWA fs u) /\ ∀y∈zWA fs u,(qHA fs:Int)<=y.key/\y∈u.getD []:=by
 obtain⟨a,b⟩:=zGH (qHA fs) ((u.getD []).take Most) [] List.Pairwise.nil (fun y hy=>by cases hy);refine⟨a,fun y hy=>⟨(b y hy).1,?_⟩⟩;rcases(b y hy).2 with h|h
 ·cases h
 ·exact List.mem_of_mem_take h
theorem qCF(k:Int):∀(l out:List Tg),SrtT (out++l)->(∀y∈l,k<=y.key)->l.foldl (fun out t=>if t.key<k then out else xGA t out) out=out++l
 | [],out,_,_=>by simp
 | t::l,out,h,hk=>by
  simp only[List.foldl];rw[if_neg (by have:=hk t (by simp);omega),yCF t out (fun y hy=>(List.pairwise_append.1 h).2.2 y hy t (by simp))];rw[qCF k l (out++[t]) (by simpa using h) (fun y hy=>hk y (by simp[hy]))]
  simp
theorem unk_id(fs:List Fl)(l:List Tg)(h:SrtT l)(hk:∀y∈l,(qHA fs:Int)<=y.key)(hl:l.length<=Most):zWA fs (nz l)=l:=by
 unfold zWA;rw[xDA,List.take_of_length_le hl]
 have:=qCF (qHA fs) l [] (by simpa using h) hk
 simpa using this
theorem yRL{l:List Tg}(h:SrtT l):SrtT (l.map cut):=List.pairwise_map.2 (h.imp fun h=>h)
theorem unk_cut(fs:List Fl)(u:Option (List Tg)):zWA fs (nz ((zWA fs u).map cut))=(zWA fs u).map cut:=by
 obtain⟨a,b⟩:=yZJ fs u;refine unk_id fs _ (yRL a) (fun y hy=>?_) (by rw[List.length_map];exact zXC fs u);obtain⟨z,hz,rfl⟩:=List.mem_map.1 hy;exact(b z hz).1
theorem unkB_cut(x:Tg):unkB (cut x)=unkB x:=by
 unfold unkB cut;simp only[yQB];rw[List.take_take];simp
mutual
def okU:Fl->Bool
 | .mk _ _ _ n _ _ _ s=>decide (n<=0)&&okUs s
def okUs:Option (List Fl)->Bool
 | none=>true
 | some l=>okUl l
def okUl:List Fl->Bool
 | []=>true
 | f::r=>okU f&&okUl r
end
mutual
def okG:Fl->Bool
 | .mk k a b n g d o s=>(decide (g<0) || (okU (.mk k a b n g d o s)&&(decide (k≠11) || decide (n<0))))&&(decide (k≠11) || decide (o≠11))&&okGs s
def okGs:Option (List Fl)->Bool
 | none=>true
 | some l=>okGl l
def okGl:List Fl->Bool
 | []=>true
 | f::r=>okG f&&okGl r
end
theorem zUJ:∀ {l:List Fl},okGl l=true -> ∀f∈l,okG f=true
 | a::l,h,f,hf=>by
  simp only[okGl,Bool.and_eq_true] at h;rcases List.mem_cons.1 hf with rfl|hf
  ·exact h.1
  ·exact zUJ h.2 f hf
theorem at_nz(l:List T)(i:Nat)(n:Int)(s:Option (List UInt8))(b:Bool)(u:Option (List Tg)):at' (.mk n s b (nz l) u) i=l.getD i T.zero:=by
 have:(T.mk n s b (nz l) u).L=l:=by show (nz l).getD []=l;exact xDA l
 unfold at';rw[this];by_cases h:i<l.length
 ·rw[if_pos (by omega)];rfl
 ·rw[if_neg (by omega),List.getD_eq_getElem?_getD,List.getElem?_eq_none (by omega)];rfl
theorem xEE{A B:Type}{g g':Nat->A->B}:∀(l:List A) (k:Nat),(∀i a,l[i]? = some a->g (k+i) a=g' (k+i) a)->mapI g k l=mapI g' k l
 | [],_,_=>rfl
 | a::l,k,h=>by
  simp only[mapI];have h0:g k a=g' k a:=h 0 a rfl;have h1:mapI g (k+1) l=mapI g' (k+1) l:=xEE l (k+1) (fun i b hb=>by
   have:=h (i+1) b hb
   rwa [show k+(i+1)=k+1+i by omega] at this)
  rw[h0,h1]
theorem zIJ(n:Int)(s:Option (List UInt8))(b:Bool)(l:List T)(u:Option (List Tg)):given (.mk n s b (nz l) u) = .mk n s b (nz (l.map given)) (nz (u.getD [])):=by
 cases l with
 | nil=>rfl
 | cons a l=>simp only[nz,given,zNG,xBE]
theorem gF(fs:Option (List Fl))(v:Int)(t:T):given (FitS fs v t) = .mk 0 none false (nz (mapI (fun i f=>given (qTA f v (at' t i))) 0 (fs.getD []))) (nz ((zWA (fs.getD []) t.u).map cut)):=by
 rw[FitS_eq,zIJ,qPB,xDA]
theorem at_gF(fs:Option (List Fl))(v:Int)(t:T)(i:Nat)(f:Fl)(h:(fs.getD [])[i]? = some f):at' (given (FitS fs v t)) i=given (qTA f v (at' t i)):=by
 rw[gF,at_nz,List.getD_eq_getElem?_getD,qFG _ _ 0 i f h,Nat.zero_add];rfl
theorem u_gF(fs:Option (List Fl))(v:Int)(t:T):zWA (fs.getD []) (given (FitS fs v t)).u=(zWA (fs.getD []) t.u).map cut:=by
 rw[gF];exact unk_cut _ _
theorem given_n(t:T):(given t).n=t.n:=by cases t;rfl
theorem given_s(t:T):(given t).s=t.s:=by cases t;rfl
theorem qIJ(t:T):(given t).null=t.null:=by cases t;rfl
theorem xZK(t:T):(given t).L=t.L.map given:=by
 obtain⟨n,s,b,l,u⟩:=t;show (zNG l).getD []=(l.getD []).map given;cases l with
 | none=>rfl
 | some l=>rw[zNG,xDA,xBE];rfl
theorem xXG(t:T):(given t).u=nz t.U:=by cases t;rfl
end Go.Mx
