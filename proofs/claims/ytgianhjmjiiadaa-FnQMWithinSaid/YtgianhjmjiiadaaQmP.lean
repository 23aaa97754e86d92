/- addToRanges keeps its contracts. -/
import Derived.Test.YtgianhjmjiiadaaQmE
import Derived.KernelRfl
set_option autoImplicit true
set_option relaxedAutoImplicit true
set_option linter.unusedVariables false
set_option linter.unusedSimpArgs false
set_option maxRecDepth 100000
set_option maxHeartbeats 4000000
namespace Go.Proofs.Ytgianhjmjiiadaa
open Go Go.Sy Go.RowKit
noncomputable def nae0 : SE := .mul (.v 0) (.c 2)
noncomputable def nae1 : AE := .tl (.v 0) nae0 (.i (.v 1) (.i (.v 1) .nil))
noncomputable def nae2 : AE := .ap 3 (.a (.v 0) (.i (.v 0) (.i (.v 1) .nil)))
noncomputable def nae3 : SE := .ap 3 (.a (.v 0) (.i (.v 0) (.i (.v 1) .nil)))
noncomputable def nae4 : SE := .add (.v 0) (.c 1)
noncomputable def nae5 : SE := .sub (.v 0) (.c 1)
noncomputable def nax0 : Vl := .out 0 [.b (.c true) (.ap 3 (.a (.v 0) (.i (.v 0) (.i (.v 1) .nil)))), .i (.v 31) (.v 31), .i (.v 32) (.v 32), .i (.v 33) (.v 33), .i (.v 6) (.v 6), .b (.v 0) (.v 0), .i (.v 34) (.v 34), .i (.v 35) (.v 35), .i (.v 36) (.v 36), .b (.v 1) (.v 1), .i (.v 37) (.v 37), .i (.v 38) (.v 38), .i (.v 39) (.v 39), .a nae1 nae2 nae3 2, .i nae4 nae3] [((.eq (.v 0) (.c 0)), true), ((.le (.c 0) (.v 0)), true), ((.le (.v 0) (.c 60)), true), ((.le (.c 0) (.v 1)), true), ((.le (.v 1) (.c 400)), true), ((.ap 1 (.a (.v 0) (.i (.v 0) .nil))), true)]
noncomputable def nax1 : Vl := .go 0 [(20, nae5)] [] [] [((.eq (.v 0) (.c 0)), false), ((.le (.c 0) (.v 0)), true), ((.le (.v 0) (.c 60)), true), ((.le (.c 0) (.v 1)), true), ((.le (.v 1) (.c 400)), true), ((.ap 1 (.a (.v 0) (.i (.v 0) .nil))), true)] (.code (.loop (loopB (prm50 Try.prog).P 50 5))) (loopK (prm50 Try.prog).P 50 5)
noncomputable def nals : List Vl := [nax0, nax1]
noncomputable def np0e0 : AE := .ap 3 (.a (.v 0) (.i (.v 0) (.i (.v 1) .nil)))
noncomputable def np0e1 : SE := .ap 3 (.a (.v 0) (.i (.v 0) (.i (.v 1) .nil)))
noncomputable def np0e2 : SE := .mul (.v 20) (.c 2)
noncomputable def np0e3 : SE := .add np0e2 (.c 1)
noncomputable def np0e4 : SE := .rd (.v 0) np0e3
noncomputable def np0e5 : SE := .rd (.v 0) np0e2
noncomputable def np0e6 : SE := .ap 8 (.a (.v 0) (.i (.v 0) (.i (.v 1) .nil)))
noncomputable def np0e7 : SE := .add (.v 20) (.c 1)
noncomputable def np0e8 : AE := .up (.v 0) np0e3 (.v 1)
noncomputable def np0e9 : SE := .sub (.v 1) (.c 1)
noncomputable def np0e10 : AE := .up (.v 0) np0e2 (.v 1)
noncomputable def np0e11 : SE := .sub (.v 20) (.c 1)
noncomputable def np0e12 : SE := .mul np0e11 (.c 2)
noncomputable def np0e13 : SE := .add np0e12 (.c 1)
noncomputable def np0e14 : AE := .up np0e10 np0e13 np0e4
noncomputable def np0e15 : SE := .sub np0e7 (.v 20)
noncomputable def np0e16 : AE := .ap 4 (.a np0e14 (.i (.v 20) (.i np0e15 .nil)))
noncomputable def np0e17 : SE := .sub (.v 0) np0e15
noncomputable def np0e18 : SE := .rd np0e10 np0e13
noncomputable def np0e19 : SE := .add np0e18 (.c 1)
noncomputable def np0e20 : SE := .wrap .i64 np0e19
noncomputable def np0e21 : SE := .rd (.v 0) np0e13
noncomputable def np0e22 : SE := .add (.v 1) (.c 1)
noncomputable def np0e23 : AE := .tl (.v 0) (.c 0) (.i (.v 1) (.i (.v 1) .nil))
noncomputable def np0e24 : AE := .ap 2 (.a (.v 0) (.i (.v 0) (.i np0e7 (.a np0e23 .nil))))
noncomputable def np0e25 : SE := .add (.v 0) (.c 1)
noncomputable def np0e26 : AE := .ap 2 (.a (.v 0) (.i (.v 0) (.i (.c 0) (.a np0e23 .nil))))
noncomputable def np0x0 : Vl := .out 0 [.b (.c false) (.ap 3 (.a (.v 0) (.i (.v 0) (.i (.v 1) .nil)))), .i (.v 31) (.v 31), .i (.v 32) (.v 32), .i (.v 33) (.v 33), .i (.v 6) (.v 6), .b (.v 0) (.v 0), .i (.v 34) (.v 34), .i (.v 35) (.v 35), .i (.v 36) (.v 36), .b (.v 1) (.v 1), .i (.v 37) (.v 37), .i (.v 38) (.v 38), .i (.v 39) (.v 39), .a (.v 0) np0e0 np0e1 2, .i (.v 0) np0e1] [((.le (.v 1) np0e4), true), ((.le np0e5 (.v 1)), true), ((.le (.c 0) (.v 20)), true), ((.le (.c 0) (.v 0)), true), ((.le (.v 0) (.c 60)), true), ((.le (.c 0) (.v 1)), true), ((.le (.v 1) (.c 400)), true), ((.ap 1 (.a (.v 0) (.i (.v 0) .nil))), true), ((.le (.c (-1)) (.v 20)), true), ((.le (.v 20) (.c 59)), true), ((.lt (.v 20) (.v 0)), true), ((.le np0e6 np0e7), true), ((.le (.c 1) (.v 0)), true)]
noncomputable def np0x1 : Vl := .out 0 [.b (.c true) (.ap 3 (.a (.v 0) (.i (.v 0) (.i (.v 1) .nil)))), .i (.v 31) (.v 31), .i (.v 32) (.v 32), .i (.v 33) (.v 33), .i (.v 6) (.v 6), .b (.v 0) (.v 0), .i (.v 34) (.v 34), .i (.v 35) (.v 35), .i (.v 36) (.v 36), .b (.v 1) (.v 1), .i (.v 37) (.v 37), .i (.v 38) (.v 38), .i (.v 39) (.v 39), .a np0e8 np0e0 np0e1 2, .i (.v 0) np0e1] [((.eq np0e4 np0e9), true), ((.le (.v 1) np0e4), false), ((.le np0e5 (.v 1)), true), ((.le (.c 0) (.v 20)), true), ((.le (.c 0) (.v 0)), true), ((.le (.v 0) (.c 60)), true), ((.le (.c 0) (.v 1)), true), ((.le (.v 1) (.c 400)), true), ((.ap 1 (.a (.v 0) (.i (.v 0) .nil))), true), ((.le (.c (-1)) (.v 20)), true), ((.le (.v 20) (.c 59)), true), ((.lt (.v 20) (.v 0)), true), ((.le np0e6 np0e7), true), ((.le (.c 1) (.v 0)), true)]
noncomputable def np0x2 : Vl := .out 0 [.b (.c true) (.ap 3 (.a (.v 0) (.i (.v 0) (.i (.v 1) .nil)))), .i (.v 31) (.v 31), .i (.v 32) (.v 32), .i (.v 33) (.v 33), .i (.v 6) (.v 6), .b (.v 0) (.v 0), .i (.v 34) (.v 34), .i (.v 35) (.v 35), .i (.v 36) (.v 36), .b (.v 1) (.v 1), .i (.v 37) (.v 37), .i (.v 38) (.v 38), .i (.v 39) (.v 39), .a np0e16 np0e0 np0e1 2, .i np0e17 np0e1] [((.le np0e7 (.v 0)), true), ((.lt (.v 20) np0e7), true), ((.eq np0e20 (.v 1)), true), ((.lt np0e11 (.v 0)), true), ((.lt (.c 0) (.v 20)), true), ((.le np0e21 (.c 1000)), true), ((.le (.c 0) np0e21), true), ((.eq np0e5 np0e22), true), ((.eq np0e4 np0e9), false), ((.le (.v 1) np0e4), false), ((.le np0e5 (.v 1)), true), ((.le (.c 0) (.v 20)), true), ((.le (.c 0) (.v 0)), true), ((.le (.v 0) (.c 60)), true), ((.le (.c 0) (.v 1)), true), ((.le (.v 1) (.c 400)), true), ((.ap 1 (.a (.v 0) (.i (.v 0) .nil))), true), ((.le (.c (-1)) (.v 20)), true), ((.le (.v 20) (.c 59)), true), ((.lt (.v 20) (.v 0)), true), ((.le np0e6 np0e7), true), ((.le (.c 1) (.v 0)), true)]
noncomputable def np0x3 : Vl := .dead [((.le np0e7 (.v 0)), false), ((.lt (.v 20) np0e7), true), ((.eq np0e20 (.v 1)), true), ((.lt np0e11 (.v 0)), true), ((.lt (.c 0) (.v 20)), true), ((.le np0e21 (.c 1000)), true), ((.le (.c 0) np0e21), true), ((.eq np0e5 np0e22), true), ((.eq np0e4 np0e9), false), ((.le (.v 1) np0e4), false), ((.le np0e5 (.v 1)), true), ((.le (.c 0) (.v 20)), true), ((.le (.c 0) (.v 0)), true), ((.le (.v 0) (.c 60)), true), ((.le (.c 0) (.v 1)), true), ((.le (.v 1) (.c 400)), true), ((.ap 1 (.a (.v 0) (.i (.v 0) .nil))), true), ((.le (.c (-1)) (.v 20)), true), ((.le (.v 20) (.c 59)), true), ((.lt (.v 20) (.v 0)), true), ((.le np0e6 np0e7), true), ((.le (.c 1) (.v 0)), true)]
noncomputable def np0x4 : Vl := .dead [((.lt (.v 20) np0e7), false), ((.eq np0e20 (.v 1)), true), ((.lt np0e11 (.v 0)), true), ((.lt (.c 0) (.v 20)), true), ((.le np0e21 (.c 1000)), true), ((.le (.c 0) np0e21), true), ((.eq np0e5 np0e22), true), ((.eq np0e4 np0e9), false), ((.le (.v 1) np0e4), false), ((.le np0e5 (.v 1)), true), ((.le (.c 0) (.v 20)), true), ((.le (.c 0) (.v 0)), true), ((.le (.v 0) (.c 60)), true), ((.le (.c 0) (.v 1)), true), ((.le (.v 1) (.c 400)), true), ((.ap 1 (.a (.v 0) (.i (.v 0) .nil))), true), ((.le (.c (-1)) (.v 20)), true), ((.le (.v 20) (.c 59)), true), ((.lt (.v 20) (.v 0)), true), ((.le np0e6 np0e7), true), ((.le (.c 1) (.v 0)), true)]
noncomputable def np0x5 : Vl := .out 0 [.b (.c true) (.ap 3 (.a (.v 0) (.i (.v 0) (.i (.v 1) .nil)))), .i (.v 31) (.v 31), .i (.v 32) (.v 32), .i (.v 33) (.v 33), .i (.v 6) (.v 6), .b (.v 0) (.v 0), .i (.v 34) (.v 34), .i (.v 35) (.v 35), .i (.v 36) (.v 36), .b (.v 1) (.v 1), .i (.v 37) (.v 37), .i (.v 38) (.v 38), .i (.v 39) (.v 39), .a np0e10 np0e0 np0e1 2, .i (.v 0) np0e1] [((.eq np0e20 (.v 1)), false), ((.lt np0e11 (.v 0)), true), ((.lt (.c 0) (.v 20)), true), ((.le np0e21 (.c 1000)), true), ((.le (.c 0) np0e21), true), ((.eq np0e5 np0e22), true), ((.eq np0e4 np0e9), false), ((.le (.v 1) np0e4), false), ((.le np0e5 (.v 1)), true), ((.le (.c 0) (.v 20)), true), ((.le (.c 0) (.v 0)), true), ((.le (.v 0) (.c 60)), true), ((.le (.c 0) (.v 1)), true), ((.le (.v 1) (.c 400)), true), ((.ap 1 (.a (.v 0) (.i (.v 0) .nil))), true), ((.le (.c (-1)) (.v 20)), true), ((.le (.v 20) (.c 59)), true), ((.lt (.v 20) (.v 0)), true), ((.le np0e6 np0e7), true), ((.le (.c 1) (.v 0)), true)]
noncomputable def np0x6 : Vl := .dead [((.lt np0e11 (.v 0)), false), ((.lt (.c 0) (.v 20)), true), ((.le np0e21 (.c 1000)), true), ((.le (.c 0) np0e21), true), ((.eq np0e5 np0e22), true), ((.eq np0e4 np0e9), false), ((.le (.v 1) np0e4), false), ((.le np0e5 (.v 1)), true), ((.le (.c 0) (.v 20)), true), ((.le (.c 0) (.v 0)), true), ((.le (.v 0) (.c 60)), true), ((.le (.c 0) (.v 1)), true), ((.le (.v 1) (.c 400)), true), ((.ap 1 (.a (.v 0) (.i (.v 0) .nil))), true), ((.le (.c (-1)) (.v 20)), true), ((.le (.v 20) (.c 59)), true), ((.lt (.v 20) (.v 0)), true), ((.le np0e6 np0e7), true), ((.le (.c 1) (.v 0)), true)]
noncomputable def np0x7 : Vl := .out 0 [.b (.c true) (.ap 3 (.a (.v 0) (.i (.v 0) (.i (.v 1) .nil)))), .i (.v 31) (.v 31), .i (.v 32) (.v 32), .i (.v 33) (.v 33), .i (.v 6) (.v 6), .b (.v 0) (.v 0), .i (.v 34) (.v 34), .i (.v 35) (.v 35), .i (.v 36) (.v 36), .b (.v 1) (.v 1), .i (.v 37) (.v 37), .i (.v 38) (.v 38), .i (.v 39) (.v 39), .a np0e10 np0e0 np0e1 2, .i (.v 0) np0e1] [((.lt (.c 0) (.v 20)), false), ((.le np0e21 (.c 1000)), true), ((.le (.c 0) np0e21), true), ((.eq np0e5 np0e22), true), ((.eq np0e4 np0e9), false), ((.le (.v 1) np0e4), false), ((.le np0e5 (.v 1)), true), ((.le (.c 0) (.v 20)), true), ((.le (.c 0) (.v 0)), true), ((.le (.v 0) (.c 60)), true), ((.le (.c 0) (.v 1)), true), ((.le (.v 1) (.c 400)), true), ((.ap 1 (.a (.v 0) (.i (.v 0) .nil))), true), ((.le (.c (-1)) (.v 20)), true), ((.le (.v 20) (.c 59)), true), ((.lt (.v 20) (.v 0)), true), ((.le np0e6 np0e7), true), ((.le (.c 1) (.v 0)), true)]
noncomputable def np0x8 : Vl := .dead [((.le np0e21 (.c 1000)), false), ((.le (.c 0) np0e21), true), ((.eq np0e5 np0e22), true), ((.eq np0e4 np0e9), false), ((.le (.v 1) np0e4), false), ((.le np0e5 (.v 1)), true), ((.le (.c 0) (.v 20)), true), ((.le (.c 0) (.v 0)), true), ((.le (.v 0) (.c 60)), true), ((.le (.c 0) (.v 1)), true), ((.le (.v 1) (.c 400)), true), ((.ap 1 (.a (.v 0) (.i (.v 0) .nil))), true), ((.le (.c (-1)) (.v 20)), true), ((.le (.v 20) (.c 59)), true), ((.lt (.v 20) (.v 0)), true), ((.le np0e6 np0e7), true), ((.le (.c 1) (.v 0)), true)]
noncomputable def np0x9 : Vl := .dead [((.le (.c 0) np0e21), false), ((.eq np0e5 np0e22), true), ((.eq np0e4 np0e9), false), ((.le (.v 1) np0e4), false), ((.le np0e5 (.v 1)), true), ((.le (.c 0) (.v 20)), true), ((.le (.c 0) (.v 0)), true), ((.le (.v 0) (.c 60)), true), ((.le (.c 0) (.v 1)), true), ((.le (.v 1) (.c 400)), true), ((.ap 1 (.a (.v 0) (.i (.v 0) .nil))), true), ((.le (.c (-1)) (.v 20)), true), ((.le (.v 20) (.c 59)), true), ((.lt (.v 20) (.v 0)), true), ((.le np0e6 np0e7), true), ((.le (.c 1) (.v 0)), true)]
noncomputable def np0x10 : Vl := .out 0 [.b (.c true) (.ap 3 (.a (.v 0) (.i (.v 0) (.i (.v 1) .nil)))), .i (.v 31) (.v 31), .i (.v 32) (.v 32), .i (.v 33) (.v 33), .i (.v 6) (.v 6), .b (.v 0) (.v 0), .i (.v 34) (.v 34), .i (.v 35) (.v 35), .i (.v 36) (.v 36), .b (.v 1) (.v 1), .i (.v 37) (.v 37), .i (.v 38) (.v 38), .i (.v 39) (.v 39), .a np0e24 np0e0 np0e1 2, .i np0e25 np0e1] [((.le np0e7 (.v 0)), true), ((.lt np0e4 (.v 1)), true), ((.eq np0e5 np0e22), false), ((.eq np0e4 np0e9), false), ((.le (.v 1) np0e4), false), ((.le np0e5 (.v 1)), true), ((.le (.c 0) (.v 20)), true), ((.le (.c 0) (.v 0)), true), ((.le (.v 0) (.c 60)), true), ((.le (.c 0) (.v 1)), true), ((.le (.v 1) (.c 400)), true), ((.ap 1 (.a (.v 0) (.i (.v 0) .nil))), true), ((.le (.c (-1)) (.v 20)), true), ((.le (.v 20) (.c 59)), true), ((.lt (.v 20) (.v 0)), true), ((.le np0e6 np0e7), true), ((.le (.c 1) (.v 0)), true)]
noncomputable def np0x11 : Vl := .dead [((.le np0e7 (.v 0)), false), ((.lt np0e4 (.v 1)), true), ((.eq np0e5 np0e22), false), ((.eq np0e4 np0e9), false), ((.le (.v 1) np0e4), false), ((.le np0e5 (.v 1)), true), ((.le (.c 0) (.v 20)), true), ((.le (.c 0) (.v 0)), true), ((.le (.v 0) (.c 60)), true), ((.le (.c 0) (.v 1)), true), ((.le (.v 1) (.c 400)), true), ((.ap 1 (.a (.v 0) (.i (.v 0) .nil))), true), ((.le (.c (-1)) (.v 20)), true), ((.le (.v 20) (.c 59)), true), ((.lt (.v 20) (.v 0)), true), ((.le np0e6 np0e7), true), ((.le (.c 1) (.v 0)), true)]
noncomputable def np0x12 : Vl := .go 0 [(20, np0e11)] [] [] [((.lt np0e4 (.v 1)), false), ((.eq np0e5 np0e22), false), ((.eq np0e4 np0e9), false), ((.le (.v 1) np0e4), false), ((.le np0e5 (.v 1)), true), ((.le (.c 0) (.v 20)), true), ((.le (.c 0) (.v 0)), true), ((.le (.v 0) (.c 60)), true), ((.le (.c 0) (.v 1)), true), ((.le (.v 1) (.c 400)), true), ((.ap 1 (.a (.v 0) (.i (.v 0) .nil))), true), ((.le (.c (-1)) (.v 20)), true), ((.le (.v 20) (.c 59)), true), ((.lt (.v 20) (.v 0)), true), ((.le np0e6 np0e7), true), ((.le (.c 1) (.v 0)), true)] (.exit .normal) (.loop (loopB (prm50 Try.prog).P 50 5) :: loopK (prm50 Try.prog).P 50 5)
noncomputable def np0x13 : Vl := .out 0 [.b (.c true) (.ap 3 (.a (.v 0) (.i (.v 0) (.i (.v 1) .nil)))), .i (.v 31) (.v 31), .i (.v 32) (.v 32), .i (.v 33) (.v 33), .i (.v 6) (.v 6), .b (.v 0) (.v 0), .i (.v 34) (.v 34), .i (.v 35) (.v 35), .i (.v 36) (.v 36), .b (.v 1) (.v 1), .i (.v 37) (.v 37), .i (.v 38) (.v 38), .i (.v 39) (.v 39), .a np0e8 np0e0 np0e1 2, .i (.v 0) np0e1] [((.eq np0e4 np0e9), true), ((.le np0e5 (.v 1)), false), ((.le (.c 0) (.v 20)), true), ((.le (.c 0) (.v 0)), true), ((.le (.v 0) (.c 60)), true), ((.le (.c 0) (.v 1)), true), ((.le (.v 1) (.c 400)), true), ((.ap 1 (.a (.v 0) (.i (.v 0) .nil))), true), ((.le (.c (-1)) (.v 20)), true), ((.le (.v 20) (.c 59)), true), ((.lt (.v 20) (.v 0)), true), ((.le np0e6 np0e7), true), ((.le (.c 1) (.v 0)), true)]
noncomputable def np0x14 : Vl := .out 0 [.b (.c true) (.ap 3 (.a (.v 0) (.i (.v 0) (.i (.v 1) .nil)))), .i (.v 31) (.v 31), .i (.v 32) (.v 32), .i (.v 33) (.v 33), .i (.v 6) (.v 6), .b (.v 0) (.v 0), .i (.v 34) (.v 34), .i (.v 35) (.v 35), .i (.v 36) (.v 36), .b (.v 1) (.v 1), .i (.v 37) (.v 37), .i (.v 38) (.v 38), .i (.v 39) (.v 39), .a np0e16 np0e0 np0e1 2, .i np0e17 np0e1] [((.le np0e7 (.v 0)), true), ((.lt (.v 20) np0e7), true), ((.eq np0e20 (.v 1)), true), ((.lt np0e11 (.v 0)), true), ((.lt (.c 0) (.v 20)), true), ((.le np0e21 (.c 1000)), true), ((.le (.c 0) np0e21), true), ((.eq np0e5 np0e22), true), ((.eq np0e4 np0e9), false), ((.le np0e5 (.v 1)), false), ((.le (.c 0) (.v 20)), true), ((.le (.c 0) (.v 0)), true), ((.le (.v 0) (.c 60)), true), ((.le (.c 0) (.v 1)), true), ((.le (.v 1) (.c 400)), true), ((.ap 1 (.a (.v 0) (.i (.v 0) .nil))), true), ((.le (.c (-1)) (.v 20)), true), ((.le (.v 20) (.c 59)), true), ((.lt (.v 20) (.v 0)), true), ((.le np0e6 np0e7), true), ((.le (.c 1) (.v 0)), true)]
noncomputable def np0x15 : Vl := .dead [((.le np0e7 (.v 0)), false), ((.lt (.v 20) np0e7), true), ((.eq np0e20 (.v 1)), true), ((.lt np0e11 (.v 0)), true), ((.lt (.c 0) (.v 20)), true), ((.le np0e21 (.c 1000)), true), ((.le (.c 0) np0e21), true), ((.eq np0e5 np0e22), true), ((.eq np0e4 np0e9), false), ((.le np0e5 (.v 1)), false), ((.le (.c 0) (.v 20)), true), ((.le (.c 0) (.v 0)), true), ((.le (.v 0) (.c 60)), true), ((.le (.c 0) (.v 1)), true), ((.le (.v 1) (.c 400)), true), ((.ap 1 (.a (.v 0) (.i (.v 0) .nil))), true), ((.le (.c (-1)) (.v 20)), true), ((.le (.v 20) (.c 59)), true), ((.lt (.v 20) (.v 0)), true), ((.le np0e6 np0e7), true), ((.le (.c 1) (.v 0)), true)]
noncomputable def np0x16 : Vl := .dead [((.lt (.v 20) np0e7), false), ((.eq np0e20 (.v 1)), true), ((.lt np0e11 (.v 0)), true), ((.lt (.c 0) (.v 20)), true), ((.le np0e21 (.c 1000)), true), ((.le (.c 0) np0e21), true), ((.eq np0e5 np0e22), true), ((.eq np0e4 np0e9), false), ((.le np0e5 (.v 1)), false), ((.le (.c 0) (.v 20)), true), ((.le (.c 0) (.v 0)), true), ((.le (.v 0) (.c 60)), true), ((.le (.c 0) (.v 1)), true), ((.le (.v 1) (.c 400)), true), ((.ap 1 (.a (.v 0) (.i (.v 0) .nil))), true), ((.le (.c (-1)) (.v 20)), true), ((.le (.v 20) (.c 59)), true), ((.lt (.v 20) (.v 0)), true), ((.le np0e6 np0e7), true), ((.le (.c 1) (.v 0)), true)]
noncomputable def np0x17 : Vl := .out 0 [.b (.c true) (.ap 3 (.a (.v 0) (.i (.v 0) (.i (.v 1) .nil)))), .i (.v 31) (.v 31), .i (.v 32) (.v 32), .i (.v 33) (.v 33), .i (.v 6) (.v 6), .b (.v 0) (.v 0), .i (.v 34) (.v 34), .i (.v 35) (.v 35), .i (.v 36) (.v 36), .b (.v 1) (.v 1), .i (.v 37) (.v 37), .i (.v 38) (.v 38), .i (.v 39) (.v 39), .a np0e10 np0e0 np0e1 2, .i (.v 0) np0e1] [((.eq np0e20 (.v 1)), false), ((.lt np0e11 (.v 0)), true), ((.lt (.c 0) (.v 20)), true), ((.le np0e21 (.c 1000)), true), ((.le (.c 0) np0e21), true), ((.eq np0e5 np0e22), true), ((.eq np0e4 np0e9), false), ((.le np0e5 (.v 1)), false), ((.le (.c 0) (.v 20)), true), ((.le (.c 0) (.v 0)), true), ((.le (.v 0) (.c 60)), true), ((.le (.c 0) (.v 1)), true), ((.le (.v 1) (.c 400)), true), ((.ap 1 (.a (.v 0) (.i (.v 0) .nil))), true), ((.le (.c (-1)) (.v 20)), true), ((.le (.v 20) (.c 59)), true), ((.lt (.v 20) (.v 0)), true), ((.le np0e6 np0e7), true), ((.le (.c 1) (.v 0)), true)]
noncomputable def np0x18 : Vl := .dead [((.lt np0e11 (.v 0)), false), ((.lt (.c 0) (.v 20)), true), ((.le np0e21 (.c 1000)), true), ((.le (.c 0) np0e21), true), ((.eq np0e5 np0e22), true), ((.eq np0e4 np0e9), false), ((.le np0e5 (.v 1)), false), ((.le (.c 0) (.v 20)), true), ((.le (.c 0) (.v 0)), true), ((.le (.v 0) (.c 60)), true), ((.le (.c 0) (.v 1)), true), ((.le (.v 1) (.c 400)), true), ((.ap 1 (.a (.v 0) (.i (.v 0) .nil))), true), ((.le (.c (-1)) (.v 20)), true), ((.le (.v 20) (.c 59)), true), ((.lt (.v 20) (.v 0)), true), ((.le np0e6 np0e7), true), ((.le (.c 1) (.v 0)), true)]
noncomputable def np0x19 : Vl := .out 0 [.b (.c true) (.ap 3 (.a (.v 0) (.i (.v 0) (.i (.v 1) .nil)))), .i (.v 31) (.v 31), .i (.v 32) (.v 32), .i (.v 33) (.v 33), .i (.v 6) (.v 6), .b (.v 0) (.v 0), .i (.v 34) (.v 34), .i (.v 35) (.v 35), .i (.v 36) (.v 36), .b (.v 1) (.v 1), .i (.v 37) (.v 37), .i (.v 38) (.v 38), .i (.v 39) (.v 39), .a np0e10 np0e0 np0e1 2, .i (.v 0) np0e1] [((.lt (.c 0) (.v 20)), false), ((.le np0e21 (.c 1000)), true), ((.le (.c 0) np0e21), true), ((.eq np0e5 np0e22), true), ((.eq np0e4 np0e9), false), ((.le np0e5 (.v 1)), false), ((.le (.c 0) (.v 20)), true), ((.le (.c 0) (.v 0)), true), ((.le (.v 0) (.c 60)), true), ((.le (.c 0) (.v 1)), true), ((.le (.v 1) (.c 400)), true), ((.ap 1 (.a (.v 0) (.i (.v 0) .nil))), true), ((.le (.c (-1)) (.v 20)), true), ((.le (.v 20) (.c 59)), true), ((.lt (.v 20) (.v 0)), true), ((.le np0e6 np0e7), true), ((.le (.c 1) (.v 0)), true)]
noncomputable def np0x20 : Vl := .dead [((.le np0e21 (.c 1000)), false), ((.le (.c 0) np0e21), true), ((.eq np0e5 np0e22), true), ((.eq np0e4 np0e9), false), ((.le np0e5 (.v 1)), false), ((.le (.c 0) (.v 20)), true), ((.le (.c 0) (.v 0)), true), ((.le (.v 0) (.c 60)), true), ((.le (.c 0) (.v 1)), true), ((.le (.v 1) (.c 400)), true), ((.ap 1 (.a (.v 0) (.i (.v 0) .nil))), true), ((.le (.c (-1)) (.v 20)), true), ((.le (.v 20) (.c 59)), true), ((.lt (.v 20) (.v 0)), true), ((.le np0e6 np0e7), true), ((.le (.c 1) (.v 0)), true)]
noncomputable def np0x21 : Vl := .dead [((.le (.c 0) np0e21), false), ((.eq np0e5 np0e22), true), ((.eq np0e4 np0e9), false), ((.le np0e5 (.v 1)), false), ((.le (.c 0) (.v 20)), true), ((.le (.c 0) (.v 0)), true), ((.le (.v 0) (.c 60)), true), ((.le (.c 0) (.v 1)), true), ((.le (.v 1) (.c 400)), true), ((.ap 1 (.a (.v 0) (.i (.v 0) .nil))), true), ((.le (.c (-1)) (.v 20)), true), ((.le (.v 20) (.c 59)), true), ((.lt (.v 20) (.v 0)), true), ((.le np0e6 np0e7), true), ((.le (.c 1) (.v 0)), true)]
noncomputable def np0x22 : Vl := .out 0 [.b (.c true) (.ap 3 (.a (.v 0) (.i (.v 0) (.i (.v 1) .nil)))), .i (.v 31) (.v 31), .i (.v 32) (.v 32), .i (.v 33) (.v 33), .i (.v 6) (.v 6), .b (.v 0) (.v 0), .i (.v 34) (.v 34), .i (.v 35) (.v 35), .i (.v 36) (.v 36), .b (.v 1) (.v 1), .i (.v 37) (.v 37), .i (.v 38) (.v 38), .i (.v 39) (.v 39), .a np0e24 np0e0 np0e1 2, .i np0e25 np0e1] [((.le np0e7 (.v 0)), true), ((.lt np0e4 (.v 1)), true), ((.eq np0e5 np0e22), false), ((.eq np0e4 np0e9), false), ((.le np0e5 (.v 1)), false), ((.le (.c 0) (.v 20)), true), ((.le (.c 0) (.v 0)), true), ((.le (.v 0) (.c 60)), true), ((.le (.c 0) (.v 1)), true), ((.le (.v 1) (.c 400)), true), ((.ap 1 (.a (.v 0) (.i (.v 0) .nil))), true), ((.le (.c (-1)) (.v 20)), true), ((.le (.v 20) (.c 59)), true), ((.lt (.v 20) (.v 0)), true), ((.le np0e6 np0e7), true), ((.le (.c 1) (.v 0)), true)]
noncomputable def np0x23 : Vl := .dead [((.le np0e7 (.v 0)), false), ((.lt np0e4 (.v 1)), true), ((.eq np0e5 np0e22), false), ((.eq np0e4 np0e9), false), ((.le np0e5 (.v 1)), false), ((.le (.c 0) (.v 20)), true), ((.le (.c 0) (.v 0)), true), ((.le (.v 0) (.c 60)), true), ((.le (.c 0) (.v 1)), true), ((.le (.v 1) (.c 400)), true), ((.ap 1 (.a (.v 0) (.i (.v 0) .nil))), true), ((.le (.c (-1)) (.v 20)), true), ((.le (.v 20) (.c 59)), true), ((.lt (.v 20) (.v 0)), true), ((.le np0e6 np0e7), true), ((.le (.c 1) (.v 0)), true)]
noncomputable def np0x24 : Vl := .go 0 [(20, np0e11)] [] [] [((.lt np0e4 (.v 1)), false), ((.eq np0e5 np0e22), false), ((.eq np0e4 np0e9), false), ((.le np0e5 (.v 1)), false), ((.le (.c 0) (.v 20)), true), ((.le (.c 0) (.v 0)), true), ((.le (.v 0) (.c 60)), true), ((.le (.c 0) (.v 1)), true), ((.le (.v 1) (.c 400)), true), ((.ap 1 (.a (.v 0) (.i (.v 0) .nil))), true), ((.le (.c (-1)) (.v 20)), true), ((.le (.v 20) (.c 59)), true), ((.lt (.v 20) (.v 0)), true), ((.le np0e6 np0e7), true), ((.le (.c 1) (.v 0)), true)] (.exit .normal) (.loop (loopB (prm50 Try.prog).P 50 5) :: loopK (prm50 Try.prog).P 50 5)
noncomputable def np0x25 : Vl := .out 0 [.b (.c true) (.ap 3 (.a (.v 0) (.i (.v 0) (.i (.v 1) .nil)))), .i (.v 31) (.v 31), .i (.v 32) (.v 32), .i (.v 33) (.v 33), .i (.v 6) (.v 6), .b (.v 0) (.v 0), .i (.v 34) (.v 34), .i (.v 35) (.v 35), .i (.v 36) (.v 36), .b (.v 1) (.v 1), .i (.v 37) (.v 37), .i (.v 38) (.v 38), .i (.v 39) (.v 39), .a np0e26 np0e0 np0e1 2, .i np0e25 np0e1] [((.le (.c 0) (.v 20)), false), ((.le (.c 0) (.v 0)), true), ((.le (.v 0) (.c 60)), true), ((.le (.c 0) (.v 1)), true), ((.le (.v 1) (.c 400)), true), ((.ap 1 (.a (.v 0) (.i (.v 0) .nil))), true), ((.le (.c (-1)) (.v 20)), true), ((.le (.v 20) (.c 59)), true), ((.lt (.v 20) (.v 0)), true), ((.le np0e6 np0e7), true), ((.le (.c 1) (.v 0)), true)]
noncomputable def np0ls : List Vl := [np0x0, np0x1, np0x2, np0x3, np0x4, np0x5, np0x6, np0x7, np0x8, np0x9, np0x10, np0x11, np0x12, np0x13, np0x14, np0x15, np0x16, np0x17, np0x18, np0x19, np0x20, np0x21, np0x22, np0x23, np0x24, np0x25]
theorem np0run : (run (prm50 Try.prog) 900 (ptD (pts50 Try.prog laN an2) 0 50)).map (vOf (prm50 Try.prog) (ct50 laN an2) (pts50 Try.prog laN an2)) = np0ls := by kernel_rfl
noncomputable def tae0 : SE := .mul (.v 0) (.c 2)
noncomputable def tae1 : AE := .tl (.v 0) tae0 (.i (.v 1) (.i (.v 1) .nil))
noncomputable def tae2 : AE := .ap 3 (.a (.v 0) (.i (.v 0) (.i (.v 1) .nil)))
noncomputable def tae3 : SE := .ap 3 (.a (.v 0) (.i (.v 0) (.i (.v 1) .nil)))
noncomputable def tae4 : SE := .add (.v 0) (.c 1)
noncomputable def tae5 : SE := .sub (.v 0) (.c 1)
noncomputable def tax0 : Vl := .out 0 [.b (.c true) (.ap 3 (.a (.v 0) (.i (.v 0) (.i (.v 1) .nil)))), .i (.v 31) (.v 31), .i (.v 32) (.v 32), .i (.v 33) (.v 33), .i (.v 6) (.v 6), .b (.v 0) (.v 0), .i (.v 34) (.v 34), .i (.v 35) (.v 35), .i (.v 36) (.v 36), .b (.v 1) (.v 1), .i (.v 37) (.v 37), .i (.v 38) (.v 38), .i (.v 39) (.v 39), .a tae1 tae2 tae3 2, .i tae4 tae3] [((.eq (.v 0) (.c 0)), true), ((.le (.c 0) (.v 0)), true), ((.le (.v 0) (.c 60)), true), ((.le (.c 0) (.v 1)), true), ((.le (.v 1) (.c 400)), true), ((.ap 1 (.a (.v 0) (.i (.v 0) .nil))), true)]
noncomputable def tax1 : Vl := .go 0 [(20, tae5)] [] [] [((.eq (.v 0) (.c 0)), false), ((.le (.c 0) (.v 0)), true), ((.le (.v 0) (.c 60)), true), ((.le (.c 0) (.v 1)), true), ((.le (.v 1) (.c 400)), true), ((.ap 1 (.a (.v 0) (.i (.v 0) .nil))), true)] (.code (.loop (loopB (prm50 Try.prog).P 50 5))) (loopK (prm50 Try.prog).P 50 5)
noncomputable def tals : List Vl := [tax0, tax1]
noncomputable def tp0e0 : AE := .ap 3 (.a (.v 0) (.i (.v 0) (.i (.v 1) .nil)))
noncomputable def tp0e1 : SE := .ap 3 (.a (.v 0) (.i (.v 0) (.i (.v 1) .nil)))
noncomputable def tp0e2 : SE := .mul (.v 20) (.c 2)
noncomputable def tp0e3 : SE := .add tp0e2 (.c 1)
noncomputable def tp0e4 : SE := .rd (.v 0) tp0e3
noncomputable def tp0e5 : SE := .rd (.v 0) tp0e2
noncomputable def tp0e6 : SE := .ap 8 (.a (.v 0) (.i (.v 0) (.i (.v 1) .nil)))
noncomputable def tp0e7 : SE := .add (.v 20) (.c 1)
noncomputable def tp0e8 : AE := .up (.v 0) tp0e3 (.v 1)
noncomputable def tp0e9 : SE := .sub (.v 1) (.c 1)
noncomputable def tp0e10 : AE := .up (.v 0) tp0e2 (.v 1)
noncomputable def tp0e11 : SE := .sub (.v 20) (.c 1)
noncomputable def tp0e12 : SE := .mul tp0e11 (.c 2)
noncomputable def tp0e13 : SE := .add tp0e12 (.c 1)
noncomputable def tp0e14 : AE := .up tp0e10 tp0e13 tp0e4
noncomputable def tp0e15 : SE := .sub tp0e7 (.v 20)
noncomputable def tp0e16 : AE := .ap 4 (.a tp0e14 (.i (.v 20) (.i tp0e15 .nil)))
noncomputable def tp0e17 : SE := .sub (.v 0) tp0e15
noncomputable def tp0e18 : SE := .rd tp0e10 tp0e13
noncomputable def tp0e19 : SE := .add tp0e18 (.c 1)
noncomputable def tp0e20 : SE := .wrap .i64 tp0e19
noncomputable def tp0e21 : SE := .rd (.v 0) tp0e13
noncomputable def tp0e22 : SE := .add (.v 1) (.c 1)
noncomputable def tp0e23 : AE := .tl (.v 0) (.c 0) (.i (.v 1) (.i (.v 1) .nil))
noncomputable def tp0e24 : AE := .ap 2 (.a (.v 0) (.i (.v 0) (.i tp0e7 (.a tp0e23 .nil))))
noncomputable def tp0e25 : SE := .add (.v 0) (.c 1)
noncomputable def tp0e26 : AE := .ap 2 (.a (.v 0) (.i (.v 0) (.i (.c 0) (.a tp0e23 .nil))))
noncomputable def tp0x0 : Vl := .out 0 [.b (.c false) (.ap 3 (.a (.v 0) (.i (.v 0) (.i (.v 1) .nil)))), .i (.v 31) (.v 31), .i (.v 32) (.v 32), .i (.v 33) (.v 33), .i (.v 6) (.v 6), .b (.v 0) (.v 0), .i (.v 34) (.v 34), .i (.v 35) (.v 35), .i (.v 36) (.v 36), .b (.v 1) (.v 1), .i (.v 37) (.v 37), .i (.v 38) (.v 38), .i (.v 39) (.v 39), .a (.v 0) tp0e0 tp0e1 2, .i (.v 0) tp0e1] [((.le (.v 1) tp0e4), true), ((.le tp0e5 (.v 1)), true), ((.le (.c 0) (.v 20)), true), ((.le (.c 0) (.v 0)), true), ((.le (.v 0) (.c 60)), true), ((.le (.c 0) (.v 1)), true), ((.le (.v 1) (.c 400)), true), ((.ap 1 (.a (.v 0) (.i (.v 0) .nil))), true), ((.le (.c (-1)) (.v 20)), true), ((.le (.v 20) (.c 59)), true), ((.lt (.v 20) (.v 0)), true), ((.le tp0e6 tp0e7), true), ((.le (.c 1) (.v 0)), true)]
noncomputable def tp0x1 : Vl := .out 0 [.b (.c true) (.ap 3 (.a (.v 0) (.i (.v 0) (.i (.v 1) .nil)))), .i (.v 31) (.v 31), .i (.v 32) (.v 32), .i (.v 33) (.v 33), .i (.v 6) (.v 6), .b (.v 0) (.v 0), .i (.v 34) (.v 34), .i (.v 35) (.v 35), .i (.v 36) (.v 36), .b (.v 1) (.v 1), .i (.v 37) (.v 37), .i (.v 38) (.v 38), .i (.v 39) (.v 39), .a tp0e8 tp0e0 tp0e1 2, .i (.v 0) tp0e1] [((.eq tp0e4 tp0e9), true), ((.le (.v 1) tp0e4), false), ((.le tp0e5 (.v 1)), true), ((.le (.c 0) (.v 20)), true), ((.le (.c 0) (.v 0)), true), ((.le (.v 0) (.c 60)), true), ((.le (.c 0) (.v 1)), true), ((.le (.v 1) (.c 400)), true), ((.ap 1 (.a (.v 0) (.i (.v 0) .nil))), true), ((.le (.c (-1)) (.v 20)), true), ((.le (.v 20) (.c 59)), true), ((.lt (.v 20) (.v 0)), true), ((.le tp0e6 tp0e7), true), ((.le (.c 1) (.v 0)), true)]
noncomputable def tp0x2 : Vl := .out 0 [.b (.c true) (.ap 3 (.a (.v 0) (.i (.v 0) (.i (.v 1) .nil)))), .i (.v 31) (.v 31), .i (.v 32) (.v 32), .i (.v 33) (.v 33), .i (.v 6) (.v 6), .b (.v 0) (.v 0), .i (.v 34) (.v 34), .i (.v 35) (.v 35), .i (.v 36) (.v 36), .b (.v 1) (.v 1), .i (.v 37) (.v 37), .i (.v 38) (.v 38), .i (.v 39) (.v 39), .a tp0e16 tp0e0 tp0e1 2, .i tp0e17 tp0e1] [((.le tp0e7 (.v 0)), true), ((.lt (.v 20) tp0e7), true), ((.eq tp0e20 (.v 1)), true), ((.lt tp0e11 (.v 0)), true), ((.lt (.c 0) (.v 20)), true), ((.le tp0e21 (.c 1000)), true), ((.le (.c 0) tp0e21), true), ((.eq tp0e5 tp0e22), true), ((.eq tp0e4 tp0e9), false), ((.le (.v 1) tp0e4), false), ((.le tp0e5 (.v 1)), true), ((.le (.c 0) (.v 20)), true), ((.le (.c 0) (.v 0)), true), ((.le (.v 0) (.c 60)), true), ((.le (.c 0) (.v 1)), true), ((.le (.v 1) (.c 400)), true), ((.ap 1 (.a (.v 0) (.i (.v 0) .nil))), true), ((.le (.c (-1)) (.v 20)), true), ((.le (.v 20) (.c 59)), true), ((.lt (.v 20) (.v 0)), true), ((.le tp0e6 tp0e7), true), ((.le (.c 1) (.v 0)), true)]
noncomputable def tp0x3 : Vl := .dead [((.le tp0e7 (.v 0)), false), ((.lt (.v 20) tp0e7), true), ((.eq tp0e20 (.v 1)), true), ((.lt tp0e11 (.v 0)), true), ((.lt (.c 0) (.v 20)), true), ((.le tp0e21 (.c 1000)), true), ((.le (.c 0) tp0e21), true), ((.eq tp0e5 tp0e22), true), ((.eq tp0e4 tp0e9), false), ((.le (.v 1) tp0e4), false), ((.le tp0e5 (.v 1)), true), ((.le (.c 0) (.v 20)), true), ((.le (.c 0) (.v 0)), true), ((.le (.v 0) (.c 60)), true), ((.le (.c 0) (.v 1)), true), ((.le (.v 1) (.c 400)), true), ((.ap 1 (.a (.v 0) (.i (.v 0) .nil))), true), ((.le (.c (-1)) (.v 20)), true), ((.le (.v 20) (.c 59)), true), ((.lt (.v 20) (.v 0)), true), ((.le tp0e6 tp0e7), true), ((.le (.c 1) (.v 0)), true)]
noncomputable def tp0x4 : Vl := .dead [((.lt (.v 20) tp0e7), false), ((.eq tp0e20 (.v 1)), true), ((.lt tp0e11 (.v 0)), true), ((.lt (.c 0) (.v 20)), true), ((.le tp0e21 (.c 1000)), true), ((.le (.c 0) tp0e21), true), ((.eq tp0e5 tp0e22), true), ((.eq tp0e4 tp0e9), false), ((.le (.v 1) tp0e4), false), ((.le tp0e5 (.v 1)), true), ((.le (.c 0) (.v 20)), true), ((.le (.c 0) (.v 0)), true), ((.le (.v 0) (.c 60)), true), ((.le (.c 0) (.v 1)), true), ((.le (.v 1) (.c 400)), true), ((.ap 1 (.a (.v 0) (.i (.v 0) .nil))), true), ((.le (.c (-1)) (.v 20)), true), ((.le (.v 20) (.c 59)), true), ((.lt (.v 20) (.v 0)), true), ((.le tp0e6 tp0e7), true), ((.le (.c 1) (.v 0)), true)]
noncomputable def tp0x5 : Vl := .out 0 [.b (.c true) (.ap 3 (.a (.v 0) (.i (.v 0) (.i (.v 1) .nil)))), .i (.v 31) (.v 31), .i (.v 32) (.v 32), .i (.v 33) (.v 33), .i (.v 6) (.v 6), .b (.v 0) (.v 0), .i (.v 34) (.v 34), .i (.v 35) (.v 35), .i (.v 36) (.v 36), .b (.v 1) (.v 1), .i (.v 37) (.v 37), .i (.v 38) (.v 38), .i (.v 39) (.v 39), .a tp0e10 tp0e0 tp0e1 2, .i (.v 0) tp0e1] [((.eq tp0e20 (.v 1)), false), ((.lt tp0e11 (.v 0)), true), ((.lt (.c 0) (.v 20)), true), ((.le tp0e21 (.c 1000)), true), ((.le (.c 0) tp0e21), true), ((.eq tp0e5 tp0e22), true), ((.eq tp0e4 tp0e9), false), ((.le (.v 1) tp0e4), false), ((.le tp0e5 (.v 1)), true), ((.le (.c 0) (.v 20)), true), ((.le (.c 0) (.v 0)), true), ((.le (.v 0) (.c 60)), true), ((.le (.c 0) (.v 1)), true), ((.le (.v 1) (.c 400)), true), ((.ap 1 (.a (.v 0) (.i (.v 0) .nil))), true), ((.le (.c (-1)) (.v 20)), true), ((.le (.v 20) (.c 59)), true), ((.lt (.v 20) (.v 0)), true), ((.le tp0e6 tp0e7), true), ((.le (.c 1) (.v 0)), true)]
noncomputable def tp0x6 : Vl := .dead [((.lt tp0e11 (.v 0)), false), ((.lt (.c 0) (.v 20)), true), ((.le tp0e21 (.c 1000)), true), ((.le (.c 0) tp0e21), true), ((.eq tp0e5 tp0e22), true), ((.eq tp0e4 tp0e9), false), ((.le (.v 1) tp0e4), false), ((.le tp0e5 (.v 1)), true), ((.le (.c 0) (.v 20)), true), ((.le (.c 0) (.v 0)), true), ((.le (.v 0) (.c 60)), true), ((.le (.c 0) (.v 1)), true), ((.le (.v 1) (.c 400)), true), ((.ap 1 (.a (.v 0) (.i (.v 0) .nil))), true), ((.le (.c (-1)) (.v 20)), true), ((.le (.v 20) (.c 59)), true), ((.lt (.v 20) (.v 0)), true), ((.le tp0e6 tp0e7), true), ((.le (.c 1) (.v 0)), true)]
noncomputable def tp0x7 : Vl := .out 0 [.b (.c true) (.ap 3 (.a (.v 0) (.i (.v 0) (.i (.v 1) .nil)))), .i (.v 31) (.v 31), .i (.v 32) (.v 32), .i (.v 33) (.v 33), .i (.v 6) (.v 6), .b (.v 0) (.v 0), .i (.v 34) (.v 34), .i (.v 35) (.v 35), .i (.v 36) (.v 36), .b (.v 1) (.v 1), .i (.v 37) (.v 37), .i (.v 38) (.v 38), .i (.v 39) (.v 39), .a tp0e10 tp0e0 tp0e1 2, .i (.v 0) tp0e1] [((.lt (.c 0) (.v 20)), false), ((.le tp0e21 (.c 1000)), true), ((.le (.c 0) tp0e21), true), ((.eq tp0e5 tp0e22), true), ((.eq tp0e4 tp0e9), false), ((.le (.v 1) tp0e4), false), ((.le tp0e5 (.v 1)), true), ((.le (.c 0) (.v 20)), true), ((.le (.c 0) (.v 0)), true), ((.le (.v 0) (.c 60)), true), ((.le (.c 0) (.v 1)), true), ((.le (.v 1) (.c 400)), true), ((.ap 1 (.a (.v 0) (.i (.v 0) .nil))), true), ((.le (.c (-1)) (.v 20)), true), ((.le (.v 20) (.c 59)), true), ((.lt (.v 20) (.v 0)), true), ((.le tp0e6 tp0e7), true), ((.le (.c 1) (.v 0)), true)]
noncomputable def tp0x8 : Vl := .dead [((.le tp0e21 (.c 1000)), false), ((.le (.c 0) tp0e21), true), ((.eq tp0e5 tp0e22), true), ((.eq tp0e4 tp0e9), false), ((.le (.v 1) tp0e4), false), ((.le tp0e5 (.v 1)), true), ((.le (.c 0) (.v 20)), true), ((.le (.c 0) (.v 0)), true), ((.le (.v 0) (.c 60)), true), ((.le (.c 0) (.v 1)), true), ((.le (.v 1) (.c 400)), true), ((.ap 1 (.a (.v 0) (.i (.v 0) .nil))), true), ((.le (.c (-1)) (.v 20)), true), ((.le (.v 20) (.c 59)), true), ((.lt (.v 20) (.v 0)), true), ((.le tp0e6 tp0e7), true), ((.le (.c 1) (.v 0)), true)]
noncomputable def tp0x9 : Vl := .dead [((.le (.c 0) tp0e21), false), ((.eq tp0e5 tp0e22), true), ((.eq tp0e4 tp0e9), false), ((.le (.v 1) tp0e4), false), ((.le tp0e5 (.v 1)), true), ((.le (.c 0) (.v 20)), true), ((.le (.c 0) (.v 0)), true), ((.le (.v 0) (.c 60)), true), ((.le (.c 0) (.v 1)), true), ((.le (.v 1) (.c 400)), true), ((.ap 1 (.a (.v 0) (.i (.v 0) .nil))), true), ((.le (.c (-1)) (.v 20)), true), ((.le (.v 20) (.c 59)), true), ((.lt (.v 20) (.v 0)), true), ((.le tp0e6 tp0e7), true), ((.le (.c 1) (.v 0)), true)]
noncomputable def tp0x10 : Vl := .out 0 [.b (.c true) (.ap 3 (.a (.v 0) (.i (.v 0) (.i (.v 1) .nil)))), .i (.v 31) (.v 31), .i (.v 32) (.v 32), .i (.v 33) (.v 33), .i (.v 6) (.v 6), .b (.v 0) (.v 0), .i (.v 34) (.v 34), .i (.v 35) (.v 35), .i (.v 36) (.v 36), .b (.v 1) (.v 1), .i (.v 37) (.v 37), .i (.v 38) (.v 38), .i (.v 39) (.v 39), .a tp0e24 tp0e0 tp0e1 2, .i tp0e25 tp0e1] [((.le tp0e7 (.v 0)), true), ((.lt tp0e4 (.v 1)), true), ((.eq tp0e5 tp0e22), false), ((.eq tp0e4 tp0e9), false), ((.le (.v 1) tp0e4), false), ((.le tp0e5 (.v 1)), true), ((.le (.c 0) (.v 20)), true), ((.le (.c 0) (.v 0)), true), ((.le (.v 0) (.c 60)), true), ((.le (.c 0) (.v 1)), true), ((.le (.v 1) (.c 400)), true), ((.ap 1 (.a (.v 0) (.i (.v 0) .nil))), true), ((.le (.c (-1)) (.v 20)), true), ((.le (.v 20) (.c 59)), true), ((.lt (.v 20) (.v 0)), true), ((.le tp0e6 tp0e7), true), ((.le (.c 1) (.v 0)), true)]
noncomputable def tp0x11 : Vl := .dead [((.le tp0e7 (.v 0)), false), ((.lt tp0e4 (.v 1)), true), ((.eq tp0e5 tp0e22), false), ((.eq tp0e4 tp0e9), false), ((.le (.v 1) tp0e4), false), ((.le tp0e5 (.v 1)), true), ((.le (.c 0) (.v 20)), true), ((.le (.c 0) (.v 0)), true), ((.le (.v 0) (.c 60)), true), ((.le (.c 0) (.v 1)), true), ((.le (.v 1) (.c 400)), true), ((.ap 1 (.a (.v 0) (.i (.v 0) .nil))), true), ((.le (.c (-1)) (.v 20)), true), ((.le (.v 20) (.c 59)), true), ((.lt (.v 20) (.v 0)), true), ((.le tp0e6 tp0e7), true), ((.le (.c 1) (.v 0)), true)]
noncomputable def tp0x12 : Vl := .go 0 [(20, tp0e11)] [] [] [((.lt tp0e4 (.v 1)), false), ((.eq tp0e5 tp0e22), false), ((.eq tp0e4 tp0e9), false), ((.le (.v 1) tp0e4), false), ((.le tp0e5 (.v 1)), true), ((.le (.c 0) (.v 20)), true), ((.le (.c 0) (.v 0)), true), ((.le (.v 0) (.c 60)), true), ((.le (.c 0) (.v 1)), true), ((.le (.v 1) (.c 400)), true), ((.ap 1 (.a (.v 0) (.i (.v 0) .nil))), true), ((.le (.c (-1)) (.v 20)), true), ((.le (.v 20) (.c 59)), true), ((.lt (.v 20) (.v 0)), true), ((.le tp0e6 tp0e7), true), ((.le (.c 1) (.v 0)), true)] (.exit .normal) (.loop (loopB (prm50 Try.prog).P 50 5) :: loopK (prm50 Try.prog).P 50 5)
noncomputable def tp0x13 : Vl := .out 0 [.b (.c true) (.ap 3 (.a (.v 0) (.i (.v 0) (.i (.v 1) .nil)))), .i (.v 31) (.v 31), .i (.v 32) (.v 32), .i (.v 33) (.v 33), .i (.v 6) (.v 6), .b (.v 0) (.v 0), .i (.v 34) (.v 34), .i (.v 35) (.v 35), .i (.v 36) (.v 36), .b (.v 1) (.v 1), .i (.v 37) (.v 37), .i (.v 38) (.v 38), .i (.v 39) (.v 39), .a tp0e8 tp0e0 tp0e1 2, .i (.v 0) tp0e1] [((.eq tp0e4 tp0e9), true), ((.le tp0e5 (.v 1)), false), ((.le (.c 0) (.v 20)), true), ((.le (.c 0) (.v 0)), true), ((.le (.v 0) (.c 60)), true), ((.le (.c 0) (.v 1)), true), ((.le (.v 1) (.c 400)), true), ((.ap 1 (.a (.v 0) (.i (.v 0) .nil))), true), ((.le (.c (-1)) (.v 20)), true), ((.le (.v 20) (.c 59)), true), ((.lt (.v 20) (.v 0)), true), ((.le tp0e6 tp0e7), true), ((.le (.c 1) (.v 0)), true)]
noncomputable def tp0x14 : Vl := .out 0 [.b (.c true) (.ap 3 (.a (.v 0) (.i (.v 0) (.i (.v 1) .nil)))), .i (.v 31) (.v 31), .i (.v 32) (.v 32), .i (.v 33) (.v 33), .i (.v 6) (.v 6), .b (.v 0) (.v 0), .i (.v 34) (.v 34), .i (.v 35) (.v 35), .i (.v 36) (.v 36), .b (.v 1) (.v 1), .i (.v 37) (.v 37), .i (.v 38) (.v 38), .i (.v 39) (.v 39), .a tp0e16 tp0e0 tp0e1 2, .i tp0e17 tp0e1] [((.le tp0e7 (.v 0)), true), ((.lt (.v 20) tp0e7), true), ((.eq tp0e20 (.v 1)), true), ((.lt tp0e11 (.v 0)), true), ((.lt (.c 0) (.v 20)), true), ((.le tp0e21 (.c 1000)), true), ((.le (.c 0) tp0e21), true), ((.eq tp0e5 tp0e22), true), ((.eq tp0e4 tp0e9), false), ((.le tp0e5 (.v 1)), false), ((.le (.c 0) (.v 20)), true), ((.le (.c 0) (.v 0)), true), ((.le (.v 0) (.c 60)), true), ((.le (.c 0) (.v 1)), true), ((.le (.v 1) (.c 400)), true), ((.ap 1 (.a (.v 0) (.i (.v 0) .nil))), true), ((.le (.c (-1)) (.v 20)), true), ((.le (.v 20) (.c 59)), true), ((.lt (.v 20) (.v 0)), true), ((.le tp0e6 tp0e7), true), ((.le (.c 1) (.v 0)), true)]
noncomputable def tp0x15 : Vl := .dead [((.le tp0e7 (.v 0)), false), ((.lt (.v 20) tp0e7), true), ((.eq tp0e20 (.v 1)), true), ((.lt tp0e11 (.v 0)), true), ((.lt (.c 0) (.v 20)), true), ((.le tp0e21 (.c 1000)), true), ((.le (.c 0) tp0e21), true), ((.eq tp0e5 tp0e22), true), ((.eq tp0e4 tp0e9), false), ((.le tp0e5 (.v 1)), false), ((.le (.c 0) (.v 20)), true), ((.le (.c 0) (.v 0)), true), ((.le (.v 0) (.c 60)), true), ((.le (.c 0) (.v 1)), true), ((.le (.v 1) (.c 400)), true), ((.ap 1 (.a (.v 0) (.i (.v 0) .nil))), true), ((.le (.c (-1)) (.v 20)), true), ((.le (.v 20) (.c 59)), true), ((.lt (.v 20) (.v 0)), true), ((.le tp0e6 tp0e7), true), ((.le (.c 1) (.v 0)), true)]
noncomputable def tp0x16 : Vl := .dead [((.lt (.v 20) tp0e7), false), ((.eq tp0e20 (.v 1)), true), ((.lt tp0e11 (.v 0)), true), ((.lt (.c 0) (.v 20)), true), ((.le tp0e21 (.c 1000)), true), ((.le (.c 0) tp0e21), true), ((.eq tp0e5 tp0e22), true), ((.eq tp0e4 tp0e9), false), ((.le tp0e5 (.v 1)), false), ((.le (.c 0) (.v 20)), true), ((.le (.c 0) (.v 0)), true), ((.le (.v 0) (.c 60)), true), ((.le (.c 0) (.v 1)), true), ((.le (.v 1) (.c 400)), true), ((.ap 1 (.a (.v 0) (.i (.v 0) .nil))), true), ((.le (.c (-1)) (.v 20)), true), ((.le (.v 20) (.c 59)), true), ((.lt (.v 20) (.v 0)), true), ((.le tp0e6 tp0e7), true), ((.le (.c 1) (.v 0)), true)]
noncomputable def tp0x17 : Vl := .out 0 [.b (.c true) (.ap 3 (.a (.v 0) (.i (.v 0) (.i (.v 1) .nil)))), .i (.v 31) (.v 31), .i (.v 32) (.v 32), .i (.v 33) (.v 33), .i (.v 6) (.v 6), .b (.v 0) (.v 0), .i (.v 34) (.v 34), .i (.v 35) (.v 35), .i (.v 36) (.v 36), .b (.v 1) (.v 1), .i (.v 37) (.v 37), .i (.v 38) (.v 38), .i (.v 39) (.v 39), .a tp0e10 tp0e0 tp0e1 2, .i (.v 0) tp0e1] [((.eq tp0e20 (.v 1)), false), ((.lt tp0e11 (.v 0)), true), ((.lt (.c 0) (.v 20)), true), ((.le tp0e21 (.c 1000)), true), ((.le (.c 0) tp0e21), true), ((.eq tp0e5 tp0e22), true), ((.eq tp0e4 tp0e9), false), ((.le tp0e5 (.v 1)), false), ((.le (.c 0) (.v 20)), true), ((.le (.c 0) (.v 0)), true), ((.le (.v 0) (.c 60)), true), ((.le (.c 0) (.v 1)), true), ((.le (.v 1) (.c 400)), true), ((.ap 1 (.a (.v 0) (.i (.v 0) .nil))), true), ((.le (.c (-1)) (.v 20)), true), ((.le (.v 20) (.c 59)), true), ((.lt (.v 20) (.v 0)), true), ((.le tp0e6 tp0e7), true), ((.le (.c 1) (.v 0)), true)]
noncomputable def tp0x18 : Vl := .dead [((.lt tp0e11 (.v 0)), false), ((.lt (.c 0) (.v 20)), true), ((.le tp0e21 (.c 1000)), true), ((.le (.c 0) tp0e21), true), ((.eq tp0e5 tp0e22), true), ((.eq tp0e4 tp0e9), false), ((.le tp0e5 (.v 1)), false), ((.le (.c 0) (.v 20)), true), ((.le (.c 0) (.v 0)), true), ((.le (.v 0) (.c 60)), true), ((.le (.c 0) (.v 1)), true), ((.le (.v 1) (.c 400)), true), ((.ap 1 (.a (.v 0) (.i (.v 0) .nil))), true), ((.le (.c (-1)) (.v 20)), true), ((.le (.v 20) (.c 59)), true), ((.lt (.v 20) (.v 0)), true), ((.le tp0e6 tp0e7), true), ((.le (.c 1) (.v 0)), true)]
noncomputable def tp0x19 : Vl := .out 0 [.b (.c true) (.ap 3 (.a (.v 0) (.i (.v 0) (.i (.v 1) .nil)))), .i (.v 31) (.v 31), .i (.v 32) (.v 32), .i (.v 33) (.v 33), .i (.v 6) (.v 6), .b (.v 0) (.v 0), .i (.v 34) (.v 34), .i (.v 35) (.v 35), .i (.v 36) (.v 36), .b (.v 1) (.v 1), .i (.v 37) (.v 37), .i (.v 38) (.v 38), .i (.v 39) (.v 39), .a tp0e10 tp0e0 tp0e1 2, .i (.v 0) tp0e1] [((.lt (.c 0) (.v 20)), false), ((.le tp0e21 (.c 1000)), true), ((.le (.c 0) tp0e21), true), ((.eq tp0e5 tp0e22), true), ((.eq tp0e4 tp0e9), false), ((.le tp0e5 (.v 1)), false), ((.le (.c 0) (.v 20)), true), ((.le (.c 0) (.v 0)), true), ((.le (.v 0) (.c 60)), true), ((.le (.c 0) (.v 1)), true), ((.le (.v 1) (.c 400)), true), ((.ap 1 (.a (.v 0) (.i (.v 0) .nil))), true), ((.le (.c (-1)) (.v 20)), true), ((.le (.v 20) (.c 59)), true), ((.lt (.v 20) (.v 0)), true), ((.le tp0e6 tp0e7), true), ((.le (.c 1) (.v 0)), true)]
noncomputable def tp0x20 : Vl := .dead [((.le tp0e21 (.c 1000)), false), ((.le (.c 0) tp0e21), true), ((.eq tp0e5 tp0e22), true), ((.eq tp0e4 tp0e9), false), ((.le tp0e5 (.v 1)), false), ((.le (.c 0) (.v 20)), true), ((.le (.c 0) (.v 0)), true), ((.le (.v 0) (.c 60)), true), ((.le (.c 0) (.v 1)), true), ((.le (.v 1) (.c 400)), true), ((.ap 1 (.a (.v 0) (.i (.v 0) .nil))), true), ((.le (.c (-1)) (.v 20)), true), ((.le (.v 20) (.c 59)), true), ((.lt (.v 20) (.v 0)), true), ((.le tp0e6 tp0e7), true), ((.le (.c 1) (.v 0)), true)]
noncomputable def tp0x21 : Vl := .dead [((.le (.c 0) tp0e21), false), ((.eq tp0e5 tp0e22), true), ((.eq tp0e4 tp0e9), false), ((.le tp0e5 (.v 1)), false), ((.le (.c 0) (.v 20)), true), ((.le (.c 0) (.v 0)), true), ((.le (.v 0) (.c 60)), true), ((.le (.c 0) (.v 1)), true), ((.le (.v 1) (.c 400)), true), ((.ap 1 (.a (.v 0) (.i (.v 0) .nil))), true), ((.le (.c (-1)) (.v 20)), true), ((.le (.v 20) (.c 59)), true), ((.lt (.v 20) (.v 0)), true), ((.le tp0e6 tp0e7), true), ((.le (.c 1) (.v 0)), true)]
noncomputable def tp0x22 : Vl := .out 0 [.b (.c true) (.ap 3 (.a (.v 0) (.i (.v 0) (.i (.v 1) .nil)))), .i (.v 31) (.v 31), .i (.v 32) (.v 32), .i (.v 33) (.v 33), .i (.v 6) (.v 6), .b (.v 0) (.v 0), .i (.v 34) (.v 34), .i (.v 35) (.v 35), .i (.v 36) (.v 36), .b (.v 1) (.v 1), .i (.v 37) (.v 37), .i (.v 38) (.v 38), .i (.v 39) (.v 39), .a tp0e24 tp0e0 tp0e1 2, .i tp0e25 tp0e1] [((.le tp0e7 (.v 0)), true), ((.lt tp0e4 (.v 1)), true), ((.eq tp0e5 tp0e22), false), ((.eq tp0e4 tp0e9), false), ((.le tp0e5 (.v 1)), false), ((.le (.c 0) (.v 20)), true), ((.le (.c 0) (.v 0)), true), ((.le (.v 0) (.c 60)), true), ((.le (.c 0) (.v 1)), true), ((.le (.v 1) (.c 400)), true), ((.ap 1 (.a (.v 0) (.i (.v 0) .nil))), true), ((.le (.c (-1)) (.v 20)), true), ((.le (.v 20) (.c 59)), true), ((.lt (.v 20) (.v 0)), true), ((.le tp0e6 tp0e7), true), ((.le (.c 1) (.v 0)), true)]
noncomputable def tp0x23 : Vl := .dead [((.le tp0e7 (.v 0)), false), ((.lt tp0e4 (.v 1)), true), ((.eq tp0e5 tp0e22), false), ((.eq tp0e4 tp0e9), false), ((.le tp0e5 (.v 1)), false), ((.le (.c 0) (.v 20)), true), ((.le (.c 0) (.v 0)), true), ((.le (.v 0) (.c 60)), true), ((.le (.c 0) (.v 1)), true), ((.le (.v 1) (.c 400)), true), ((.ap 1 (.a (.v 0) (.i (.v 0) .nil))), true), ((.le (.c (-1)) (.v 20)), true), ((.le (.v 20) (.c 59)), true), ((.lt (.v 20) (.v 0)), true), ((.le tp0e6 tp0e7), true), ((.le (.c 1) (.v 0)), true)]
noncomputable def tp0x24 : Vl := .go 0 [(20, tp0e11)] [] [] [((.lt tp0e4 (.v 1)), false), ((.eq tp0e5 tp0e22), false), ((.eq tp0e4 tp0e9), false), ((.le tp0e5 (.v 1)), false), ((.le (.c 0) (.v 20)), true), ((.le (.c 0) (.v 0)), true), ((.le (.v 0) (.c 60)), true), ((.le (.c 0) (.v 1)), true), ((.le (.v 1) (.c 400)), true), ((.ap 1 (.a (.v 0) (.i (.v 0) .nil))), true), ((.le (.c (-1)) (.v 20)), true), ((.le (.v 20) (.c 59)), true), ((.lt (.v 20) (.v 0)), true), ((.le tp0e6 tp0e7), true), ((.le (.c 1) (.v 0)), true)] (.exit .normal) (.loop (loopB (prm50 Try.prog).P 50 5) :: loopK (prm50 Try.prog).P 50 5)
noncomputable def tp0x25 : Vl := .out 0 [.b (.c true) (.ap 3 (.a (.v 0) (.i (.v 0) (.i (.v 1) .nil)))), .i (.v 31) (.v 31), .i (.v 32) (.v 32), .i (.v 33) (.v 33), .i (.v 6) (.v 6), .b (.v 0) (.v 0), .i (.v 34) (.v 34), .i (.v 35) (.v 35), .i (.v 36) (.v 36), .b (.v 1) (.v 1), .i (.v 37) (.v 37), .i (.v 38) (.v 38), .i (.v 39) (.v 39), .a tp0e26 tp0e0 tp0e1 2, .i tp0e25 tp0e1] [((.le (.c 0) (.v 20)), false), ((.le (.c 0) (.v 0)), true), ((.le (.v 0) (.c 60)), true), ((.le (.c 0) (.v 1)), true), ((.le (.v 1) (.c 400)), true), ((.ap 1 (.a (.v 0) (.i (.v 0) .nil))), true), ((.le (.c (-1)) (.v 20)), true), ((.le (.v 20) (.c 59)), true), ((.lt (.v 20) (.v 0)), true), ((.le tp0e6 tp0e7), true), ((.le (.c 1) (.v 0)), true)]
noncomputable def tp0ls : List Vl := [tp0x0, tp0x1, tp0x2, tp0x3, tp0x4, tp0x5, tp0x6, tp0x7, tp0x8, tp0x9, tp0x10, tp0x11, tp0x12, tp0x13, tp0x14, tp0x15, tp0x16, tp0x17, tp0x18, tp0x19, tp0x20, tp0x21, tp0x22, tp0x23, tp0x24, tp0x25]
theorem tp0run : (run (prm50 Try.prog) 900 (ptD (pts50 Try.prog laT an3) 0 50)).map (vOf (prm50 Try.prog) (ct50 laT an3) (pts50 Try.prog laT an3)) = tp0ls := by kernel_rfl
theorem prm50_ok (E : Env) (hE : E.fn = fns) : PrmOk E (prm50 Try.prog) :=
  prm_ok E hE (by
    intro c hc
    simp only [List.mem_cons, List.not_mem_nil, or_false] at hc
    rcases hc with rfl | rfl
    · exact ct57_ok
    · exact ct51_ok) (by intro b hb; cases hb)
theorem pre50 {E0 : Env} {la : SV} {ex : List SBlk} (hE : E0.fn = fns) (hF : Facts E0 (ct50 la ex).pre) : ∃ n : Nat, E0.i 0 = n ∧ n ≤ 60 ∧ 0 ≤ E0.i 1 ∧ E0.i 1 ≤ 400 ∧ Rg (E0.a 0) n := by
  have hF' : Facts E0 [((.le (.c 0) (.v 0)), true), ((.le (.v 0) (.c 60)), true), ((.le (.c 0) (.v 1)), true), ((.le (.v 1) (.c 400)), true), rgF (.v 0) (.v 0)] := hF
  have h := rg_of hE (.v 0) (.v 0) (hF' (rgF (.v 0) (.v 0)) (by simp))
  simp only [facts_cons, facts_nil, le_t, d_c, d_v, and_true, rgF] at hF'
  obtain ⟨a, b, c, d, e⟩ := hF'
  refine ⟨(E0.i 0).toNat, by omega, by omega, c, d, ?_⟩
  have h2 : Rg (E0.a 0) (E0.i 0).toNat := h
  exact h2
theorem ad_facts {E : Env} (hE : E.fn = fns) {n : Nat} (hn : E.i 0 = n) (p0 : 0 ≤ E.i 1) (p1 : E.i 1 ≤ 1000) (hr : Rg (E.a 0) n) : Facts E adF := by
  obtain ⟨dB, dN, dA, dK⟩ := add_den hE hn
  obtain ⟨k1, k2, k3, k4⟩ := add_ok hr p0 p1
  have k5 := addN_pos (p := E.i 1) hr
  have h : (rgF (a3 3 (.v 0) (.v 0) (.v 1)) (f3 3 (.v 0) (.v 0) (.v 1))).1.den E = true := of_rg hE _ _ (by rw [dN, dA, Int.toNat_natCast]; exact k1)
  unfold adF
  simp only [facts_cons, facts_nil, le_t, d_c, d_v, d_add, and_true, dN, hn]
  exact ⟨by omega, by omega, fun q hq => by simp only [List.mem_singleton] at hq; subst hq; exact h⟩
structure I50 (n : Nat) (E0 E : Env) (k : Nat) : Prop where
  s : Sm 20 E0 E
  i20 : E.i 20 = (k : Int) - 1
  le : kR (E0.a 0) (E0.i 1) n ≤ k
  kn : k ≤ n
  n1 : 1 ≤ n
theorem ct50n_ok : CtOk Try.prog fns (ct50 laN an2) := by
  refine ct_of_pts (p := prm50 Try.prog) (pts := pts50 Try.prog laN an2) (n := 900) (c0 := enterD (prm50 Try.prog) (ct50 laN an2)) (fun E hE => prm50_ok E hE) rfl (by intro q hq; cases hq) Try.func50 (by kernel_rfl) ?_ (fun E0 _ E => ∃ k, I50 (E0.i 0).toNat E0 E k) (fun E0 _ E => (E.i 20 + 1).toNat) nals (by kernel_rfl) ?_ ?_
  · intro t ht
    simp only [pts50, List.mem_cons, List.not_mem_nil, or_false] at ht
    subst ht
    exact ⟨by kernel_rfl, by decide⟩
  · intro E hE hF
    obtain ⟨n, hn, hn60, p0, p1, hr⟩ := pre50 hE hF
    have hnt : (E.i 0).toNat = n := by omega
    obtain ⟨dB, dN, dA, dK⟩ := add_den hE hn
    refine ⟨fun a ha => ?_, fun x hx => ?_⟩
    · obtain rfl := Option.some.inj ha; exact ad_facts hE hn p0 (by omega) hr
    · unfold nals at hx
      simp only [List.mem_cons, List.not_mem_nil, or_false] at hx
      rcases hx with rfl | rfl
      · intro hf
        have h0 := hf (SB.eq (.v 0) (.c 0), true) (by simp)
        simp only [eq_t, d_v, d_c] at h0
        have hn0 : n = 0 := by omega
        subst hn0
        obtain ⟨z1, z2, z3⟩ := st_zero (A := E.a 0) (n := 0) (p := E.i 1) rfl
        refine ⟨rfl, ?_⟩
        simp only [List.forall_mem_cons, List.not_mem_nil, false_imp_iff, implies_true, and_true, true_and, Eqn.ok]
        refine ⟨by rw [show (SB.ap 3 (.a (.v 0) (.i (.v 0) (.i (.v 1) .nil)))).den E = _ from dB, z1]; rfl, fun j hj => ?_, ?_⟩
        · have hj' : j < addN (E.a 0) 0 (E.i 1) * 2 := by
            have e : nae3.den E = _ := dN
            rw [e] at hj; simpa using hj
          rw [z2] at hj'
          have e : nae2.den E = _ := dA
          rw [e, z3]
          have e0 : (nae0.den E).toNat = 0 := by show (E.i 0 * 2).toNat = 0; rw [hn]; rfl
          show (if j < (nae0.den E).toNat then E.a 0 j else SL.nth E (.i (.v 1) (.i (.v 1) .nil)) (j - (nae0.den E).toNat)) = _
          rw [e0, if_neg (by omega)]
          unfold ins2
          rcases (by omega : j = 0 ∨ j = 1) with rfl | rfl <;> rfl
        · show E.i 0 + 1 = _
          have e : nae3.den E = _ := dN
          rw [e, z2, hn]; rfl
      · intro hf
        have h0 := hf (SB.eq (.v 0) (.c 0), false) (by simp)
        have h0 : ¬ E.i 0 = 0 := by simpa [SB.den, SE.den] using h0
        refine ⟨⟨_, rfl, .inl ⟨rfl, rfl⟩⟩, fun o => ⟨⟨n, (Sm.refl 20 E).put _ o, ?_, by rw [hnt]; exact kR_le _ _ _, by omega, by omega⟩, fun b hb => by cases hb⟩⟩
        show E.i 0 - 1 = _
        omega
  · intro kk t ht
    have hk : kk = 0 := by
      have := (List.getElem?_eq_some_iff.1 ht).1
      simp [pts50] at this; omega
    subst hk
    refine ⟨np0ls, by rw [← ptD_some ht (ct50 laN an2).g]; exact np0run, fun E0 E hE0 hE hF0 ⟨k, hI⟩ => ?_⟩
    obtain ⟨n, hn, hn60, p0, p1, hr⟩ := pre50 hE0 hF0
    have hnt : (E0.i 0).toNat = n := by omega
    rw [hnt] at hI
    obtain ⟨hS, h20, hle, hkn, hn1⟩ := hI
    obtain ⟨dB, dN, dA, dK⟩ := add_den hE0 hn
    have q0 := hS.i 0 (by decide); have q1 := hS.i 1 (by decide)
    have qa : E.a 0 = E0.a 0 := by rw [hS.a]
    have hnE : E.i 0 = n := q0.trans hn
    obtain ⟨_, _, _, dKE⟩ := add_den hE hnE
    rw [qa, q1] at dKE
    refine ⟨?_, fun x hx => ?_⟩
    · obtain rfl := Option.some.inj ht
      show Facts E ([((.le (.c 0) (.v 0)), true), ((.le (.v 0) (.c 60)), true), ((.le (.c 0) (.v 1)), true), ((.le (.v 1) (.c 400)), true), ((rgF (.v 0) (.v 0)).1, true), ((.le (.c (-1)) (.v 20)), true), ((.le (.v 20) (.c 59)), true), ((.lt (.v 20) (.v 0)), true), ((.le (f3 8 (.v 0) (.v 0) (.v 1)) (.add (.v 20) (.c 1))), true), ((.le (.c 1) (.v 0)), true)])
      have hsr : (rgF (.v 0) (.v 0)).1.den E = true := of_rg hE (.v 0) (.v 0) (by
        show Rg (fun j => E.a 0 j) (E.i 0).toNat
        rw [hnE, Int.toNat_natCast, qa]; exact hr)
      simp only [facts_cons, facts_nil, le_t, lt_t, d_c, d_v, d_add, and_true, dKE]
      refine ⟨by omega, by omega, by omega, by omega, hsr, by omega, by omega, by omega, by omega, by omega⟩
    · unfold np0ls at hx
      simp only [List.mem_cons, List.not_mem_nil, or_false] at hx
      have fin : ∀ (B : SB) (A : AE) (N : SE), B.den E = addB (E0.a 0) n (E0.i 1) → N.den E = addN (E0.a 0) n (E0.i 1) → (∀ j, j < addN (E0.a 0) n (E0.i 1) * 2 → A.den E j = addA (E0.a 0) n (E0.i 1) j) →
          ∀ q ∈ ([.b B (.ap 3 (.a (.v 0) (.i (.v 0) (.i (.v 1) .nil)))), .i (.v 31) (.v 31), .i (.v 32) (.v 32), .i (.v 33) (.v 33), .i (.v 6) (.v 6), .b (.v 0) (.v 0), .i (.v 34) (.v 34), .i (.v 35) (.v 35), .i (.v 36) (.v 36), .b (.v 1) (.v 1), .i (.v 37) (.v 37), .i (.v 38) (.v 38), .i (.v 39) (.v 39), .a A np0e0 np0e1 2, .i N np0e1] : List Eqn), q.ok E E0 := fun B A N hB hN hA => by
        have qb : ∀ m, E.b m = E0.b m := fun m => by rw [hS.b]
        have e0 : np0e0.den E0 = _ := dA
        have e1 : np0e1.den E0 = _ := dN
        simp only [List.forall_mem_cons, List.not_mem_nil, false_imp_iff, implies_true, and_true, true_and, Eqn.ok]
        refine ⟨hB.trans dB.symm, hS.i 31 (by decide), hS.i 32 (by decide), hS.i 33 (by decide), hS.i 6 (by decide), qb 0, hS.i 34 (by decide), hS.i 35 (by decide), hS.i 36 (by decide), qb 1, hS.i 37 (by decide), hS.i 38 (by decide), hS.i 39 (by decide), fun j hj => ?_, hN.trans e1.symm⟩
        rw [e1] at hj
        rw [e0]; exact hA j (by simpa using hj)
      rcases Nat.eq_zero_or_pos k with hk0 | hk0
      · have hKz : kR (E0.a 0) (E0.i 1) n = 0 := by omega
        obtain ⟨z1, z2, z3⟩ := st_zero hKz
        have dead : ∀ F : Fx, ((.le (.c 0) (.v 20) : SB), true) ∈ F → ¬ Facts E F := fun F hm hf => by
          have := hf _ hm
          simp only [le_t, d_v, d_c] at this
          omega
        rcases hx with rfl | rfl | rfl | rfl | rfl | rfl | rfl | rfl | rfl | rfl | rfl | rfl | rfl | rfl | rfl | rfl | rfl | rfl | rfl | rfl | rfl | rfl | rfl | rfl | rfl | rfl
        · intro hf
          exact absurd hf (dead _ (by simp))
        · intro hf
          exact absurd hf (dead _ (by simp))
        · intro hf
          exact absurd hf (dead _ (by simp))
        · intro hf
          exact absurd hf (dead _ (by simp))
        · intro hf
          exact absurd hf (dead _ (by simp))
        · intro hf
          exact absurd hf (dead _ (by simp))
        · intro hf
          exact absurd hf (dead _ (by simp))
        · intro hf
          exact absurd hf (dead _ (by simp))
        · intro hf
          exact absurd hf (dead _ (by simp))
        · intro hf
          exact absurd hf (dead _ (by simp))
        · intro hf
          exact absurd hf (dead _ (by simp))
        · intro hf
          exact absurd hf (dead _ (by simp))
        · intro hf
          exact absurd hf (dead _ (by simp))
        · intro hf
          exact absurd hf (dead _ (by simp))
        · intro hf
          exact absurd hf (dead _ (by simp))
        · intro hf
          exact absurd hf (dead _ (by simp))
        · intro hf
          exact absurd hf (dead _ (by simp))
        · intro hf
          exact absurd hf (dead _ (by simp))
        · intro hf
          exact absurd hf (dead _ (by simp))
        · intro hf
          exact absurd hf (dead _ (by simp))
        · intro hf
          exact absurd hf (dead _ (by simp))
        · intro hf
          exact absurd hf (dead _ (by simp))
        · intro hf
          exact absurd hf (dead _ (by simp))
        · intro hf
          exact absurd hf (dead _ (by simp))
        · intro hf
          exact absurd hf (dead _ (by simp))
        · intro hf
          refine ⟨rfl, fin _ _ _ (by rw [z1]; rfl) ?_ (fun j _ => ?_)⟩
          · show E.i 0 + 1 = _
            rw [z2, hnE]; rfl
          · rw [z3]
            show E.fn.a 2 [.a (fun j => E.a 0 j), .i (E.i 0), .i 0, .a (np0e23.den E)] j = _
            rw [hE]
            show ins2 (fun j => E.a 0 j) (E.i 0).toNat (0 : Int).toNat (E.i 1) (E.i 1) j = _
            rw [hnE, qa, q1]; rfl
      · obtain ⟨i, rfl⟩ : ∃ i, k = i + 1 := ⟨k - 1, by omega⟩
        have hi : i < n := by omega
        have h20' : E.i 20 = (i : Int) := by rw [h20]; omega
        have D4 : np0e4.den E = E0.a 0 (i * 2 + 1) := by
          show E.a 0 (E.i 20 * 2 + 1).toNat = _
          rw [qa, h20', show ((i : Int) * 2 + 1).toNat = i * 2 + 1 by omega]
        have D5 : np0e5.den E = E0.a 0 (i * 2) := by
          show E.a 0 (E.i 20 * 2).toNat = _
          rw [qa, h20', show ((i : Int) * 2).toNat = i * 2 by omega]
        have D7 : np0e7.den E = (i : Int) + 1 := by show E.i 20 + 1 = _; rw [h20']
        have D9 : np0e9.den E = E0.i 1 - 1 := by show E.i 1 - 1 = _; rw [q1]
        have D11 : np0e11.den E = (i : Int) - 1 := by show E.i 20 - 1 = _; rw [h20']
        have D21 : np0e21.den E = E0.a 0 ((i - 1) * 2 + 1) ∨ i = 0 := by
          rcases Nat.eq_zero_or_pos i with h | h
          · exact .inr h
          · left
            show E.a 0 ((E.i 20 - 1) * 2 + 1).toNat = _
            rw [qa, h20', show (((i : Int) - 1) * 2 + 1).toNat = (i - 1) * 2 + 1 by omega]
        have D21' : 0 ≤ np0e21.den E ∧ np0e21.den E ≤ 1000 := by
          have key : ∀ m, m < n * 2 → 0 ≤ E0.a 0 m ∧ E0.a 0 m ≤ 1000 := fun m hm => by
            obtain ⟨j, rfl | rfl⟩ : ∃ j, m = j * 2 ∨ m = j * 2 + 1 := ⟨m / 2, by omega⟩
            · have := hr.lo j (by omega); have := hr.hi j (by omega); have := hr.le j (by omega); omega
            · have := hr.lo j (by omega); have := hr.hi j (by omega); have := hr.le j (by omega); omega
          show 0 ≤ E.a 0 ((E.i 20 - 1) * 2 + 1).toNat ∧ E.a 0 ((E.i 20 - 1) * 2 + 1).toNat ≤ 1000
          rw [qa, h20']
          exact key _ (by omega)
        have D20 : 0 < i → np0e20.den E = E0.a 0 ((i - 1) * 2 + 1) + 1 := fun h => by
          show IntKind.i64.wrap ((if ((E.i 20 - 1) * 2 + 1).toNat = (E.i 20 * 2).toNat then E.i 1 else E.a 0 ((E.i 20 - 1) * 2 + 1).toNat) + 1) = _
          have hb := D21'
          rw [D21.resolve_right (by omega)] at hb
          rw [if_neg (by omega), qa, h20', show (((i : Int) - 1) * 2 + 1).toNat = (i - 1) * 2 + 1 by omega]
          exact wrap_id (by simp [IntKind.min, IntKind.max, IntKind.bits, IntKind.signed]; omega)
        have D22 : np0e22.den E = E0.i 1 + 1 := by show E.i 1 + 1 = _; rw [q1]
        have D8 : ∀ j, np0e8.den E j = upd (E0.a 0) (i * 2 + 1) (E0.i 1) j := fun j => by
          show (if j = (E.i 20 * 2 + 1).toNat then E.i 1 else E.a 0 j) = _
          rw [h20', show ((i : Int) * 2 + 1).toNat = i * 2 + 1 by omega, qa, q1]; rfl
        have D10 : ∀ j, np0e10.den E j = upd (E0.a 0) (i * 2) (E0.i 1) j := fun j => by
          show (if j = (E.i 20 * 2).toNat then E.i 1 else E.a 0 j) = _
          rw [h20', show ((i : Int) * 2).toNat = i * 2 by omega, qa, q1]; rfl
        have D16 : 0 < i → ∀ j, np0e16.den E j = del2 (upd (upd (E0.a 0) (i * 2) (E0.i 1)) ((i - 1) * 2 + 1) (E0.a 0 (i * 2 + 1))) i 1 j := fun h0 j => by
          show E.fn.a 4 [.a (np0e14.den E), .i (E.i 20), .i (E.i 20 + 1 - E.i 20)] j = _
          rw [hE]
          show del2 (np0e14.den E) (E.i 20).toNat (E.i 20 + 1 - E.i 20).toNat j = _
          have e14 : np0e14.den E = upd (upd (E0.a 0) (i * 2) (E0.i 1)) ((i - 1) * 2 + 1) (E0.a 0 (i * 2 + 1)) := by
            funext m
            show (if m = ((E.i 20 - 1) * 2 + 1).toNat then np0e4.den E else np0e10.den E m) = _
            rw [D4, D10, h20', show (((i : Int) - 1) * 2 + 1).toNat = (i - 1) * 2 + 1 by omega]; rfl
          rw [e14, h20', show ((i : Int) + 1 - (i : Int)).toNat = 1 by omega]; rfl
        have D17 : np0e17.den E = (n : Int) - 1 := by
          show E.i 0 - (E.i 20 + 1 - E.i 20) = _
          rw [hnE]; omega
        have D24 : np0e24.den E = ins2 (E0.a 0) n (i + 1) (E0.i 1) (E0.i 1) := by
          show E.fn.a 2 [.a (fun j => E.a 0 j), .i (E.i 0), .i (E.i 20 + 1), .a (np0e23.den E)] = _
          rw [hE]
          show ins2 (fun j => E.a 0 j) (E.i 0).toNat (E.i 20 + 1).toNat (E.i 1) (E.i 1) = _
          rw [hnE, h20', qa, q1]; rfl
        have D25 : np0e25.den E = (n : Int) + 1 := by show E.i 0 + 1 = _; rw [hnE]
        have hl := hr.le i hi
        rcases hx with rfl | rfl | rfl | rfl | rfl | rfl | rfl | rfl | rfl | rfl | rfl | rfl | rfl | rfl | rfl | rfl | rfl | rfl | rfl | rfl | rfl | rfl | rfl | rfl | rfl | rfl
        · intro hf
          simp only [facts_cons, facts_nil, le_t, le_f, lt_t, lt_f, eq_t, eq_f, d_v, d_c, D4, D5, D7, D9, D11, D22, h20', hnE, q1, and_true] at hf
          obtain ⟨s1, s2, s3⟩ := st_dup (p := E0.i 1) hr hi hle (by omega) (by omega)
          exact ⟨rfl, fin _ _ _ (by rw [s1]; rfl) (by rw [s2]; exact hnE) (fun j _ => by rw [s3, ← qa]; rfl)⟩
        · intro hf
          simp only [facts_cons, facts_nil, le_t, le_f, lt_t, lt_f, eq_t, eq_f, d_v, d_c, D4, D5, D7, D9, D11, D22, h20', hnE, q1, and_true] at hf
          obtain ⟨s1, s2, s3⟩ := st_end (p := E0.i 1) hr hi hle (by omega)
          exact ⟨rfl, fin _ _ _ (by rw [s1]; rfl) (by rw [s2]; exact hnE) (fun j _ => by rw [s3]; exact D8 j)⟩
        · intro hf
          simp only [facts_cons, facts_nil, le_t, le_f, lt_t, lt_f, eq_t, eq_f, d_v, d_c, D4, D5, D7, D9, D11, D22, h20', hnE, q1, and_true] at hf
          have h0 : 0 < i := by omega
          have hm : E0.a 0 ((i - 1) * 2 + 1) + 1 = E0.i 1 := by rw [← D20 h0]; omega
          obtain ⟨s1, s2, s3⟩ := st_merge (p := E0.i 1) hr hi hle (by omega) h0 hm
          exact ⟨rfl, fin _ _ _ (by rw [s1]; rfl) (by rw [s2, D17]; omega) (fun j _ => by rw [s3]; exact D16 h0 j)⟩
        · intro hf
          simp only [facts_cons, facts_nil, le_t, le_f, lt_t, lt_f, eq_t, eq_f, d_v, d_c, D4, D5, D7, D9, D11, D22, h20', hnE, q1, and_true] at hf
          omega
        · intro hf
          simp only [facts_cons, facts_nil, le_t, le_f, lt_t, lt_f, eq_t, eq_f, d_v, d_c, D4, D5, D7, D9, D11, D22, h20', hnE, q1, and_true] at hf
          omega
        · intro hf
          simp only [facts_cons, facts_nil, le_t, le_f, lt_t, lt_f, eq_t, eq_f, d_v, d_c, D4, D5, D7, D9, D11, D22, h20', hnE, q1, and_true] at hf
          have hm : ¬ (0 < i ∧ E0.a 0 ((i - 1) * 2 + 1) + 1 = E0.i 1) := fun h => by have := D20 h.1; omega
          obtain ⟨s1, s2, s3⟩ := st_start (p := E0.i 1) hr hi hle (by omega) hm
          exact ⟨rfl, fin _ _ _ (by rw [s1]; rfl) (by rw [s2]; exact hnE) (fun j _ => by rw [s3]; exact D10 j)⟩
        · intro hf
          simp only [facts_cons, facts_nil, le_t, le_f, lt_t, lt_f, eq_t, eq_f, d_v, d_c, D4, D5, D7, D9, D11, D22, h20', hnE, q1, and_true] at hf
          omega
        · intro hf
          simp only [facts_cons, facts_nil, le_t, le_f, lt_t, lt_f, eq_t, eq_f, d_v, d_c, D4, D5, D7, D9, D11, D22, h20', hnE, q1, and_true] at hf
          have hm : ¬ (0 < i ∧ E0.a 0 ((i - 1) * 2 + 1) + 1 = E0.i 1) := fun h => by have := D20 h.1; omega
          obtain ⟨s1, s2, s3⟩ := st_start (p := E0.i 1) hr hi hle (by omega) hm
          exact ⟨rfl, fin _ _ _ (by rw [s1]; rfl) (by rw [s2]; exact hnE) (fun j _ => by rw [s3]; exact D10 j)⟩
        · intro hf
          simp only [facts_cons, facts_nil, le_t, le_f, lt_t, lt_f, eq_t, eq_f, d_v, d_c, D4, D5, D7, D9, D11, D22, h20', hnE, q1, and_true] at hf
          omega
        · intro hf
          simp only [facts_cons, facts_nil, le_t, le_f, lt_t, lt_f, eq_t, eq_f, d_v, d_c, D4, D5, D7, D9, D11, D22, h20', hnE, q1, and_true] at hf
          omega
        · intro hf
          simp only [facts_cons, facts_nil, le_t, le_f, lt_t, lt_f, eq_t, eq_f, d_v, d_c, D4, D5, D7, D9, D11, D22, h20', hnE, q1, and_true] at hf
          obtain ⟨s1, s2, s3⟩ := st_ins (p := E0.i 1) hr hi hle (by omega) (by omega) (by omega)
          exact ⟨rfl, fin _ _ _ (by rw [s1]; rfl) (by rw [s2, D25]; omega) (fun j _ => by rw [s3, D24])⟩
        · intro hf
          simp only [facts_cons, facts_nil, le_t, le_f, lt_t, lt_f, eq_t, eq_f, d_v, d_c, D4, D5, D7, D9, D11, D22, h20', hnE, q1, and_true] at hf
          omega
        · intro hf
          simp only [facts_cons, facts_nil, le_t, le_f, lt_t, lt_f, eq_t, eq_f, d_v, d_c, D4, D5, D7, D9, D11, D22, h20', hnE, q1, and_true] at hf
          refine ⟨⟨_, rfl, .inr ⟨rfl, rfl⟩⟩, fun o => ⟨⟨i, hS.put _ o, ?_, by rw [hnt]; exact k_dn hle (by omega), by omega, by omega⟩, fun b hb => ?_⟩⟩
          · show E.i 20 - 1 = _
            omega
          · obtain rfl := Option.some.inj hb
            show (E.i 20 - 1 + 1).toNat < (E.i 20 + 1).toNat
            omega
        · intro hf
          simp only [facts_cons, facts_nil, le_t, le_f, lt_t, lt_f, eq_t, eq_f, d_v, d_c, D4, D5, D7, D9, D11, D22, h20', hnE, q1, and_true] at hf
          obtain ⟨s1, s2, s3⟩ := st_end (p := E0.i 1) hr hi hle (by omega)
          exact ⟨rfl, fin _ _ _ (by rw [s1]; rfl) (by rw [s2]; exact hnE) (fun j _ => by rw [s3]; exact D8 j)⟩
        · intro hf
          simp only [facts_cons, facts_nil, le_t, le_f, lt_t, lt_f, eq_t, eq_f, d_v, d_c, D4, D5, D7, D9, D11, D22, h20', hnE, q1, and_true] at hf
          have h0 : 0 < i := by omega
          have hm : E0.a 0 ((i - 1) * 2 + 1) + 1 = E0.i 1 := by rw [← D20 h0]; omega
          obtain ⟨s1, s2, s3⟩ := st_merge (p := E0.i 1) hr hi hle (by omega) h0 hm
          exact ⟨rfl, fin _ _ _ (by rw [s1]; rfl) (by rw [s2, D17]; omega) (fun j _ => by rw [s3]; exact D16 h0 j)⟩
        · intro hf
          simp only [facts_cons, facts_nil, le_t, le_f, lt_t, lt_f, eq_t, eq_f, d_v, d_c, D4, D5, D7, D9, D11, D22, h20', hnE, q1, and_true] at hf
          omega
        · intro hf
          simp only [facts_cons, facts_nil, le_t, le_f, lt_t, lt_f, eq_t, eq_f, d_v, d_c, D4, D5, D7, D9, D11, D22, h20', hnE, q1, and_true] at hf
          omega
        · intro hf
          simp only [facts_cons, facts_nil, le_t, le_f, lt_t, lt_f, eq_t, eq_f, d_v, d_c, D4, D5, D7, D9, D11, D22, h20', hnE, q1, and_true] at hf
          have hm : ¬ (0 < i ∧ E0.a 0 ((i - 1) * 2 + 1) + 1 = E0.i 1) := fun h => by have := D20 h.1; omega
          obtain ⟨s1, s2, s3⟩ := st_start (p := E0.i 1) hr hi hle (by omega) hm
          exact ⟨rfl, fin _ _ _ (by rw [s1]; rfl) (by rw [s2]; exact hnE) (fun j _ => by rw [s3]; exact D10 j)⟩
        · intro hf
          simp only [facts_cons, facts_nil, le_t, le_f, lt_t, lt_f, eq_t, eq_f, d_v, d_c, D4, D5, D7, D9, D11, D22, h20', hnE, q1, and_true] at hf
          omega
        · intro hf
          simp only [facts_cons, facts_nil, le_t, le_f, lt_t, lt_f, eq_t, eq_f, d_v, d_c, D4, D5, D7, D9, D11, D22, h20', hnE, q1, and_true] at hf
          have hm : ¬ (0 < i ∧ E0.a 0 ((i - 1) * 2 + 1) + 1 = E0.i 1) := fun h => by have := D20 h.1; omega
          obtain ⟨s1, s2, s3⟩ := st_start (p := E0.i 1) hr hi hle (by omega) hm
          exact ⟨rfl, fin _ _ _ (by rw [s1]; rfl) (by rw [s2]; exact hnE) (fun j _ => by rw [s3]; exact D10 j)⟩
        · intro hf
          simp only [facts_cons, facts_nil, le_t, le_f, lt_t, lt_f, eq_t, eq_f, d_v, d_c, D4, D5, D7, D9, D11, D22, h20', hnE, q1, and_true] at hf
          omega
        · intro hf
          simp only [facts_cons, facts_nil, le_t, le_f, lt_t, lt_f, eq_t, eq_f, d_v, d_c, D4, D5, D7, D9, D11, D22, h20', hnE, q1, and_true] at hf
          omega
        · intro hf
          simp only [facts_cons, facts_nil, le_t, le_f, lt_t, lt_f, eq_t, eq_f, d_v, d_c, D4, D5, D7, D9, D11, D22, h20', hnE, q1, and_true] at hf
          obtain ⟨s1, s2, s3⟩ := st_ins (p := E0.i 1) hr hi hle (by omega) (by omega) (by omega)
          exact ⟨rfl, fin _ _ _ (by rw [s1]; rfl) (by rw [s2, D25]; omega) (fun j _ => by rw [s3, D24])⟩
        · intro hf
          simp only [facts_cons, facts_nil, le_t, le_f, lt_t, lt_f, eq_t, eq_f, d_v, d_c, D4, D5, D7, D9, D11, D22, h20', hnE, q1, and_true] at hf
          omega
        · intro hf
          simp only [facts_cons, facts_nil, le_t, le_f, lt_t, lt_f, eq_t, eq_f, d_v, d_c, D4, D5, D7, D9, D11, D22, h20', hnE, q1, and_true] at hf
          refine ⟨⟨_, rfl, .inr ⟨rfl, rfl⟩⟩, fun o => ⟨⟨i, hS.put _ o, ?_, by rw [hnt]; exact k_dn hle (by omega), by omega, by omega⟩, fun b hb => ?_⟩⟩
          · show E.i 20 - 1 = _
            omega
          · obtain rfl := Option.some.inj hb
            show (E.i 20 - 1 + 1).toNat < (E.i 20 + 1).toNat
            omega
        · intro hf
          simp only [facts_cons, facts_nil, le_t, le_f, lt_t, lt_f, eq_t, eq_f, d_v, d_c, D4, D5, D7, D9, D11, D22, h20', hnE, q1, and_true] at hf
          omega
theorem ct50t_ok : CtOk Try.prog fns (ct50 laT an3) := by
  refine ct_of_pts (p := prm50 Try.prog) (pts := pts50 Try.prog laT an3) (n := 900) (c0 := enterD (prm50 Try.prog) (ct50 laT an3)) (fun E hE => prm50_ok E hE) rfl (by intro q hq; cases hq) Try.func50 (by kernel_rfl) ?_ (fun E0 _ E => ∃ k, I50 (E0.i 0).toNat E0 E k) (fun E0 _ E => (E.i 20 + 1).toNat) tals (by kernel_rfl) ?_ ?_
  · intro t ht
    simp only [pts50, List.mem_cons, List.not_mem_nil, or_false] at ht
    subst ht
    exact ⟨by kernel_rfl, by decide⟩
  · intro E hE hF
    obtain ⟨n, hn, hn60, p0, p1, hr⟩ := pre50 hE hF
    have hnt : (E.i 0).toNat = n := by omega
    obtain ⟨dB, dN, dA, dK⟩ := add_den hE hn
    refine ⟨fun a ha => ?_, fun x hx => ?_⟩
    · obtain rfl := Option.some.inj ha; exact ad_facts hE hn p0 (by omega) hr
    · unfold tals at hx
      simp only [List.mem_cons, List.not_mem_nil, or_false] at hx
      rcases hx with rfl | rfl
      · intro hf
        have h0 := hf (SB.eq (.v 0) (.c 0), true) (by simp)
        simp only [eq_t, d_v, d_c] at h0
        have hn0 : n = 0 := by omega
        subst hn0
        obtain ⟨z1, z2, z3⟩ := st_zero (A := E.a 0) (n := 0) (p := E.i 1) rfl
        refine ⟨rfl, ?_⟩
        simp only [List.forall_mem_cons, List.not_mem_nil, false_imp_iff, implies_true, and_true, true_and, Eqn.ok]
        refine ⟨by rw [show (SB.ap 3 (.a (.v 0) (.i (.v 0) (.i (.v 1) .nil)))).den E = _ from dB, z1]; rfl, fun j hj => ?_, ?_⟩
        · have hj' : j < addN (E.a 0) 0 (E.i 1) * 2 := by
            have e : tae3.den E = _ := dN
            rw [e] at hj; simpa using hj
          rw [z2] at hj'
          have e : tae2.den E = _ := dA
          rw [e, z3]
          have e0 : (tae0.den E).toNat = 0 := by show (E.i 0 * 2).toNat = 0; rw [hn]; rfl
          show (if j < (tae0.den E).toNat then E.a 0 j else SL.nth E (.i (.v 1) (.i (.v 1) .nil)) (j - (tae0.den E).toNat)) = _
          rw [e0, if_neg (by omega)]
          unfold ins2
          rcases (by omega : j = 0 ∨ j = 1) with rfl | rfl <;> rfl
        · show E.i 0 + 1 = _
          have e : tae3.den E = _ := dN
          rw [e, z2, hn]; rfl
      · intro hf
        have h0 := hf (SB.eq (.v 0) (.c 0), false) (by simp)
        have h0 : ¬ E.i 0 = 0 := by simpa [SB.den, SE.den] using h0
        refine ⟨⟨_, rfl, .inl ⟨rfl, rfl⟩⟩, fun o => ⟨⟨n, (Sm.refl 20 E).put _ o, ?_, by rw [hnt]; exact kR_le _ _ _, by omega, by omega⟩, fun b hb => by cases hb⟩⟩
        show E.i 0 - 1 = _
        omega
  · intro kk t ht
    have hk : kk = 0 := by
      have := (List.getElem?_eq_some_iff.1 ht).1
      simp [pts50] at this; omega
    subst hk
    refine ⟨tp0ls, by rw [← ptD_some ht (ct50 laT an3).g]; exact tp0run, fun E0 E hE0 hE hF0 ⟨k, hI⟩ => ?_⟩
    obtain ⟨n, hn, hn60, p0, p1, hr⟩ := pre50 hE0 hF0
    have hnt : (E0.i 0).toNat = n := by omega
    rw [hnt] at hI
    obtain ⟨hS, h20, hle, hkn, hn1⟩ := hI
    obtain ⟨dB, dN, dA, dK⟩ := add_den hE0 hn
    have q0 := hS.i 0 (by decide); have q1 := hS.i 1 (by decide)
    have qa : E.a 0 = E0.a 0 := by rw [hS.a]
    have hnE : E.i 0 = n := q0.trans hn
    obtain ⟨_, _, _, dKE⟩ := add_den hE hnE
    rw [qa, q1] at dKE
    refine ⟨?_, fun x hx => ?_⟩
    · obtain rfl := Option.some.inj ht
      show Facts E ([((.le (.c 0) (.v 0)), true), ((.le (.v 0) (.c 60)), true), ((.le (.c 0) (.v 1)), true), ((.le (.v 1) (.c 400)), true), ((rgF (.v 0) (.v 0)).1, true), ((.le (.c (-1)) (.v 20)), true), ((.le (.v 20) (.c 59)), true), ((.lt (.v 20) (.v 0)), true), ((.le (f3 8 (.v 0) (.v 0) (.v 1)) (.add (.v 20) (.c 1))), true), ((.le (.c 1) (.v 0)), true)])
      have hsr : (rgF (.v 0) (.v 0)).1.den E = true := of_rg hE (.v 0) (.v 0) (by
        show Rg (fun j => E.a 0 j) (E.i 0).toNat
        rw [hnE, Int.toNat_natCast, qa]; exact hr)
      simp only [facts_cons, facts_nil, le_t, lt_t, d_c, d_v, d_add, and_true, dKE]
      refine ⟨by omega, by omega, by omega, by omega, hsr, by omega, by omega, by omega, by omega, by omega⟩
    · unfold tp0ls at hx
      simp only [List.mem_cons, List.not_mem_nil, or_false] at hx
      have fin : ∀ (B : SB) (A : AE) (N : SE), B.den E = addB (E0.a 0) n (E0.i 1) → N.den E = addN (E0.a 0) n (E0.i 1) → (∀ j, j < addN (E0.a 0) n (E0.i 1) * 2 → A.den E j = addA (E0.a 0) n (E0.i 1) j) →
          ∀ q ∈ ([.b B (.ap 3 (.a (.v 0) (.i (.v 0) (.i (.v 1) .nil)))), .i (.v 31) (.v 31), .i (.v 32) (.v 32), .i (.v 33) (.v 33), .i (.v 6) (.v 6), .b (.v 0) (.v 0), .i (.v 34) (.v 34), .i (.v 35) (.v 35), .i (.v 36) (.v 36), .b (.v 1) (.v 1), .i (.v 37) (.v 37), .i (.v 38) (.v 38), .i (.v 39) (.v 39), .a A tp0e0 tp0e1 2, .i N tp0e1] : List Eqn), q.ok E E0 := fun B A N hB hN hA => by
        have qb : ∀ m, E.b m = E0.b m := fun m => by rw [hS.b]
        have e0 : tp0e0.den E0 = _ := dA
        have e1 : tp0e1.den E0 = _ := dN
        simp only [List.forall_mem_cons, List.not_mem_nil, false_imp_iff, implies_true, and_true, true_and, Eqn.ok]
        refine ⟨hB.trans dB.symm, hS.i 31 (by decide), hS.i 32 (by decide), hS.i 33 (by decide), hS.i 6 (by decide), qb 0, hS.i 34 (by decide), hS.i 35 (by decide), hS.i 36 (by decide), qb 1, hS.i 37 (by decide), hS.i 38 (by decide), hS.i 39 (by decide), fun j hj => ?_, hN.trans e1.symm⟩
        rw [e1] at hj
        rw [e0]; exact hA j (by simpa using hj)
      rcases Nat.eq_zero_or_pos k with hk0 | hk0
      · have hKz : kR (E0.a 0) (E0.i 1) n = 0 := by omega
        obtain ⟨z1, z2, z3⟩ := st_zero hKz
        have dead : ∀ F : Fx, ((.le (.c 0) (.v 20) : SB), true) ∈ F → ¬ Facts E F := fun F hm hf => by
          have := hf _ hm
          simp only [le_t, d_v, d_c] at this
          omega
        rcases hx with rfl | rfl | rfl | rfl | rfl | rfl | rfl | rfl | rfl | rfl | rfl | rfl | rfl | rfl | rfl | rfl | rfl | rfl | rfl | rfl | rfl | rfl | rfl | rfl | rfl | rfl
        · intro hf
          exact absurd hf (dead _ (by simp))
        · intro hf
          exact absurd hf (dead _ (by simp))
        · intro hf
          exact absurd hf (dead _ (by simp))
        · intro hf
          exact absurd hf (dead _ (by simp))
        · intro hf
          exact absurd hf (dead _ (by simp))
        · intro hf
          exact absurd hf (dead _ (by simp))
        · intro hf
          exact absurd hf (dead _ (by simp))
        · intro hf
          exact absurd hf (dead _ (by simp))
        · intro hf
          exact absurd hf (dead _ (by simp))
        · intro hf
          exact absurd hf (dead _ (by simp))
        · intro hf
          exact absurd hf (dead _ (by simp))
        · intro hf
          exact absurd hf (dead _ (by simp))
        · intro hf
          exact absurd hf (dead _ (by simp))
        · intro hf
          exact absurd hf (dead _ (by simp))
        · intro hf
          exact absurd hf (dead _ (by simp))
        · intro hf
          exact absurd hf (dead _ (by simp))
        · intro hf
          exact absurd hf (dead _ (by simp))
        · intro hf
          exact absurd hf (dead _ (by simp))
        · intro hf
          exact absurd hf (dead _ (by simp))
        · intro hf
          exact absurd hf (dead _ (by simp))
        · intro hf
          exact absurd hf (dead _ (by simp))
        · intro hf
          exact absurd hf (dead _ (by simp))
        · intro hf
          exact absurd hf (dead _ (by simp))
        · intro hf
          exact absurd hf (dead _ (by simp))
        · intro hf
          exact absurd hf (dead _ (by simp))
        · intro hf
          refine ⟨rfl, fin _ _ _ (by rw [z1]; rfl) ?_ (fun j _ => ?_)⟩
          · show E.i 0 + 1 = _
            rw [z2, hnE]; rfl
          · rw [z3]
            show E.fn.a 2 [.a (fun j => E.a 0 j), .i (E.i 0), .i 0, .a (tp0e23.den E)] j = _
            rw [hE]
            show ins2 (fun j => E.a 0 j) (E.i 0).toNat (0 : Int).toNat (E.i 1) (E.i 1) j = _
            rw [hnE, qa, q1]; rfl
      · obtain ⟨i, rfl⟩ : ∃ i, k = i + 1 := ⟨k - 1, by omega⟩
        have hi : i < n := by omega
        have h20' : E.i 20 = (i : Int) := by rw [h20]; omega
        have D4 : tp0e4.den E = E0.a 0 (i * 2 + 1) := by
          show E.a 0 (E.i 20 * 2 + 1).toNat = _
          rw [qa, h20', show ((i : Int) * 2 + 1).toNat = i * 2 + 1 by omega]
        have D5 : tp0e5.den E = E0.a 0 (i * 2) := by
          show E.a 0 (E.i 20 * 2).toNat = _
          rw [qa, h20', show ((i : Int) * 2).toNat = i * 2 by omega]
        have D7 : tp0e7.den E = (i : Int) + 1 := by show E.i 20 + 1 = _; rw [h20']
        have D9 : tp0e9.den E = E0.i 1 - 1 := by show E.i 1 - 1 = _; rw [q1]
        have D11 : tp0e11.den E = (i : Int) - 1 := by show E.i 20 - 1 = _; rw [h20']
        have D21 : tp0e21.den E = E0.a 0 ((i - 1) * 2 + 1) ∨ i = 0 := by
          rcases Nat.eq_zero_or_pos i with h | h
          · exact .inr h
          · left
            show E.a 0 ((E.i 20 - 1) * 2 + 1).toNat = _
            rw [qa, h20', show (((i : Int) - 1) * 2 + 1).toNat = (i - 1) * 2 + 1 by omega]
        have D21' : 0 ≤ tp0e21.den E ∧ tp0e21.den E ≤ 1000 := by
          have key : ∀ m, m < n * 2 → 0 ≤ E0.a 0 m ∧ E0.a 0 m ≤ 1000 := fun m hm => by
            obtain ⟨j, rfl | rfl⟩ : ∃ j, m = j * 2 ∨ m = j * 2 + 1 := ⟨m / 2, by omega⟩
            · have := hr.lo j (by omega); have := hr.hi j (by omega); have := hr.le j (by omega); omega
            · have := hr.lo j (by omega); have := hr.hi j (by omega); have := hr.le j (by omega); omega
          show 0 ≤ E.a 0 ((E.i 20 - 1) * 2 + 1).toNat ∧ E.a 0 ((E.i 20 - 1) * 2 + 1).toNat ≤ 1000
          rw [qa, h20']
          exact key _ (by omega)
        have D20 : 0 < i → tp0e20.den E = E0.a 0 ((i - 1) * 2 + 1) + 1 := fun h => by
          show IntKind.i64.wrap ((if ((E.i 20 - 1) * 2 + 1).toNat = (E.i 20 * 2).toNat then E.i 1 else E.a 0 ((E.i 20 - 1) * 2 + 1).toNat) + 1) = _
          have hb := D21'
          rw [D21.resolve_right (by omega)] at hb
          rw [if_neg (by omega), qa, h20', show (((i : Int) - 1) * 2 + 1).toNat = (i - 1) * 2 + 1 by omega]
          exact wrap_id (by simp [IntKind.min, IntKind.max, IntKind.bits, IntKind.signed]; omega)
        have D22 : tp0e22.den E = E0.i 1 + 1 := by show E.i 1 + 1 = _; rw [q1]
        have D8 : ∀ j, tp0e8.den E j = upd (E0.a 0) (i * 2 + 1) (E0.i 1) j := fun j => by
          show (if j = (E.i 20 * 2 + 1).toNat then E.i 1 else E.a 0 j) = _
          rw [h20', show ((i : Int) * 2 + 1).toNat = i * 2 + 1 by omega, qa, q1]; rfl
        have D10 : ∀ j, tp0e10.den E j = upd (E0.a 0) (i * 2) (E0.i 1) j := fun j => by
          show (if j = (E.i 20 * 2).toNat then E.i 1 else E.a 0 j) = _
          rw [h20', show ((i : Int) * 2).toNat = i * 2 by omega, qa, q1]; rfl
        have D16 : 0 < i → ∀ j, tp0e16.den E j = del2 (upd (upd (E0.a 0) (i * 2) (E0.i 1)) ((i - 1) * 2 + 1) (E0.a 0 (i * 2 + 1))) i 1 j := fun h0 j => by
          show E.fn.a 4 [.a (tp0e14.den E), .i (E.i 20), .i (E.i 20 + 1 - E.i 20)] j = _
          rw [hE]
          show del2 (tp0e14.den E) (E.i 20).toNat (E.i 20 + 1 - E.i 20).toNat j = _
          have e14 : tp0e14.den E = upd (upd (E0.a 0) (i * 2) (E0.i 1)) ((i - 1) * 2 + 1) (E0.a 0 (i * 2 + 1)) := by
            funext m
            show (if m = ((E.i 20 - 1) * 2 + 1).toNat then tp0e4.den E else tp0e10.den E m) = _
            rw [D4, D10, h20', show (((i : Int) - 1) * 2 + 1).toNat = (i - 1) * 2 + 1 by omega]; rfl
          rw [e14, h20', show ((i : Int) + 1 - (i : Int)).toNat = 1 by omega]; rfl
        have D17 : tp0e17.den E = (n : Int) - 1 := by
          show E.i 0 - (E.i 20 + 1 - E.i 20) = _
          rw [hnE]; omega
        have D24 : tp0e24.den E = ins2 (E0.a 0) n (i + 1) (E0.i 1) (E0.i 1) := by
          show E.fn.a 2 [.a (fun j => E.a 0 j), .i (E.i 0), .i (E.i 20 + 1), .a (tp0e23.den E)] = _
          rw [hE]
          show ins2 (fun j => E.a 0 j) (E.i 0).toNat (E.i 20 + 1).toNat (E.i 1) (E.i 1) = _
          rw [hnE, h20', qa, q1]; rfl
        have D25 : tp0e25.den E = (n : Int) + 1 := by show E.i 0 + 1 = _; rw [hnE]
        have hl := hr.le i hi
        rcases hx with rfl | rfl | rfl | rfl | rfl | rfl | rfl | rfl | rfl | rfl | rfl | rfl | rfl | rfl | rfl | rfl | rfl | rfl | rfl | rfl | rfl | rfl | rfl | rfl | rfl | rfl
        · intro hf
          simp only [facts_cons, facts_nil, le_t, le_f, lt_t, lt_f, eq_t, eq_f, d_v, d_c, D4, D5, D7, D9, D11, D22, h20', hnE, q1, and_true] at hf
          obtain ⟨s1, s2, s3⟩ := st_dup (p := E0.i 1) hr hi hle (by omega) (by omega)
          exact ⟨rfl, fin _ _ _ (by rw [s1]; rfl) (by rw [s2]; exact hnE) (fun j _ => by rw [s3, ← qa]; rfl)⟩
        · intro hf
          simp only [facts_cons, facts_nil, le_t, le_f, lt_t, lt_f, eq_t, eq_f, d_v, d_c, D4, D5, D7, D9, D11, D22, h20', hnE, q1, and_true] at hf
          obtain ⟨s1, s2, s3⟩ := st_end (p := E0.i 1) hr hi hle (by omega)
          exact ⟨rfl, fin _ _ _ (by rw [s1]; rfl) (by rw [s2]; exact hnE) (fun j _ => by rw [s3]; exact D8 j)⟩
        · intro hf
          simp only [facts_cons, facts_nil, le_t, le_f, lt_t, lt_f, eq_t, eq_f, d_v, d_c, D4, D5, D7, D9, D11, D22, h20', hnE, q1, and_true] at hf
          have h0 : 0 < i := by omega
          have hm : E0.a 0 ((i - 1) * 2 + 1) + 1 = E0.i 1 := by rw [← D20 h0]; omega
          obtain ⟨s1, s2, s3⟩ := st_merge (p := E0.i 1) hr hi hle (by omega) h0 hm
          exact ⟨rfl, fin _ _ _ (by rw [s1]; rfl) (by rw [s2, D17]; omega) (fun j _ => by rw [s3]; exact D16 h0 j)⟩
        · intro hf
          simp only [facts_cons, facts_nil, le_t, le_f, lt_t, lt_f, eq_t, eq_f, d_v, d_c, D4, D5, D7, D9, D11, D22, h20', hnE, q1, and_true] at hf
          omega
        · intro hf
          simp only [facts_cons, facts_nil, le_t, le_f, lt_t, lt_f, eq_t, eq_f, d_v, d_c, D4, D5, D7, D9, D11, D22, h20', hnE, q1, and_true] at hf
          omega
        · intro hf
          simp only [facts_cons, facts_nil, le_t, le_f, lt_t, lt_f, eq_t, eq_f, d_v, d_c, D4, D5, D7, D9, D11, D22, h20', hnE, q1, and_true] at hf
          have hm : ¬ (0 < i ∧ E0.a 0 ((i - 1) * 2 + 1) + 1 = E0.i 1) := fun h => by have := D20 h.1; omega
          obtain ⟨s1, s2, s3⟩ := st_start (p := E0.i 1) hr hi hle (by omega) hm
          exact ⟨rfl, fin _ _ _ (by rw [s1]; rfl) (by rw [s2]; exact hnE) (fun j _ => by rw [s3]; exact D10 j)⟩
        · intro hf
          simp only [facts_cons, facts_nil, le_t, le_f, lt_t, lt_f, eq_t, eq_f, d_v, d_c, D4, D5, D7, D9, D11, D22, h20', hnE, q1, and_true] at hf
          omega
        · intro hf
          simp only [facts_cons, facts_nil, le_t, le_f, lt_t, lt_f, eq_t, eq_f, d_v, d_c, D4, D5, D7, D9, D11, D22, h20', hnE, q1, and_true] at hf
          have hm : ¬ (0 < i ∧ E0.a 0 ((i - 1) * 2 + 1) + 1 = E0.i 1) := fun h => by have := D20 h.1; omega
          obtain ⟨s1, s2, s3⟩ := st_start (p := E0.i 1) hr hi hle (by omega) hm
          exact ⟨rfl, fin _ _ _ (by rw [s1]; rfl) (by rw [s2]; exact hnE) (fun j _ => by rw [s3]; exact D10 j)⟩
        · intro hf
          simp only [facts_cons, facts_nil, le_t, le_f, lt_t, lt_f, eq_t, eq_f, d_v, d_c, D4, D5, D7, D9, D11, D22, h20', hnE, q1, and_true] at hf
          omega
        · intro hf
          simp only [facts_cons, facts_nil, le_t, le_f, lt_t, lt_f, eq_t, eq_f, d_v, d_c, D4, D5, D7, D9, D11, D22, h20', hnE, q1, and_true] at hf
          omega
        · intro hf
          simp only [facts_cons, facts_nil, le_t, le_f, lt_t, lt_f, eq_t, eq_f, d_v, d_c, D4, D5, D7, D9, D11, D22, h20', hnE, q1, and_true] at hf
          obtain ⟨s1, s2, s3⟩ := st_ins (p := E0.i 1) hr hi hle (by omega) (by omega) (by omega)
          exact ⟨rfl, fin _ _ _ (by rw [s1]; rfl) (by rw [s2, D25]; omega) (fun j _ => by rw [s3, D24])⟩
        · intro hf
          simp only [facts_cons, facts_nil, le_t, le_f, lt_t, lt_f, eq_t, eq_f, d_v, d_c, D4, D5, D7, D9, D11, D22, h20', hnE, q1, and_true] at hf
          omega
        · intro hf
          simp only [facts_cons, facts_nil, le_t, le_f, lt_t, lt_f, eq_t, eq_f, d_v, d_c, D4, D5, D7, D9, D11, D22, h20', hnE, q1, and_true] at hf
          refine ⟨⟨_, rfl, .inr ⟨rfl, rfl⟩⟩, fun o => ⟨⟨i, hS.put _ o, ?_, by rw [hnt]; exact k_dn hle (by omega), by omega, by omega⟩, fun b hb => ?_⟩⟩
          · show E.i 20 - 1 = _
            omega
          · obtain rfl := Option.some.inj hb
            show (E.i 20 - 1 + 1).toNat < (E.i 20 + 1).toNat
            omega
        · intro hf
          simp only [facts_cons, facts_nil, le_t, le_f, lt_t, lt_f, eq_t, eq_f, d_v, d_c, D4, D5, D7, D9, D11, D22, h20', hnE, q1, and_true] at hf
          obtain ⟨s1, s2, s3⟩ := st_end (p := E0.i 1) hr hi hle (by omega)
          exact ⟨rfl, fin _ _ _ (by rw [s1]; rfl) (by rw [s2]; exact hnE) (fun j _ => by rw [s3]; exact D8 j)⟩
        · intro hf
          simp only [facts_cons, facts_nil, le_t, le_f, lt_t, lt_f, eq_t, eq_f, d_v, d_c, D4, D5, D7, D9, D11, D22, h20', hnE, q1, and_true] at hf
          have h0 : 0 < i := by omega
          have hm : E0.a 0 ((i - 1) * 2 + 1) + 1 = E0.i 1 := by rw [← D20 h0]; omega
          obtain ⟨s1, s2, s3⟩ := st_merge (p := E0.i 1) hr hi hle (by omega) h0 hm
          exact ⟨rfl, fin _ _ _ (by rw [s1]; rfl) (by rw [s2, D17]; omega) (fun j _ => by rw [s3]; exact D16 h0 j)⟩
        · intro hf
          simp only [facts_cons, facts_nil, le_t, le_f, lt_t, lt_f, eq_t, eq_f, d_v, d_c, D4, D5, D7, D9, D11, D22, h20', hnE, q1, and_true] at hf
          omega
        · intro hf
          simp only [facts_cons, facts_nil, le_t, le_f, lt_t, lt_f, eq_t, eq_f, d_v, d_c, D4, D5, D7, D9, D11, D22, h20', hnE, q1, and_true] at hf
          omega
        · intro hf
          simp only [facts_cons, facts_nil, le_t, le_f, lt_t, lt_f, eq_t, eq_f, d_v, d_c, D4, D5, D7, D9, D11, D22, h20', hnE, q1, and_true] at hf
          have hm : ¬ (0 < i ∧ E0.a 0 ((i - 1) * 2 + 1) + 1 = E0.i 1) := fun h => by have := D20 h.1; omega
          obtain ⟨s1, s2, s3⟩ := st_start (p := E0.i 1) hr hi hle (by omega) hm
          exact ⟨rfl, fin _ _ _ (by rw [s1]; rfl) (by rw [s2]; exact hnE) (fun j _ => by rw [s3]; exact D10 j)⟩
        · intro hf
          simp only [facts_cons, facts_nil, le_t, le_f, lt_t, lt_f, eq_t, eq_f, d_v, d_c, D4, D5, D7, D9, D11, D22, h20', hnE, q1, and_true] at hf
          omega
        · intro hf
          simp only [facts_cons, facts_nil, le_t, le_f, lt_t, lt_f, eq_t, eq_f, d_v, d_c, D4, D5, D7, D9, D11, D22, h20', hnE, q1, and_true] at hf
          have hm : ¬ (0 < i ∧ E0.a 0 ((i - 1) * 2 + 1) + 1 = E0.i 1) := fun h => by have := D20 h.1; omega
          obtain ⟨s1, s2, s3⟩ := st_start (p := E0.i 1) hr hi hle (by omega) hm
          exact ⟨rfl, fin _ _ _ (by rw [s1]; rfl) (by rw [s2]; exact hnE) (fun j _ => by rw [s3]; exact D10 j)⟩
        · intro hf
          simp only [facts_cons, facts_nil, le_t, le_f, lt_t, lt_f, eq_t, eq_f, d_v, d_c, D4, D5, D7, D9, D11, D22, h20', hnE, q1, and_true] at hf
          omega
        · intro hf
          simp only [facts_cons, facts_nil, le_t, le_f, lt_t, lt_f, eq_t, eq_f, d_v, d_c, D4, D5, D7, D9, D11, D22, h20', hnE, q1, and_true] at hf
          omega
        · intro hf
          simp only [facts_cons, facts_nil, le_t, le_f, lt_t, lt_f, eq_t, eq_f, d_v, d_c, D4, D5, D7, D9, D11, D22, h20', hnE, q1, and_true] at hf
          obtain ⟨s1, s2, s3⟩ := st_ins (p := E0.i 1) hr hi hle (by omega) (by omega) (by omega)
          exact ⟨rfl, fin _ _ _ (by rw [s1]; rfl) (by rw [s2, D25]; omega) (fun j _ => by rw [s3, D24])⟩
        · intro hf
          simp only [facts_cons, facts_nil, le_t, le_f, lt_t, lt_f, eq_t, eq_f, d_v, d_c, D4, D5, D7, D9, D11, D22, h20', hnE, q1, and_true] at hf
          omega
        · intro hf
          simp only [facts_cons, facts_nil, le_t, le_f, lt_t, lt_f, eq_t, eq_f, d_v, d_c, D4, D5, D7, D9, D11, D22, h20', hnE, q1, and_true] at hf
          refine ⟨⟨_, rfl, .inr ⟨rfl, rfl⟩⟩, fun o => ⟨⟨i, hS.put _ o, ?_, by rw [hnt]; exact k_dn hle (by omega), by omega, by omega⟩, fun b hb => ?_⟩⟩
          · show E.i 20 - 1 = _
            omega
          · obtain rfl := Option.some.inj hb
            show (E.i 20 - 1 + 1).toNat < (E.i 20 + 1).toNat
            omega
        · intro hf
          simp only [facts_cons, facts_nil, le_t, le_f, lt_t, lt_f, eq_t, eq_f, d_v, d_c, D4, D5, D7, D9, D11, D22, h20', hnE, q1, and_true] at hf
          omega
end Go.Proofs.Ytgianhjmjiiadaa
