/- issued keeps its contract. -/
import Derived.Test.YtjanndmmhjnpcaaDoorQcV
import Derived.Test.YtjanndmmhjnpcaaDoorQcG
set_option autoImplicit true
set_option relaxedAutoImplicit true
set_option linter.unusedVariables false
set_option linter.unusedSimpArgs false
set_option maxRecDepth 100000
set_option maxHeartbeats 4000000
namespace Go.Proofs.YtjanndmmhjnpcaaDoor
open Go Go.Sy Go.RowKit
noncomputable def isae0 : SE := .ap 10 (.a (.v 0) (.i (.v 0) (.i (.v 10) (.i (.v 11) (.i (.v 1) (.i (.v 15) .nil))))))
noncomputable def isae1 : SE := .ite (.le (.c 4) isae0) (.c 9) (.c 0)
noncomputable def isae2 : SE := .ap 11 (.a (.v 0) (.i (.v 0) (.i (.v 10) (.i (.v 11) (.i (.v 1) (.i (.v 15) .nil))))))
noncomputable def isae3 : SE := .ap 12 (.i (.v 10) (.i (.v 11) (.i (.v 1) (.i (.v 15) .nil))))
noncomputable def isae4 : SE := .ite (.ap 10 (.i (.v 10) (.i (.v 11) (.i (.v 1) (.i (.v 15) .nil))))) (.c 0) (.v 13)
noncomputable def isae5 : SE := .tmod (.v 12) (.c 10000)
noncomputable def isae6 : SE := .add (.c 5000) isae5
noncomputable def isae7 : SE := .ite (.ap 10 (.i (.v 10) (.i (.v 11) (.i (.v 1) (.i (.v 15) .nil))))) isae6 (.v 14)
noncomputable def isae8 : AE := .ap 10 (.a (.v 0) (.i (.v 0) (.i (.v 10) (.i (.v 11) (.i (.v 1) (.i (.v 15) .nil))))))
noncomputable def isae9 : AE := .tl (.v 0) (.c 0) (.i (.v 1) .nil)
noncomputable def isae10 : AE := .ap 13 (.a (.v 0) (.i (.v 0) (.i (.v 10) (.i (.v 11) (.i (.v 1) (.i (.v 15) .nil))))))
noncomputable def isae11 : SE := .ap 13 (.a (.v 0) (.i (.v 0) (.i (.v 10) (.i (.v 11) (.i (.v 1) (.i (.v 15) .nil))))))
noncomputable def isae12 : AE := .tl (.v 0) (.c 0) .nil
noncomputable def isae13 : AE := .ap 1 (.a (.v 0) (.i (.v 0) (.a isae12 .nil)))
noncomputable def isax0 : Vl := .out 0 [.i (.c 0) isae1, .i (.v 10) isae2, .i (.v 11) isae3, .b (.v 0) (.v 0), .i (.v 13) isae4, .i (.v 14) isae7, .i isae6 isae6, .p 1003 (.i (.v 0) (.i (.v 9) (.a (.v 0) .nil))) (.i isae0 (.i (.v 9) (.a isae8 .nil))), .a isae9 isae10 isae11 1, .i (.c 1) isae11] [((.lt (.v 1) (.v 10)), true), ((.le (.c 0) (.v 0)), true), ((.le (.v 0) (.c 3)), true), ((.le (.c 0) (.v 1)), true), ((.le (.v 1) (.c 255)), true), ((.le (.c 0) (.v 15)), true), ((.le (.v 15) (.c 255)), true), ((.le (.c 0) (.v 10)), true), ((.le (.v 10) (.c 255)), true), ((.le (.c 0) (.v 11)), true), ((.le (.v 11) (.c 255)), true), ((.le (.c 0) (.v 12)), true), ((.le (.v 12) (.c 4294967295)), true), ((.le (.v 15) (.v 1)), true), ((.ap 2 (.a isae13 (.i (.v 0) (.i (.v 10) (.i (.v 11) .nil))))), true)]
noncomputable def isax1 : Vl := .out 0 [.i (.c 0) isae1, .i (.v 10) isae2, .i (.v 11) isae3, .b (.v 0) (.v 0), .i (.v 13) isae4, .i (.v 14) isae7, .i isae6 isae6, .p 1003 (.i (.v 0) (.i (.v 9) (.a (.v 0) .nil))) (.i isae0 (.i (.v 9) (.a isae8 .nil))), .a isae9 isae10 isae11 1, .i (.c 1) isae11] [((.lt (.v 1) (.v 11)), true), ((.lt (.v 1) (.v 10)), false), ((.le (.c 0) (.v 0)), true), ((.le (.v 0) (.c 3)), true), ((.le (.c 0) (.v 1)), true), ((.le (.v 1) (.c 255)), true), ((.le (.c 0) (.v 15)), true), ((.le (.v 15) (.c 255)), true), ((.le (.c 0) (.v 10)), true), ((.le (.v 10) (.c 255)), true), ((.le (.c 0) (.v 11)), true), ((.le (.v 11) (.c 255)), true), ((.le (.c 0) (.v 12)), true), ((.le (.v 12) (.c 4294967295)), true), ((.le (.v 15) (.v 1)), true), ((.ap 2 (.a isae13 (.i (.v 0) (.i (.v 10) (.i (.v 11) .nil))))), true)]
noncomputable def isax2 : Vl := .go 0 [(130, (.c 0)), (132, (.c 0)), (133, (.c 0))] [] [] [((.lt (.v 1) (.v 11)), false), ((.lt (.v 1) (.v 10)), false), ((.le (.c 0) (.v 0)), true), ((.le (.v 0) (.c 3)), true), ((.le (.c 0) (.v 1)), true), ((.le (.v 1) (.c 255)), true), ((.le (.c 0) (.v 15)), true), ((.le (.v 15) (.c 255)), true), ((.le (.c 0) (.v 10)), true), ((.le (.v 10) (.c 255)), true), ((.le (.c 0) (.v 11)), true), ((.le (.v 11) (.c 255)), true), ((.le (.c 0) (.v 12)), true), ((.le (.v 12) (.c 4294967295)), true), ((.le (.v 15) (.v 1)), true), ((.ap 2 (.a isae13 (.i (.v 0) (.i (.v 10) (.i (.v 11) .nil))))), true)] (.code (.loop (loopB (prm28 Tryd.prog).P 28 5))) (loopK (prm28 Tryd.prog).P 28 5)
noncomputable def isals : List Vl := [isax0, isax1, isax2]
noncomputable def isp0e0 : SE := .add (.v 132) (.c 1)
noncomputable def isp0e1 : SE := .add (.v 133) (.c 1)
noncomputable def isp0e2 : SE := .rd (.v 0) (.v 133)
noncomputable def isp0e3 : AE := .tl (.v 121) (.v 132) (.i isp0e2 .nil)
noncomputable def isp0e4 : AE := .tl (.v 0) (.c 0) .nil
noncomputable def isp0e5 : AE := .ap 1 (.a (.v 0) (.i (.v 0) (.a isp0e4 .nil)))
noncomputable def isp0e6 : SE := .add (.v 130) (.c 1)
noncomputable def isp0e7 : AE := .tl (.v 120) (.v 130) (.i isp0e2 .nil)
noncomputable def isp0e8 : SE := .ap 10 (.a (.v 0) (.i (.v 0) (.i (.v 10) (.i (.v 11) (.i (.v 1) (.i (.v 15) .nil))))))
noncomputable def isp0e9 : SE := .ite (.le (.c 4) isp0e8) (.c 9) (.c 0)
noncomputable def isp0e10 : SE := .rd (.v 120) (.c 0)
noncomputable def isp0e11 : SE := .ap 11 (.a (.v 0) (.i (.v 0) (.i (.v 10) (.i (.v 11) (.i (.v 1) (.i (.v 15) .nil))))))
noncomputable def isp0e12 : SE := .mx (.v 11) (.v 15)
noncomputable def isp0e13 : SE := .mx isp0e12 (.v 10)
noncomputable def isp0e14 : SE := .ap 12 (.i (.v 10) (.i (.v 11) (.i (.v 1) (.i (.v 15) .nil))))
noncomputable def isp0e15 : SE := .ite (.ap 10 (.i (.v 10) (.i (.v 11) (.i (.v 1) (.i (.v 15) .nil))))) (.c 0) (.v 13)
noncomputable def isp0e16 : SE := .tmod (.v 12) (.c 10000)
noncomputable def isp0e17 : SE := .add (.c 5000) isp0e16
noncomputable def isp0e18 : SE := .ite (.ap 10 (.i (.v 10) (.i (.v 11) (.i (.v 1) (.i (.v 15) .nil))))) isp0e17 (.v 14)
noncomputable def isp0e19 : SE := .sub (.v 130) (.c 1)
noncomputable def isp0e20 : AE := .dr (.v 120) (.c 1)
noncomputable def isp0e21 : AE := .ap 10 (.a (.v 0) (.i (.v 0) (.i (.v 10) (.i (.v 11) (.i (.v 1) (.i (.v 15) .nil))))))
noncomputable def isp0e22 : AE := .tl (.v 121) (.v 132) (.i (.v 10) .nil)
noncomputable def isp0e23 : AE := .ap 13 (.a (.v 0) (.i (.v 0) (.i (.v 10) (.i (.v 11) (.i (.v 1) (.i (.v 15) .nil))))))
noncomputable def isp0e24 : SE := .ap 13 (.a (.v 0) (.i (.v 0) (.i (.v 10) (.i (.v 11) (.i (.v 1) (.i (.v 15) .nil))))))
noncomputable def isp0e25 : AE := .ap 5 (.a (.v 120) (.i (.v 130) (.i (.v 1) .nil)))
noncomputable def isp0e26 : SE := .rd isp0e25 (.c 0)
noncomputable def isp0e27 : SE := .ap 5 (.a (.v 120) (.i (.v 130) (.i (.v 1) .nil)))
noncomputable def isp0e28 : SE := .sub isp0e27 (.c 1)
noncomputable def isp0e29 : AE := .dr isp0e25 (.c 1)
noncomputable def isp0x0 : Vl := .go 0 [(132, isp0e0), (133, isp0e1)] [] [(121, isp0e3)] [((.lt isp0e2 (.v 15)), true), ((.lt (.v 133) (.v 0)), true), ((.le (.c 0) (.v 0)), true), ((.le (.v 0) (.c 3)), true), ((.le (.c 0) (.v 1)), true), ((.le (.v 1) (.c 255)), true), ((.le (.c 0) (.v 15)), true), ((.le (.v 15) (.c 255)), true), ((.le (.c 0) (.v 10)), true), ((.le (.v 10) (.c 255)), true), ((.le (.c 0) (.v 11)), true), ((.le (.v 11) (.c 255)), true), ((.le (.c 0) (.v 12)), true), ((.le (.v 12) (.c 4294967295)), true), ((.le (.v 15) (.v 1)), true), ((.ap 2 (.a isp0e5 (.i (.v 0) (.i (.v 10) (.i (.v 11) .nil))))), true), ((.le (.c 0) (.v 133)), true), ((.le (.v 133) (.c 50)), true), ((.le (.c 0) (.v 130)), true), ((.le (.v 130) (.c 50)), true), ((.le (.c 0) (.v 132)), true), ((.le (.v 132) (.c 50)), true), ((.lt (.v 1) (.v 10)), false), ((.lt (.v 1) (.v 11)), false), ((.ap 1 (.a (.v 120) (.i (.v 130) .nil))), true)] (.exit .normal) (.loop (loopB (prm28 Tryd.prog).P 28 5) :: loopK (prm28 Tryd.prog).P 28 5)
noncomputable def isp0x1 : Vl := .go 0 [(130, isp0e6), (133, isp0e1)] [] [(120, isp0e7)] [((.lt isp0e2 (.v 15)), false), ((.lt (.v 133) (.v 0)), true), ((.le (.c 0) (.v 0)), true), ((.le (.v 0) (.c 3)), true), ((.le (.c 0) (.v 1)), true), ((.le (.v 1) (.c 255)), true), ((.le (.c 0) (.v 15)), true), ((.le (.v 15) (.c 255)), true), ((.le (.c 0) (.v 10)), true), ((.le (.v 10) (.c 255)), true), ((.le (.c 0) (.v 11)), true), ((.le (.v 11) (.c 255)), true), ((.le (.c 0) (.v 12)), true), ((.le (.v 12) (.c 4294967295)), true), ((.le (.v 15) (.v 1)), true), ((.ap 2 (.a isp0e5 (.i (.v 0) (.i (.v 10) (.i (.v 11) .nil))))), true), ((.le (.c 0) (.v 133)), true), ((.le (.v 133) (.c 50)), true), ((.le (.c 0) (.v 130)), true), ((.le (.v 130) (.c 50)), true), ((.le (.c 0) (.v 132)), true), ((.le (.v 132) (.c 50)), true), ((.lt (.v 1) (.v 10)), false), ((.lt (.v 1) (.v 11)), false), ((.ap 1 (.a (.v 120) (.i (.v 130) .nil))), true)] (.exit .normal) (.loop (loopB (prm28 Tryd.prog).P 28 5) :: loopK (prm28 Tryd.prog).P 28 5)
noncomputable def isp0x2 : Vl := .out 0 [.i (.c 9) isp0e9, .i isp0e10 isp0e11, .i isp0e13 isp0e14, .b (.v 0) (.v 0), .i (.c 0) isp0e15, .i isp0e17 isp0e18, .i isp0e17 isp0e17, .p 1003 (.i isp0e19 (.i (.v 9) (.a isp0e20 .nil))) (.i isp0e8 (.i (.v 9) (.a isp0e21 .nil))), .a isp0e22 isp0e23 isp0e24 1, .i isp0e0 isp0e24] [((.le (.c 4) isp0e19), true), ((.le (.c 1) (.v 130)), true), ((.lt (.v 10) (.v 15)), true), ((.eq (.v 1) (.v 10)), true), ((.lt (.v 133) (.v 0)), false), ((.le (.c 0) (.v 0)), true), ((.le (.v 0) (.c 3)), true), ((.le (.c 0) (.v 1)), true), ((.le (.v 1) (.c 255)), true), ((.le (.c 0) (.v 15)), true), ((.le (.v 15) (.c 255)), true), ((.le (.c 0) (.v 10)), true), ((.le (.v 10) (.c 255)), true), ((.le (.c 0) (.v 11)), true), ((.le (.v 11) (.c 255)), true), ((.le (.c 0) (.v 12)), true), ((.le (.v 12) (.c 4294967295)), true), ((.le (.v 15) (.v 1)), true), ((.ap 2 (.a isp0e5 (.i (.v 0) (.i (.v 10) (.i (.v 11) .nil))))), true), ((.le (.c 0) (.v 133)), true), ((.le (.v 133) (.c 50)), true), ((.le (.c 0) (.v 130)), true), ((.le (.v 130) (.c 50)), true), ((.le (.c 0) (.v 132)), true), ((.le (.v 132) (.c 50)), true), ((.lt (.v 1) (.v 10)), false), ((.lt (.v 1) (.v 11)), false), ((.ap 1 (.a (.v 120) (.i (.v 130) .nil))), true)]
noncomputable def isp0x3 : Vl := .out 0 [.i (.c 0) isp0e9, .i isp0e10 isp0e11, .i isp0e13 isp0e14, .b (.v 0) (.v 0), .i (.c 0) isp0e15, .i isp0e17 isp0e18, .i isp0e17 isp0e17, .p 1003 (.i isp0e19 (.i (.v 9) (.a isp0e20 .nil))) (.i isp0e8 (.i (.v 9) (.a isp0e21 .nil))), .a isp0e22 isp0e23 isp0e24 1, .i isp0e0 isp0e24] [((.le (.c 4) isp0e19), false), ((.le (.c 1) (.v 130)), true), ((.lt (.v 10) (.v 15)), true), ((.eq (.v 1) (.v 10)), true), ((.lt (.v 133) (.v 0)), false), ((.le (.c 0) (.v 0)), true), ((.le (.v 0) (.c 3)), true), ((.le (.c 0) (.v 1)), true), ((.le (.v 1) (.c 255)), true), ((.le (.c 0) (.v 15)), true), ((.le (.v 15) (.c 255)), true), ((.le (.c 0) (.v 10)), true), ((.le (.v 10) (.c 255)), true), ((.le (.c 0) (.v 11)), true), ((.le (.v 11) (.c 255)), true), ((.le (.c 0) (.v 12)), true), ((.le (.v 12) (.c 4294967295)), true), ((.le (.v 15) (.v 1)), true), ((.ap 2 (.a isp0e5 (.i (.v 0) (.i (.v 10) (.i (.v 11) .nil))))), true), ((.le (.c 0) (.v 133)), true), ((.le (.v 133) (.c 50)), true), ((.le (.c 0) (.v 130)), true), ((.le (.v 130) (.c 50)), true), ((.le (.c 0) (.v 132)), true), ((.le (.v 132) (.c 50)), true), ((.lt (.v 1) (.v 10)), false), ((.lt (.v 1) (.v 11)), false), ((.ap 1 (.a (.v 120) (.i (.v 130) .nil))), true)]
noncomputable def isp0x4 : Vl := .dead [((.le (.c 1) (.v 130)), false), ((.lt (.v 10) (.v 15)), true), ((.eq (.v 1) (.v 10)), true), ((.lt (.v 133) (.v 0)), false), ((.le (.c 0) (.v 0)), true), ((.le (.v 0) (.c 3)), true), ((.le (.c 0) (.v 1)), true), ((.le (.v 1) (.c 255)), true), ((.le (.c 0) (.v 15)), true), ((.le (.v 15) (.c 255)), true), ((.le (.c 0) (.v 10)), true), ((.le (.v 10) (.c 255)), true), ((.le (.c 0) (.v 11)), true), ((.le (.v 11) (.c 255)), true), ((.le (.c 0) (.v 12)), true), ((.le (.v 12) (.c 4294967295)), true), ((.le (.v 15) (.v 1)), true), ((.ap 2 (.a isp0e5 (.i (.v 0) (.i (.v 10) (.i (.v 11) .nil))))), true), ((.le (.c 0) (.v 133)), true), ((.le (.v 133) (.c 50)), true), ((.le (.c 0) (.v 130)), true), ((.le (.v 130) (.c 50)), true), ((.le (.c 0) (.v 132)), true), ((.le (.v 132) (.c 50)), true), ((.lt (.v 1) (.v 10)), false), ((.lt (.v 1) (.v 11)), false), ((.ap 1 (.a (.v 120) (.i (.v 130) .nil))), true)]
noncomputable def isp0x5 : Vl := .out 0 [.i (.c 9) isp0e9, .i (.v 10) isp0e11, .i isp0e12 isp0e14, .b (.v 0) (.v 0), .i (.v 13) isp0e15, .i (.v 14) isp0e18, .i isp0e17 isp0e17, .p 1003 (.i (.v 130) (.i (.v 9) (.a (.v 120) .nil))) (.i isp0e8 (.i (.v 9) (.a isp0e21 .nil))), .a (.v 121) isp0e23 isp0e24 1, .i (.v 132) isp0e24] [((.le (.c 4) (.v 130)), true), ((.lt (.v 10) (.v 15)), false), ((.eq (.v 1) (.v 10)), true), ((.lt (.v 133) (.v 0)), false), ((.le (.c 0) (.v 0)), true), ((.le (.v 0) (.c 3)), true), ((.le (.c 0) (.v 1)), true), ((.le (.v 1) (.c 255)), true), ((.le (.c 0) (.v 15)), true), ((.le (.v 15) (.c 255)), true), ((.le (.c 0) (.v 10)), true), ((.le (.v 10) (.c 255)), true), ((.le (.c 0) (.v 11)), true), ((.le (.v 11) (.c 255)), true), ((.le (.c 0) (.v 12)), true), ((.le (.v 12) (.c 4294967295)), true), ((.le (.v 15) (.v 1)), true), ((.ap 2 (.a isp0e5 (.i (.v 0) (.i (.v 10) (.i (.v 11) .nil))))), true), ((.le (.c 0) (.v 133)), true), ((.le (.v 133) (.c 50)), true), ((.le (.c 0) (.v 130)), true), ((.le (.v 130) (.c 50)), true), ((.le (.c 0) (.v 132)), true), ((.le (.v 132) (.c 50)), true), ((.lt (.v 1) (.v 10)), false), ((.lt (.v 1) (.v 11)), false), ((.ap 1 (.a (.v 120) (.i (.v 130) .nil))), true)]
noncomputable def isp0x6 : Vl := .out 0 [.i (.c 0) isp0e9, .i (.v 10) isp0e11, .i isp0e12 isp0e14, .b (.v 0) (.v 0), .i (.v 13) isp0e15, .i (.v 14) isp0e18, .i isp0e17 isp0e17, .p 1003 (.i (.v 130) (.i (.v 9) (.a (.v 120) .nil))) (.i isp0e8 (.i (.v 9) (.a isp0e21 .nil))), .a (.v 121) isp0e23 isp0e24 1, .i (.v 132) isp0e24] [((.le (.c 4) (.v 130)), false), ((.lt (.v 10) (.v 15)), false), ((.eq (.v 1) (.v 10)), true), ((.lt (.v 133) (.v 0)), false), ((.le (.c 0) (.v 0)), true), ((.le (.v 0) (.c 3)), true), ((.le (.c 0) (.v 1)), true), ((.le (.v 1) (.c 255)), true), ((.le (.c 0) (.v 15)), true), ((.le (.v 15) (.c 255)), true), ((.le (.c 0) (.v 10)), true), ((.le (.v 10) (.c 255)), true), ((.le (.c 0) (.v 11)), true), ((.le (.v 11) (.c 255)), true), ((.le (.c 0) (.v 12)), true), ((.le (.v 12) (.c 4294967295)), true), ((.le (.v 15) (.v 1)), true), ((.ap 2 (.a isp0e5 (.i (.v 0) (.i (.v 10) (.i (.v 11) .nil))))), true), ((.le (.c 0) (.v 133)), true), ((.le (.v 133) (.c 50)), true), ((.le (.c 0) (.v 130)), true), ((.le (.v 130) (.c 50)), true), ((.le (.c 0) (.v 132)), true), ((.le (.v 132) (.c 50)), true), ((.lt (.v 1) (.v 10)), false), ((.lt (.v 1) (.v 11)), false), ((.ap 1 (.a (.v 120) (.i (.v 130) .nil))), true)]
noncomputable def isp0x7 : Vl := .out 0 [.i (.c 9) isp0e9, .i isp0e26 isp0e11, .i isp0e13 isp0e14, .b (.v 0) (.v 0), .i (.c 0) isp0e15, .i isp0e17 isp0e18, .i isp0e17 isp0e17, .p 1003 (.i isp0e28 (.i (.v 9) (.a isp0e29 .nil))) (.i isp0e8 (.i (.v 9) (.a isp0e21 .nil))), .a isp0e22 isp0e23 isp0e24 1, .i isp0e0 isp0e24] [((.le (.c 4) isp0e28), true), ((.le isp0e27 (.c 100)), true), ((.le (.c 1) isp0e27), true), ((.lt (.v 10) (.v 15)), true), ((.eq (.v 1) (.v 10)), false), ((.lt (.v 133) (.v 0)), false), ((.le (.c 0) (.v 0)), true), ((.le (.v 0) (.c 3)), true), ((.le (.c 0) (.v 1)), true), ((.le (.v 1) (.c 255)), true), ((.le (.c 0) (.v 15)), true), ((.le (.v 15) (.c 255)), true), ((.le (.c 0) (.v 10)), true), ((.le (.v 10) (.c 255)), true), ((.le (.c 0) (.v 11)), true), ((.le (.v 11) (.c 255)), true), ((.le (.c 0) (.v 12)), true), ((.le (.v 12) (.c 4294967295)), true), ((.le (.v 15) (.v 1)), true), ((.ap 2 (.a isp0e5 (.i (.v 0) (.i (.v 10) (.i (.v 11) .nil))))), true), ((.le (.c 0) (.v 133)), true), ((.le (.v 133) (.c 50)), true), ((.le (.c 0) (.v 130)), true), ((.le (.v 130) (.c 50)), true), ((.le (.c 0) (.v 132)), true), ((.le (.v 132) (.c 50)), true), ((.lt (.v 1) (.v 10)), false), ((.lt (.v 1) (.v 11)), false), ((.ap 1 (.a (.v 120) (.i (.v 130) .nil))), true)]
noncomputable def isp0x8 : Vl := .out 0 [.i (.c 0) isp0e9, .i isp0e26 isp0e11, .i isp0e13 isp0e14, .b (.v 0) (.v 0), .i (.c 0) isp0e15, .i isp0e17 isp0e18, .i isp0e17 isp0e17, .p 1003 (.i isp0e28 (.i (.v 9) (.a isp0e29 .nil))) (.i isp0e8 (.i (.v 9) (.a isp0e21 .nil))), .a isp0e22 isp0e23 isp0e24 1, .i isp0e0 isp0e24] [((.le (.c 4) isp0e28), false), ((.le isp0e27 (.c 100)), true), ((.le (.c 1) isp0e27), true), ((.lt (.v 10) (.v 15)), true), ((.eq (.v 1) (.v 10)), false), ((.lt (.v 133) (.v 0)), false), ((.le (.c 0) (.v 0)), true), ((.le (.v 0) (.c 3)), true), ((.le (.c 0) (.v 1)), true), ((.le (.v 1) (.c 255)), true), ((.le (.c 0) (.v 15)), true), ((.le (.v 15) (.c 255)), true), ((.le (.c 0) (.v 10)), true), ((.le (.v 10) (.c 255)), true), ((.le (.c 0) (.v 11)), true), ((.le (.v 11) (.c 255)), true), ((.le (.c 0) (.v 12)), true), ((.le (.v 12) (.c 4294967295)), true), ((.le (.v 15) (.v 1)), true), ((.ap 2 (.a isp0e5 (.i (.v 0) (.i (.v 10) (.i (.v 11) .nil))))), true), ((.le (.c 0) (.v 133)), true), ((.le (.v 133) (.c 50)), true), ((.le (.c 0) (.v 130)), true), ((.le (.v 130) (.c 50)), true), ((.le (.c 0) (.v 132)), true), ((.le (.v 132) (.c 50)), true), ((.lt (.v 1) (.v 10)), false), ((.lt (.v 1) (.v 11)), false), ((.ap 1 (.a (.v 120) (.i (.v 130) .nil))), true)]
noncomputable def isp0x9 : Vl := .dead [((.le isp0e27 (.c 100)), false), ((.le (.c 1) isp0e27), true), ((.lt (.v 10) (.v 15)), true), ((.eq (.v 1) (.v 10)), false), ((.lt (.v 133) (.v 0)), false), ((.le (.c 0) (.v 0)), true), ((.le (.v 0) (.c 3)), true), ((.le (.c 0) (.v 1)), true), ((.le (.v 1) (.c 255)), true), ((.le (.c 0) (.v 15)), true), ((.le (.v 15) (.c 255)), true), ((.le (.c 0) (.v 10)), true), ((.le (.v 10) (.c 255)), true), ((.le (.c 0) (.v 11)), true), ((.le (.v 11) (.c 255)), true), ((.le (.c 0) (.v 12)), true), ((.le (.v 12) (.c 4294967295)), true), ((.le (.v 15) (.v 1)), true), ((.ap 2 (.a isp0e5 (.i (.v 0) (.i (.v 10) (.i (.v 11) .nil))))), true), ((.le (.c 0) (.v 133)), true), ((.le (.v 133) (.c 50)), true), ((.le (.c 0) (.v 130)), true), ((.le (.v 130) (.c 50)), true), ((.le (.c 0) (.v 132)), true), ((.le (.v 132) (.c 50)), true), ((.lt (.v 1) (.v 10)), false), ((.lt (.v 1) (.v 11)), false), ((.ap 1 (.a (.v 120) (.i (.v 130) .nil))), true)]
noncomputable def isp0x10 : Vl := .dead [((.le (.c 1) isp0e27), false), ((.lt (.v 10) (.v 15)), true), ((.eq (.v 1) (.v 10)), false), ((.lt (.v 133) (.v 0)), false), ((.le (.c 0) (.v 0)), true), ((.le (.v 0) (.c 3)), true), ((.le (.c 0) (.v 1)), true), ((.le (.v 1) (.c 255)), true), ((.le (.c 0) (.v 15)), true), ((.le (.v 15) (.c 255)), true), ((.le (.c 0) (.v 10)), true), ((.le (.v 10) (.c 255)), true), ((.le (.c 0) (.v 11)), true), ((.le (.v 11) (.c 255)), true), ((.le (.c 0) (.v 12)), true), ((.le (.v 12) (.c 4294967295)), true), ((.le (.v 15) (.v 1)), true), ((.ap 2 (.a isp0e5 (.i (.v 0) (.i (.v 10) (.i (.v 11) .nil))))), true), ((.le (.c 0) (.v 133)), true), ((.le (.v 133) (.c 50)), true), ((.le (.c 0) (.v 130)), true), ((.le (.v 130) (.c 50)), true), ((.le (.c 0) (.v 132)), true), ((.le (.v 132) (.c 50)), true), ((.lt (.v 1) (.v 10)), false), ((.lt (.v 1) (.v 11)), false), ((.ap 1 (.a (.v 120) (.i (.v 130) .nil))), true)]
noncomputable def isp0x11 : Vl := .out 0 [.i (.c 9) isp0e9, .i (.v 10) isp0e11, .i isp0e12 isp0e14, .b (.v 0) (.v 0), .i (.v 13) isp0e15, .i (.v 14) isp0e18, .i isp0e17 isp0e17, .p 1003 (.i isp0e27 (.i (.v 9) (.a isp0e25 .nil))) (.i isp0e8 (.i (.v 9) (.a isp0e21 .nil))), .a (.v 121) isp0e23 isp0e24 1, .i (.v 132) isp0e24] [((.le (.c 4) isp0e27), true), ((.le (.c 0) isp0e27), true), ((.lt (.v 10) (.v 15)), false), ((.eq (.v 1) (.v 10)), false), ((.lt (.v 133) (.v 0)), false), ((.le (.c 0) (.v 0)), true), ((.le (.v 0) (.c 3)), true), ((.le (.c 0) (.v 1)), true), ((.le (.v 1) (.c 255)), true), ((.le (.c 0) (.v 15)), true), ((.le (.v 15) (.c 255)), true), ((.le (.c 0) (.v 10)), true), ((.le (.v 10) (.c 255)), true), ((.le (.c 0) (.v 11)), true), ((.le (.v 11) (.c 255)), true), ((.le (.c 0) (.v 12)), true), ((.le (.v 12) (.c 4294967295)), true), ((.le (.v 15) (.v 1)), true), ((.ap 2 (.a isp0e5 (.i (.v 0) (.i (.v 10) (.i (.v 11) .nil))))), true), ((.le (.c 0) (.v 133)), true), ((.le (.v 133) (.c 50)), true), ((.le (.c 0) (.v 130)), true), ((.le (.v 130) (.c 50)), true), ((.le (.c 0) (.v 132)), true), ((.le (.v 132) (.c 50)), true), ((.lt (.v 1) (.v 10)), false), ((.lt (.v 1) (.v 11)), false), ((.ap 1 (.a (.v 120) (.i (.v 130) .nil))), true)]
noncomputable def isp0x12 : Vl := .out 0 [.i (.c 0) isp0e9, .i (.v 10) isp0e11, .i isp0e12 isp0e14, .b (.v 0) (.v 0), .i (.v 13) isp0e15, .i (.v 14) isp0e18, .i isp0e17 isp0e17, .p 1003 (.i isp0e27 (.i (.v 9) (.a isp0e25 .nil))) (.i isp0e8 (.i (.v 9) (.a isp0e21 .nil))), .a (.v 121) isp0e23 isp0e24 1, .i (.v 132) isp0e24] [((.le (.c 4) isp0e27), false), ((.le (.c 0) isp0e27), true), ((.lt (.v 10) (.v 15)), false), ((.eq (.v 1) (.v 10)), false), ((.lt (.v 133) (.v 0)), false), ((.le (.c 0) (.v 0)), true), ((.le (.v 0) (.c 3)), true), ((.le (.c 0) (.v 1)), true), ((.le (.v 1) (.c 255)), true), ((.le (.c 0) (.v 15)), true), ((.le (.v 15) (.c 255)), true), ((.le (.c 0) (.v 10)), true), ((.le (.v 10) (.c 255)), true), ((.le (.c 0) (.v 11)), true), ((.le (.v 11) (.c 255)), true), ((.le (.c 0) (.v 12)), true), ((.le (.v 12) (.c 4294967295)), true), ((.le (.v 15) (.v 1)), true), ((.ap 2 (.a isp0e5 (.i (.v 0) (.i (.v 10) (.i (.v 11) .nil))))), true), ((.le (.c 0) (.v 133)), true), ((.le (.v 133) (.c 50)), true), ((.le (.c 0) (.v 130)), true), ((.le (.v 130) (.c 50)), true), ((.le (.c 0) (.v 132)), true), ((.le (.v 132) (.c 50)), true), ((.lt (.v 1) (.v 10)), false), ((.lt (.v 1) (.v 11)), false), ((.ap 1 (.a (.v 120) (.i (.v 130) .nil))), true)]
noncomputable def isp0x13 : Vl := .dead [((.le (.c 0) isp0e27), false), ((.lt (.v 10) (.v 15)), false), ((.eq (.v 1) (.v 10)), false), ((.lt (.v 133) (.v 0)), false), ((.le (.c 0) (.v 0)), true), ((.le (.v 0) (.c 3)), true), ((.le (.c 0) (.v 1)), true), ((.le (.v 1) (.c 255)), true), ((.le (.c 0) (.v 15)), true), ((.le (.v 15) (.c 255)), true), ((.le (.c 0) (.v 10)), true), ((.le (.v 10) (.c 255)), true), ((.le (.c 0) (.v 11)), true), ((.le (.v 11) (.c 255)), true), ((.le (.c 0) (.v 12)), true), ((.le (.v 12) (.c 4294967295)), true), ((.le (.v 15) (.v 1)), true), ((.ap 2 (.a isp0e5 (.i (.v 0) (.i (.v 10) (.i (.v 11) .nil))))), true), ((.le (.c 0) (.v 133)), true), ((.le (.v 133) (.c 50)), true), ((.le (.c 0) (.v 130)), true), ((.le (.v 130) (.c 50)), true), ((.le (.c 0) (.v 132)), true), ((.le (.v 132) (.c 50)), true), ((.lt (.v 1) (.v 10)), false), ((.lt (.v 1) (.v 11)), false), ((.ap 1 (.a (.v 120) (.i (.v 130) .nil))), true)]
noncomputable def isp0ls : List Vl := [isp0x0, isp0x1, isp0x2, isp0x3, isp0x4, isp0x5, isp0x6, isp0x7, isp0x8, isp0x9, isp0x10, isp0x11, isp0x12, isp0x13]
theorem isp0run : (run (prm28 Tryd.prog) 900 (ptD (pts28 Tryd.prog) 0 28)).map (vOf (prm28 Tryd.prog) ct28 (pts28 Tryd.prog)) = isp0ls := by kernel_rfl
-- 14 ways; terms: isp0e0, isp0e1, isp0e2, isp0e3, isp0e4, isp0e5, isp0e6, isp0e7, isp0e8, isp0e9, isp0e10, isp0e11, isp0e12, isp0e13, isp0e14, isp0e15, isp0e16, isp0e17, isp0e18, isp0e19, isp0e20, isp0e21, isp0e22, isp0e23, isp0e24, isp0e25, isp0e26, isp0e27, isp0e28, isp0e29
theorem btW_ok : ∀ b ∈ btW, BtOk Tryd.prog fns b := by
  intro b hb
  simp only [btW, List.mem_cons, List.not_mem_nil, or_false] at hb
  rcases hb with rfl | rfl | rfl
  · exact btQuLen_ok qokw t34
  · exact btQuIx_ok qokw t34 (by kernel_rfl)
  · exact btQuLd_ok qokw (.inl ⟨by kernel_rfl, fun E β => rfl⟩)
theorem btApp44_ok : BtOk Tryd.prog fns btApp44 := by
  obtain ⟨i, z, hi, hz, hc, hs, hb⟩ := info_of i29
  have h := btQuApp_ok (P := Tryd.prog) (fns := fns) (TS := 34) (k := 1003) (q := qw) qokw (i := i) (z := z) t34 hi hz (by rw [hs, hc]) hs (by omega) (by decide) (by decide)
  intro E β w hE hg hw hF
  obtain ⟨k1, k2⟩ := h E β w hE hg hw hF
  refine ⟨k1, fun eval o xs hs => k2 eval o xs ?_⟩
  simp only [btApp44] at hs
  split at hs
  · rename_i x heq
    simp only [btQuApp, heq]
    exact hs
  · cases hs
theorem prm28_ok (E : Env) (hE : E.fn = fns) : PrmOk E (prm28 Tryd.prog) where
  bt := by
    intro b hb
    rw [hE]
    have hb' : b ∈ btW ++ [btApp44] := hb
    rcases List.mem_append.1 hb' with h | h
    · exact btW_ok b h
    · have : b = btApp44 := by simpa using h
      subst this
      exact btApp44_ok
  ct := by
    intro c hc
    have : c = ct29 ∨ c = ct40 := by simpa [prm28] using hc
    rw [hE]
    rcases this with rfl | rfl
    · exact ct29_ok
    · exact ct40_ok
  mix := Checked.mixed Tryd.checked
  okf := okf_call
  body := okf_body
  mts := by intro x hx; cases hx
  dfr := by intro x hx; cases hx
  dfk := by intro x hx; cases hx
structure P28 (E : Env) : Prop where
  n0 : 0 ≤ E.i 0
  n1 : E.i 0 ≤ 3
  s0 : 0 ≤ E.i 1
  s1 : E.i 1 ≤ 255
  p0 : 0 ≤ E.i 15
  ps : E.i 15 ≤ E.i 1
  c0 : 0 ≤ E.i 10
  c1 : E.i 10 ≤ 255
  h0 : 0 ≤ E.i 11
  h1 : E.i 11 ≤ 255
  q : Srt (E.a 0) (E.i 0).toNat
theorem qoC_den {E : Env} (hE : E.fn = fns) (A : AE) (n act hi : SE) : (qoC A n act hi).den E = true ↔ (Srt (A.den E) (n.den E).toNat ∧ hi.den E ≤ act.den E ∧ ∀ j, j < (n.den E).toNat → act.den E < A.den E j ∧ hi.den E ≤ A.den E j) := by
  obtain ⟨X, hX⟩ : ∃ X : Nat → Int, X = fun j => if j < (n.den E).toNat then A.den E j else 0 := ⟨_, rfl⟩
  have e : (qoC A n act hi).den E = @decide (QOk X (n.den E).toNat (act.den E) (hi.den E)) (Classical.propDecidable _) := by
    have e1 : (AE.ap 1 (.a A (.i n (.a (.tl A (.c 0) .nil) .nil)))).den E = X := by
      funext j
      have : (AE.ap 1 (.a A (.i n (.a (.tl A (.c 0) .nil) .nil)))).den E = fns.a 1 [.a (A.den E), .i (n.den E), .a ((AE.tl A (.c 0) .nil).den E)] := by
        funext t; simp only [AE.den, SL.den, hE]
      rw [this, hX]
      show (if j < (n.den E).toNat then A.den E j else (AE.tl A (.c 0) .nil).den E (j - (n.den E).toNat)) = _
      by_cases hj : j < (n.den E).toNat
      · simp only [if_pos hj]
      · simp only [if_neg hj, AE.den, SE.den, Int.toNat_zero, Nat.not_lt_zero, if_false]; rfl
    have e2 : (qoC A n act hi).den E = fns.g 2 [.a ((AE.ap 1 (.a A (.i n (.a (.tl A (.c 0) .nil) .nil)))).den E), .i (n.den E), .i (act.den E), .i (hi.den E)] := by
      simp only [qoC, SB.den, SL.den, hE]
    rw [e2, e1]; rfl
  have hx : ∀ j, j < (n.den E).toNat → X j = A.den E j := fun j hj => by rw [hX]; exact if_pos hj
  rw [e]
  refine (@decide_eq_true_iff _ (Classical.propDecidable _)).trans ⟨fun h => ⟨⟨fun j hj => ?_, fun i j hij hj => ?_⟩, h.2.2.1, fun j hj => ?_⟩, fun h => ⟨⟨fun j hj => ?_, fun i j hij hj => ?_⟩, ?_, h.2.1, fun j hj => ?_⟩⟩
  · rw [← hx j hj]; exact h.1.1 j hj
  · rw [← hx j hj, ← hx i (by omega)]; exact h.1.2 i j hij hj
  · rw [← hx j hj]; exact h.2.2.2 j hj
  · rw [hx j hj]; exact h.1.1 j hj
  · rw [hx j hj, hx i (by omega)]; exact h.1.2 i j hij hj
  · funext j
    by_cases hj : j < (n.den E).toNat
    · rw [arr_lst hj]
    · rw [arr_out (by rw [lst_len]; omega), hX]; exact if_neg hj
  · rw [hx j hj]; exact h.2.2 j hj
theorem pre28 {E : Env} (hE : E.fn = fns) (hF : Facts E ct28.pre) : P28 E := by
  have hF' : Facts E [((.le (.c 0) (.v 0)), true), ((.le (.v 0) (.c 3)), true), ((.le (.c 0) (.v 1)), true), ((.le (.v 1) (.c 255)), true), ((.le (.c 0) (.v 15)), true), ((.le (.v 15) (.c 255)), true), ((.le (.c 0) (.v 10)), true), ((.le (.v 10) (.c 255)), true), ((.le (.c 0) (.v 11)), true), ((.le (.v 11) (.c 255)), true), ((.le (.c 0) (.v 12)), true), ((.le (.v 12) (.c 4294967295)), true), ((.le (.v 15) (.v 1)), true), (qoC (.v 0) (.v 0) (.v 10) (.v 11), true)] := hF
  simp only [facts_cons, facts_nil, le_t, eq_t, d_c, d_v, and_true] at hF'
  obtain ⟨a1, a2, a3, a4, a5, a6, a7, a8, a9, a10, a11, a12, a15, a18⟩ := hF'
  refine ⟨a1, a2, a3, a4, a5, a15, a7, a8, a9, a10, ?_⟩
  have := (qoC_den hE (.v 0) (.v 0) (.v 10) (.v 11)).1 a18
  rw [show (AE.v 0).den E = E.a 0 from by funext j; rw [d_av], d_v] at this
  exact this.1
theorem out28 {E0 E : Env} (hE0 : E0.fn = fns) (hE : E.fn = fns) (H : AgP 100 E0 E) {code act hi pk ev N NR : SE} {A AR : AE} {Q R : List Int}
    (hQ : adQ (qOf E0) (E0.i 10) (E0.i 11) (E0.i 1) (E0.i 15) = Q) (hN : N.den E = (Q.length : Int)) (hA : ∀ j, j < Q.length → A.den E j = arr Q j)
    (hc : code.den E = if 4 ≤ Q.length then 9 else 0) (ha : act.den E = adA (qOf E0) (E0.i 10) (E0.i 11) (E0.i 1) (E0.i 15)) (hh : hi.den E = adH (E0.i 10) (E0.i 11) (E0.i 1) (E0.i 15))
    (hpk : pk.den E = if adU (E0.i 10) (E0.i 11) (E0.i 1) (E0.i 15) then 0 else E0.i 13) (hev : ev.den E = if adU (E0.i 10) (E0.i 11) (E0.i 1) (E0.i 15) then perE.den E0 else E0.i 14)
    (hR : adR (qOf E0) (E0.i 10) (E0.i 11) (E0.i 1) (E0.i 15) = R) (hNR : NR.den E = (R.length : Int)) (hAR : ∀ j, j < R.length → AR.den E j = arr R j) :
    ∀ q ∈ [Eqn.i code (.ite (.le (.c 4) (.ap 10 sl6)) (.c 9) (.c 0)), .i act (.ap 11 sl6), .i hi (.ap 12 sl4), .b (.v 0) (.v 0), .i pk (upS (.c 0) (.v 13)), .i ev (upS perE (.v 14)), .i perE perE, .p 1003 (.i N (.i (.v 9) (.a A .nil))) (.i (.ap 10 sl6) (.i (.v 9) (.a (.ap 10 sl6) .nil))), .a AR (.ap 13 sl6) (.ap 13 sl6) 1, .i NR (.ap 13 sl6)], q.ok E E0 := by
  have hu : (SB.ap 10 sl4).den E0 = adU (E0.i 10) (E0.i 11) (E0.i 1) (E0.i 15) := g10 hE0
  have e10 := s10 hE0
  rw [hQ] at e10
  obtain ⟨r1, r2⟩ := r_ok (E := E) hE0 hR (N := NR) (A := AR) hNR hAR
  have k1 : (Eqn.i code (.ite (.le (.c 4) (.ap 10 sl6)) (.c 9) (.c 0))).ok E E0 := by
    show code.den E = if (decide ((4 : Int) ≤ (SE.ap 10 sl6).den E0)) = true then (9 : Int) else 0
    rw [hc, e10]
    by_cases h4 : 4 ≤ Q.length
    · rw [if_pos h4, if_pos (by rw [decide_eq_true_eq]; omega)]
    · rw [if_neg h4, if_neg (by rw [decide_eq_true_eq]; omega)]
  have k2 : (Eqn.i act (.ap 11 sl6)).ok E E0 := by show act.den E = _; rw [ha, s11 hE0]
  have k3 : (Eqn.i hi (.ap 12 sl4)).ok E E0 := by show hi.den E = _; rw [hh, s12 hE0]
  have k4 : (Eqn.i pk (upS (.c 0) (.v 13))).ok E E0 := by
    show pk.den E = if (SB.ap 10 sl4).den E0 = true then (0 : Int) else E0.i 13
    rw [hpk, hu]
  have k5 : (Eqn.i ev (upS perE (.v 14))).ok E E0 := by
    show ev.den E = if (SB.ap 10 sl4).den E0 = true then perE.den E0 else E0.i 14
    rw [hev, hu]
  have k6 : (Eqn.p 1003 (.i N (.i (.v 9) (.a A .nil))) (.i (.ap 10 sl6) (.i (.v 9) (.a (.ap 10 sl6) .nil)))).ok E E0 := by
    refine Eqn.qu qokw hE hE0 (by rw [hN, e10]) (H.i 9 (by decide)) fun j hj => ?_
    rw [e10, Int.toNat_natCast] at hj
    rw [a10 hE0, hQ]; exact hA j hj
  simp only [List.forall_mem_cons, List.not_mem_nil, false_imp_iff, implies_true, and_true]
  exact ⟨k1, k2, k3, Eqn.b_ag H _ rfl, k4, k5, Eqn.i_ag H _ rfl, k6, r1, r2⟩
structure I28 (E0 E : Env) (i : Nat) : Prop where
  ag : AgP 100 E0 E
  i133 : E.i 133 = i
  le : i ≤ (E0.i 0).toNat
  h130 : E.i 130 = ((kq (lst (E0.a 0) i) (E0.i 15)).length : Int)
  a120 : E.i 130 = 0 ∨ E.a 120 = arr (kq (lst (E0.a 0) i) (E0.i 15))
  h132 : E.i 132 = ((gq (lst (E0.a 0) i) (E0.i 15)).length : Int)
  a121 : ∀ j, j < (gq (lst (E0.a 0) i) (E0.i 15)).length → E.a 121 j = arr (gq (lst (E0.a 0) i) (E0.i 15)) j
  ht : ¬ (E0.i 1 < E0.i 10 ∨ E0.i 1 < E0.i 11)
theorem ct28_ok : CtOk Tryd.prog fns ct28 := by
  refine ct_of_pts (p := prm28 Tryd.prog) (pts := pts28 Tryd.prog) (n := 900) (c0 := enterD (prm28 Tryd.prog) ct28) (fun E hE => prm28_ok E hE) rfl (by intro q hq; cases hq) Tryd.func28 (by kernel_rfl) ?_ (fun E0 _ E => ∃ i, I28 E0 E i) (fun E0 _ E => (E0.i 0 - E.i 133).toNat) isals (by kernel_rfl) ?_ ?_
  · intro t ht
    simp only [pts28, List.mem_cons, List.not_mem_nil, or_false] at ht
    subst ht
    exact ⟨by kernel_rfl, by decide⟩
  · intro E hE hF
    have h := pre28 hE hF
    have H : AgP 100 E E := AgP.refl 100 E
    refine ⟨fun a ha => (by cases ha; intro q hq; cases hq), fun x hx => ?_⟩
    unfold isals at hx
    simp only [List.mem_cons, List.not_mem_nil, or_false] at hx
    have late : (E.i 1 < E.i 10 ∨ E.i 1 < E.i 11) → ∀ q ∈ [Eqn.i (.c 0) (.ite (.le (.c 4) (.ap 10 sl6)) (.c 9) (.c 0)), .i (.v 10) (.ap 11 sl6), .i (.v 11) (.ap 12 sl4), .b (.v 0) (.v 0), .i (.v 13) (upS (.c 0) (.v 13)), .i (.v 14) (upS perE (.v 14)), .i perE perE, .p 1003 (.i (.v 0) (.i (.v 9) (.a (.v 0) .nil))) (.i (.ap 10 sl6) (.i (.v 9) (.a (.ap 10 sl6) .nil))), .a (.tl (.v 0) (.c 0) (.i (.v 1) .nil)) (.ap 13 sl6) (.ap 13 sl6) 1, .i (.c 1) (.ap 13 sl6)], q.ok E E := fun hl => by
      obtain ⟨k1, k2, k3, k4⟩ := late_of (q := qOf E) (p := E.i 15) hl
      have hq := qOf_len h.n0
      refine out28 hE hE H k2 hq.symm (fun j hj => qOf_arr hj) (by have := h.n1; rw [d_c, if_neg (by omega)]) ?_ k3.symm ?_ ?_ k4 rfl fun j hj => ?_
      · rw [d_v]; unfold adA; rw [k1]; rfl
      · rw [d_v, k1]; rfl
      · rw [d_v, k1]; rfl
      · have : j = 0 := by simpa using hj
        subst this
        simp only [AE.den, SE.den, Int.toNat_zero, Nat.not_lt_zero, if_false]
        rfl
    rcases hx with rfl | rfl | rfl
    · intro hf
      have h1 := hf (SB.lt (.v 1) (.v 10), true) (by simp)
      rw [lt_t, d_v, d_v] at h1
      exact ⟨rfl, late (.inl h1)⟩
    · intro hf
      have h1 := hf (SB.lt (.v 1) (.v 11), true) (by simp)
      rw [lt_t, d_v, d_v] at h1
      exact ⟨rfl, late (.inr h1)⟩
    · intro hf
      have h1 := hf (SB.lt (.v 1) (.v 11), false) (by simp)
      have h2 := hf (SB.lt (.v 1) (.v 10), false) (by simp)
      rw [lt_f, d_v, d_v] at h1 h2
      refine ⟨⟨_, rfl, .inl ⟨rfl, rfl⟩⟩, fun o => ⟨⟨0, (AgP.refl 100 E).put o, rfl, Nat.zero_le _, rfl, .inl rfl, rfl, (fun j hj => absurd hj (Nat.not_lt_zero _)), (by omega)⟩, fun b hb => by cases hb⟩⟩
  · intro k t ht
    have hk : k = 0 := by
      have := (List.getElem?_eq_some_iff.1 ht).1
      simp [pts28] at this; omega
    subst hk
    refine ⟨isp0ls, by rw [← ptD_some ht ct28.g]; exact isp0run, fun E0 E hE0 hE hF0 ⟨i, hI⟩ => ?_⟩
    have h := pre28 hE0 hF0
    have H := hI.ag
    obtain ⟨n, hn⟩ : ∃ n : Nat, E0.i 0 = n := ⟨(E0.i 0).toNat, by have := h.n0; omega⟩
    have hnt : (E0.i 0).toNat = n := by omega
    have hn50 : n ≤ 50 := by have := h.n1; omega
    have h133 := hI.i133; have h130 := hI.h130; have h132 := hI.h132; have hle := hI.le
    rw [hnt] at hle
    have hk := kq_le (lst (E0.a 0) i) (E0.i 15); have hg := gq_le (lst (E0.a 0) i) (E0.i 15)
    rw [lst_len] at hk hg
    have q0 := H.i 0 (by decide); have q1 := H.i 1 (by decide); have q9 := H.i 9 (by decide); have q10 := H.i 10 (by decide); have q11 := H.i 11 (by decide); have q15 := H.i 15 (by decide)
    have q13 : E.i 13 = E0.i 13 := H.i 13 (by decide)
    have q14 : E.i 14 = E0.i 14 := H.i 14 (by decide)
    have qp : perE.den E = perE.den E0 := SE.den_agP H perE rfl
    have qa : E.a 0 = E0.a 0 := H.a 0 (by decide)
    have hup : Up (kq (lst (E0.a 0) i) (E0.i 15)) := up_kq (srt_lst ⟨fun j hj => h.q.1 j (by omega), fun j k hj hk => h.q.2 j k hj (by omega)⟩) _
    have hsrt : (srt (.v 120) (.v 130)).1.den E = true := by
      show E.fn.g 1 [.a ((AE.v 120).den E), .i (E.i 130)] = true
      rw [hE]
      show @decide (Srt ((AE.v 120).den E) (E.i 130).toNat) (Classical.propDecidable _) = true
      rw [show (AE.v 120).den E = E.a 120 from by funext j; simp only [AE.den], h130, Int.toNat_natCast]
      refine @decide_eq_true _ (Classical.propDecidable _) ?_
      rcases hI.a120 with h0 | h0
      · have : (kq (lst (E0.a 0) i) (E0.i 15)).length = 0 := by omega
        rw [this]; exact ⟨fun j hj => absurd hj (Nat.not_lt_zero _), fun i j _ hj => absurd hj (Nat.not_lt_zero _)⟩
      · rw [h0]; exact srt_arr hup
    have hht := hI.ht
    have hc0 := h.c0; have hc1 := h.c1; have hh0 := h.h0; have hh1 := h.h1; have hps := h.ps; have hp0 := h.p0; have hs0 := h.s0; have hs1 := h.s1
    refine ⟨?_, fun x hx => ?_⟩
    · obtain rfl := Option.some.inj ht
      refine facts_append (facts_append (facts_append (facts_append (H.facts (by decide) hF0) ?_) ?_) ?_) ?_
      · show Facts E [((.le (.c 0) (.v 133)), true), ((.le (.v 133) (.c 50)), true)]
        simp only [facts_cons, facts_nil, le_t, d_c, d_v, and_true]; omega
      · show Facts E [((.le (.c 0) (.v 130)), true), ((.le (.v 130) (.c 50)), true)]
        simp only [facts_cons, facts_nil, le_t, d_c, d_v, and_true]; omega
      · show Facts E [((.le (.c 0) (.v 132)), true), ((.le (.v 132) (.c 50)), true)]
        simp only [facts_cons, facts_nil, le_t, d_c, d_v, and_true]; omega
      · show Facts E [((.lt (.v 1) (.v 10)), false), ((.lt (.v 1) (.v 11)), false), ((srt (.v 120) (.v 130)).1, true)]
        simp only [facts_cons, facts_nil, lt_t, lt_f, d_c, d_v, and_true, q1, q10, q11]
        exact ⟨by omega, by omega, hsrt⟩
    · unfold isp0ls at hx
      simp only [List.mem_cons, List.not_mem_nil, or_false] at hx
      have hlt : (SB.lt (.v 133) (.v 0)).den E = true → i < n := fun h => by simp only [lt_t, d_v] at h; omega
      have hrd : isp0e2.den E = E0.a 0 i := by
        show E.a 0 (E.i 133).toNat = _
        rw [qa, h133]; rfl
      have hend : (SB.lt (.v 133) (.v 0)).den E = false → lst (E0.a 0) i = qOf E0 := fun h => by
        simp only [lt_f, d_v] at h
        unfold qOf
        rw [hnt, show i = n by omega]
      have on : (SB.lt (.v 133) (.v 0)).den E = false → (SB.lt (.v 10) (.v 15)).den E = false → ∀ (N : SE) (A : AE) (c : SE), N.den E = ((adP (qOf E0) (E0.i 10) (E0.i 1) (E0.i 15)).length : Int) → (∀ j, j < (adP (qOf E0) (E0.i 10) (E0.i 1) (E0.i 15)).length → A.den E j = arr (adP (qOf E0) (E0.i 10) (E0.i 1) (E0.i 15)) j) → (c.den E = if 4 ≤ N.den E then 9 else 0) →
          ∀ q ∈ [Eqn.i c (.ite (.le (.c 4) (.ap 10 sl6)) (.c 9) (.c 0)), .i (.v 10) (.ap 11 sl6), .i (.mx (.v 11) (.v 15)) (.ap 12 sl4), .b (.v 0) (.v 0), .i (.v 13) (upS (.c 0) (.v 13)), .i (.v 14) (upS perE (.v 14)), .i perE perE, .p 1003 (.i N (.i (.v 9) (.a A .nil))) (.i (.ap 10 sl6) (.i (.v 9) (.a (.ap 10 sl6) .nil))), .a (.v 121) (.ap 13 sl6) (.ap 13 sl6) 1, .i (.v 132) (.ap 13 sl6)], q.ok E E0 := fun h2 h3 N A c hN hA hc => by
        have h2 := hend h2
        simp only [lt_f, d_v, q15, q10] at h3
        obtain ⟨k1, k2, k3, k4⟩ := on_of (q := qOf E0) (p := E0.i 15) hht (fun hh => by omega)
        have hb := hI.a121
        rw [h2] at h132 hb
        refine out28 hE0 hE H k2 hN hA ?_ ?_ ?_ ?_ ?_ k4 h132 (fun j hj => by rw [d_av]; exact hb j hj)
        · rw [hc, hN]
          by_cases h4 : 4 ≤ (adP (qOf E0) (E0.i 10) (E0.i 1) (E0.i 15)).length
          · rw [if_pos h4, if_pos (by omega)]
          · rw [if_neg h4, if_neg (by omega)]
        · rw [d_v, q10]; unfold adA; rw [k1]; rfl
        · rw [k3]
          show imx (E.i 11) (E.i 15) = _
          rw [q11, q15]; unfold imx; split <;> omega
        · rw [d_v, q13, k1]; rfl
        · rw [d_v, q14, k1]; rfl
      have up : (SB.lt (.v 133) (.v 0)).den E = false → (SB.eq (.v 1) (.v 10)).den E = false → (SB.lt (.v 10) (.v 15)).den E = true → ∀ (c : SE), (c.den E = if 4 ≤ isp0e27.den E - 1 then 9 else 0) →
          ∀ q ∈ [Eqn.i c (.ite (.le (.c 4) (.ap 10 sl6)) (.c 9) (.c 0)), .i isp0e26 (.ap 11 sl6), .i isp0e13 (.ap 12 sl4), .b (.v 0) (.v 0), .i (.c 0) (upS (.c 0) (.v 13)), .i perE (upS perE (.v 14)), .i perE perE, .p 1003 (.i isp0e28 (.i (.v 9) (.a isp0e29 .nil))) (.i (.ap 10 sl6) (.i (.v 9) (.a (.ap 10 sl6) .nil))), .a isp0e22 (.ap 13 sl6) (.ap 13 sl6) 1, .i isp0e0 (.ap 13 sl6)], q.ok E E0 := fun h2 h1 h3 c hc => by
        have h2 := hend h2
        have h1 : ¬ E.i 1 = E.i 10 := by simpa [SB.den, SE.den] using h1
        simp only [lt_t, d_v, q15, q10] at h3
        rw [q1, q10] at h1
        have ha := hI.a120; have hb := hI.a121
        rw [h2] at h130 h132 ha hb hup
        obtain ⟨k1, k2, k3, k4, k5⟩ := up_of (q := qOf E0) (p := E0.i 15) hht ⟨h1, h3⟩
        obtain ⟨u1, u2⟩ := putk_ok hE h130 ha
        rw [q1] at u1 u2
        have hpos : 0 < (putL (kq (qOf E0) (E0.i 15)) (E0.i 1)).length := by rw [putL_len]; exact putN_pos _ _ _
        have hap : isp0e27.den E = ((putL (kq (qOf E0) (E0.i 15)) (E0.i 1)).length : Int) := u1
        refine out28 hE0 hE H k2 ?_ ?_ ?_ ?_ ?_ ?_ ?_ k5 ?_ ?_
        · show isp0e27.den E - 1 = _
          rw [hap, List.length_tail]; omega
        · intro j hj
          rw [List.length_tail] at hj
          rw [arr_tail, ← u2 (j + 1) (by omega)]
          simp only [isp0e29, AE.den, SE.den]; rfl
        · rw [hc, hap, List.length_tail]
          by_cases h4 : 4 ≤ (putL (kq (qOf E0) (E0.i 15)) (E0.i 1)).length - 1
          · rw [if_pos h4, if_pos (by omega)]
          · rw [if_neg h4, if_neg (by omega)]
        · rw [k3, headD_arr]; exact u2 0 hpos
        · rw [k4]
          show imx (imx (E.i 11) (E.i 15)) (E.i 10) = _
          rw [q11, q15, q10]; unfold imx; split <;> split <;> omega
        · rw [k1]; rfl
        · rw [k1]; exact qp
        · show E.i 132 + 1 = _
          rw [h132, List.length_append]; rfl
        · intro j hj
          exact congrFun (tl_arr (E := E) h132 hb (show (SE.v 10).den E = E0.i 10 from q10)) j
      have imp : (SB.lt (.v 10) (.v 15)).den E = true → (SB.eq (.v 1) (.v 10)).den E = true → False := fun h1 h2 => by
        simp only [lt_t, eq_t, d_v] at h1 h2
        rw [q1, q10] at h2; rw [q10, q15] at h1; omega
      rcases hx with rfl | rfl | rfl | rfl | rfl | rfl | rfl | rfl | rfl | rfl | rfl | rfl | rfl | rfl
      · intro hf
        have h1 := hf (SB.lt isp0e2 (.v 15), true) (by simp)
        have h2 := hlt (hf (SB.lt (.v 133) (.v 0), true) (by simp))
        rw [lt_t, hrd, d_v, q15] at h1
        have h1' := Int.not_le.2 h1
        have ek : kq (lst (E0.a 0) (i + 1)) (E0.i 15) = kq (lst (E0.a 0) i) (E0.i 15) := by rw [lst_succ, kq_snoc, if_neg h1']
        have eg : gq (lst (E0.a 0) (i + 1)) (E0.i 15) = gq (lst (E0.a 0) i) (E0.i 15) ++ [E0.a 0 i] := by rw [lst_succ, gq_snoc, if_neg h1']
        refine ⟨⟨_, rfl, .inr ⟨rfl, rfl⟩⟩, fun o => ⟨⟨i + 1, H.put o, ?_, by rw [hnt]; omega, ?_, ?_, ?_, fun j hj => ?_, hht⟩, fun b hb => ?_⟩⟩
        · show E.i 133 + 1 = _
          omega
        · rw [ek]; exact h130
        · rw [ek]; exact hI.a120
        · show E.i 132 + 1 = _
          rw [eg, List.length_append, h132]; rfl
        · rw [eg]
          exact congrFun (tl_arr (E := E) h132 hI.a121 hrd) j
        · obtain rfl := Option.some.inj hb
          show (E0.i 0 - (E.i 133 + 1)).toNat < _
          omega
      · intro hf
        have h1 := hf (SB.lt isp0e2 (.v 15), false) (by simp)
        have h2 := hlt (hf (SB.lt (.v 133) (.v 0), true) (by simp))
        rw [lt_f, hrd, d_v, q15] at h1
        have ek : kq (lst (E0.a 0) (i + 1)) (E0.i 15) = kq (lst (E0.a 0) i) (E0.i 15) ++ [E0.a 0 i] := by rw [lst_succ, kq_snoc, if_pos h1]
        have eg : gq (lst (E0.a 0) (i + 1)) (E0.i 15) = gq (lst (E0.a 0) i) (E0.i 15) := by rw [lst_succ, gq_snoc, if_pos h1]
        refine ⟨⟨_, rfl, .inr ⟨rfl, rfl⟩⟩, fun o => ⟨⟨i + 1, H.put o, ?_, by rw [hnt]; omega, ?_, .inr ?_, ?_, ?_, hht⟩, fun b hb => ?_⟩⟩
        · show E.i 133 + 1 = _
          omega
        · show E.i 130 + 1 = _
          rw [ek, List.length_append, h130]; rfl
        · rw [ek]
          refine tl_arr (E := E) h130 (fun j hj => ?_) hrd
          rcases hI.a120 with h0 | h0
          · omega
          · rw [h0]
        · rw [eg]; exact h132
        · rw [eg]; exact hI.a121
        · obtain rfl := Option.some.inj hb
          show (E0.i 0 - (E.i 133 + 1)).toNat < _
          omega
      · intro hf
        exact (imp (hf (SB.lt (.v 10) (.v 15), true) (by simp)) (hf (SB.eq (.v 1) (.v 10), true) (by simp))).elim
      · intro hf
        exact (imp (hf (SB.lt (.v 10) (.v 15), true) (by simp)) (hf (SB.eq (.v 1) (.v 10), true) (by simp))).elim
      · intro hf
        exact (imp (hf (SB.lt (.v 10) (.v 15), true) (by simp)) (hf (SB.eq (.v 1) (.v 10), true) (by simp))).elim
      · intro hf
        have h2 := hf (SB.lt (.v 133) (.v 0), false) (by simp)
        have h1 := hf (SB.eq (.v 1) (.v 10), true) (by simp)
        have h4 := hf (SB.le (.c 4) (.v 130), true) (by simp)
        simp only [eq_t, d_v, q1, q10] at h1
        have hP : adP (qOf E0) (E0.i 10) (E0.i 1) (E0.i 15) = kq (qOf E0) (E0.i 15) := by unfold adP; rw [if_pos h1]
        have ha := hI.a120
        rw [hend h2] at h130 ha
        refine ⟨rfl, on h2 (hf (SB.lt (.v 10) (.v 15), false) (by simp)) (.v 130) (.v 120) _ (by rw [hP]; exact h130) (fun j hj => ?_) ?_⟩
        · rw [hP] at hj ⊢
          rcases ha with h0 | h0
          · omega
          · rw [d_av, h0]
        · simp only [le_t, le_f, d_c, d_v] at h4
          rw [d_c, d_v]
          first | rw [if_pos (by omega)] | rw [if_neg (by omega)]
      · intro hf
        have h2 := hf (SB.lt (.v 133) (.v 0), false) (by simp)
        have h1 := hf (SB.eq (.v 1) (.v 10), true) (by simp)
        have h4 := hf (SB.le (.c 4) (.v 130), false) (by simp)
        simp only [eq_t, d_v, q1, q10] at h1
        have hP : adP (qOf E0) (E0.i 10) (E0.i 1) (E0.i 15) = kq (qOf E0) (E0.i 15) := by unfold adP; rw [if_pos h1]
        have ha := hI.a120
        rw [hend h2] at h130 ha
        refine ⟨rfl, on h2 (hf (SB.lt (.v 10) (.v 15), false) (by simp)) (.v 130) (.v 120) _ (by rw [hP]; exact h130) (fun j hj => ?_) ?_⟩
        · rw [hP] at hj ⊢
          rcases ha with h0 | h0
          · omega
          · rw [d_av, h0]
        · simp only [le_t, le_f, d_c, d_v] at h4
          rw [d_c, d_v]
          first | rw [if_pos (by omega)] | rw [if_neg (by omega)]
      · intro hf
        have h4 := hf (SB.le (.c 4) isp0e28, true) (by simp)
        refine ⟨rfl, up (hf (SB.lt (.v 133) (.v 0), false) (by simp)) (hf (SB.eq (.v 1) (.v 10), false) (by simp)) (hf (SB.lt (.v 10) (.v 15), true) (by simp)) _ ?_⟩
        have e : isp0e28.den E = isp0e27.den E - 1 := rfl
        simp only [le_t, le_f, d_c] at h4
        rw [e] at h4
        simp only [d_c]
        first | rw [if_pos (by omega)] | rw [if_neg (by omega)]
      · intro hf
        have h4 := hf (SB.le (.c 4) isp0e28, false) (by simp)
        refine ⟨rfl, up (hf (SB.lt (.v 133) (.v 0), false) (by simp)) (hf (SB.eq (.v 1) (.v 10), false) (by simp)) (hf (SB.lt (.v 10) (.v 15), true) (by simp)) _ ?_⟩
        have e : isp0e28.den E = isp0e27.den E - 1 := rfl
        simp only [le_t, le_f, d_c] at h4
        rw [e] at h4
        simp only [d_c]
        first | rw [if_pos (by omega)] | rw [if_neg (by omega)]
      · intro hf
        have h1 := hf (SB.le isp0e27 (.c 100), false) (by simp)
        have h2 := hf (SB.lt (.v 133) (.v 0), false) (by simp)
        have ha := hI.a120
        rw [hend h2] at h130 ha
        have u1 : isp0e27.den E = _ := (putk_ok hE h130 ha).1
        rw [le_f, u1, d_c, putL_len] at h1
        have := putN_le (arr (kq (qOf E0) (E0.i 15))) (kq (qOf E0) (E0.i 15)).length (E.i 1)
        have := kq_le (qOf E0) (E0.i 15)
        have := qOf_len h.n0
        omega
      · intro hf
        have h1 := hf (SB.le (.c 1) isp0e27, false) (by simp)
        have h2 := hf (SB.lt (.v 133) (.v 0), false) (by simp)
        have ha := hI.a120
        rw [hend h2] at h130 ha
        have u1 : isp0e27.den E = _ := (putk_ok hE h130 ha).1
        rw [le_f, u1, d_c, putL_len] at h1
        have := putN_pos (arr (kq (qOf E0) (E0.i 15))) (kq (qOf E0) (E0.i 15)).length (E.i 1)
        omega
      · intro hf
        have h2 := hf (SB.lt (.v 133) (.v 0), false) (by simp)
        have h1 := hf (SB.eq (.v 1) (.v 10), false) (by simp)
        have h4 := hf (SB.le (.c 4) isp0e27, true) (by simp)
        have h1 : ¬ E.i 1 = E.i 10 := by simpa [SB.den, SE.den] using h1
        rw [q1, q10] at h1
        have hP : adP (qOf E0) (E0.i 10) (E0.i 1) (E0.i 15) = putL (kq (qOf E0) (E0.i 15)) (E0.i 1) := by unfold adP; rw [if_neg h1]
        have ha := hI.a120
        rw [hend h2] at h130 ha
        obtain ⟨u1, u2⟩ := putk_ok hE h130 ha
        rw [q1] at u1 u2
        refine ⟨rfl, on h2 (hf (SB.lt (.v 10) (.v 15), false) (by simp)) (f3 5 (.v 120) (.v 130) (.v 1)) (a3 5 (.v 120) (.v 130) (.v 1)) _ (by rw [hP]; exact u1) (by rw [hP]; exact u2) ?_⟩
        have e : (f3 5 (.v 120) (.v 130) (.v 1)).den E = isp0e27.den E := rfl
        simp only [le_t, le_f, d_c] at h4
        rw [e]; simp only [d_c]
        first | rw [if_pos (by omega)] | rw [if_neg (by omega)]
      · intro hf
        have h2 := hf (SB.lt (.v 133) (.v 0), false) (by simp)
        have h1 := hf (SB.eq (.v 1) (.v 10), false) (by simp)
        have h4 := hf (SB.le (.c 4) isp0e27, false) (by simp)
        have h1 : ¬ E.i 1 = E.i 10 := by simpa [SB.den, SE.den] using h1
        rw [q1, q10] at h1
        have hP : adP (qOf E0) (E0.i 10) (E0.i 1) (E0.i 15) = putL (kq (qOf E0) (E0.i 15)) (E0.i 1) := by unfold adP; rw [if_neg h1]
        have ha := hI.a120
        rw [hend h2] at h130 ha
        obtain ⟨u1, u2⟩ := putk_ok hE h130 ha
        rw [q1] at u1 u2
        refine ⟨rfl, on h2 (hf (SB.lt (.v 10) (.v 15), false) (by simp)) (f3 5 (.v 120) (.v 130) (.v 1)) (a3 5 (.v 120) (.v 130) (.v 1)) _ (by rw [hP]; exact u1) (by rw [hP]; exact u2) ?_⟩
        have e : (f3 5 (.v 120) (.v 130) (.v 1)).den E = isp0e27.den E := rfl
        simp only [le_t, le_f, d_c] at h4
        rw [e]; simp only [d_c]
        first | rw [if_pos (by omega)] | rw [if_neg (by omega)]
      · intro hf
        have h1 := hf (SB.le (.c 0) isp0e27, false) (by simp)
        have h2 := hf (SB.lt (.v 133) (.v 0), false) (by simp)
        have ha := hI.a120
        rw [hend h2] at h130 ha
        have u1 : isp0e27.den E = _ := (putk_ok hE h130 ha).1
        rw [le_f, u1, d_c, putL_len] at h1
        have := putN_pos (arr (kq (qOf E0) (E0.i 15))) (kq (qOf E0) (E0.i 15)).length (E.i 1)
        omega
end Go.Proofs.YtjanndmmhjnpcaaDoor
