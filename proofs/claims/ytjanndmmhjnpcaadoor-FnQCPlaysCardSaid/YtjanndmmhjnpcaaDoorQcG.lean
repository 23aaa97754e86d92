/- add keeps its contracts. -/
import Derived.Test.YtjanndmmhjnpcaaDoorQcE
import Derived.Test.YtjanndmmhjnpcaaDoorQcM
import Derived.Test.YtjanndmmhjnpcaaDoorSyMk
import Derived.Laws.BitsAllLaws
import Derived.KernelRfl
set_option autoImplicit true
set_option relaxedAutoImplicit true
set_option linter.unusedVariables false
set_option linter.unusedSimpArgs false
set_option maxRecDepth 100000
set_option maxHeartbeats 4000000
namespace Go.Proofs.YtjanndmmhjnpcaaDoor
open Go Go.Sy Go.RowKit
noncomputable def qnae0 : SE := .ap 12 (.i (.v 10) (.i (.v 11) (.i (.v 1) (.i (.v 15) .nil))))
noncomputable def qnae1 : SE := .ap 10 (.a (.v 0) (.i (.v 0) (.i (.v 10) (.i (.v 11) (.i (.v 1) (.i (.v 15) .nil))))))
noncomputable def qnae2 : AE := .ap 10 (.a (.v 0) (.i (.v 0) (.i (.v 10) (.i (.v 11) (.i (.v 1) (.i (.v 15) .nil))))))
noncomputable def qnae3 : AE := .tl (.v 0) (.c 0) (.i (.v 1) .nil)
noncomputable def qnae4 : AE := .ap 13 (.a (.v 0) (.i (.v 0) (.i (.v 10) (.i (.v 11) (.i (.v 1) (.i (.v 15) .nil))))))
noncomputable def qnae5 : SE := .ap 13 (.a (.v 0) (.i (.v 0) (.i (.v 10) (.i (.v 11) (.i (.v 1) (.i (.v 15) .nil))))))
noncomputable def qnae6 : SE := .mx (.v 10) (.c 0)
noncomputable def qnae7 : SE := .ap 5 (.a (.v 0) (.i (.v 0) (.i (.v 1) .nil)))
noncomputable def qnae8 : AE := .ap 5 (.a (.v 0) (.i (.v 0) (.i (.v 1) .nil)))
noncomputable def qnax0 : Vl := .out 0 [.b (.v 0) (.v 0), .i (.v 10) (.v 10), .i (.v 11) qnae0, .i (.v 10) (.v 10), .i (.v 9) (.v 9), .i (.v 12) (.v 12), .i (.v 13) (.v 13), .i (.v 14) (.v 14), .i (.v 16) (.v 16), .i (.v 17) (.v 17), .b (.v 1) (.v 1), .p 1002 (.i (.v 0) (.i (.v 9) (.a (.v 0) .nil))) (.i qnae1 (.i (.v 9) (.a qnae2 .nil))), .a qnae3 qnae4 qnae5 1, .i (.c 1) qnae5] [((.lt (.v 1) qnae6), true), ((.le (.c 0) (.v 0)), true), ((.le (.v 0) (.c 50)), true), ((.le (.c 0) (.v 1)), true), ((.le (.v 1) (.c 255)), true), ((.le (.c 0) (.v 15)), true), ((.le (.v 15) (.c 255)), true), ((.le (.c 0) (.v 10)), true), ((.le (.v 10) (.c 255)), true), ((.le (.c 0) (.v 11)), true), ((.le (.v 11) (.c 255)), true), ((.le (.c 0) (.v 12)), true), ((.le (.v 12) (.c 4294967295)), true), ((.le (.c 4) (.v 9)), true), ((.le (.v 9) (.c 18)), true), ((.le (.v 15) (.v 1)), true), ((.eq (.v 2) (.v 1)), true), ((.eq (.v 3) (.v 1)), true), ((.ap 2 (.a (.v 0) (.i (.v 0) (.i (.v 10) (.i (.v 11) .nil))))), true)]
noncomputable def qnax1 : Vl := .out 0 [.b (.v 0) (.v 0), .i (.v 10) (.v 10), .i (.v 11) qnae0, .i (.v 10) (.v 10), .i (.v 9) (.v 9), .i (.v 12) (.v 12), .i (.v 13) (.v 13), .i (.v 14) (.v 14), .i (.v 16) (.v 16), .i (.v 17) (.v 17), .b (.v 1) (.v 1), .p 1002 (.i (.v 0) (.i (.v 9) (.a (.v 0) .nil))) (.i qnae1 (.i (.v 9) (.a qnae2 .nil))), .a qnae3 qnae4 qnae5 1, .i (.c 1) qnae5] [((.lt (.v 1) (.v 11)), true), ((.lt (.v 1) qnae6), false), ((.le (.c 0) (.v 0)), true), ((.le (.v 0) (.c 50)), true), ((.le (.c 0) (.v 1)), true), ((.le (.v 1) (.c 255)), true), ((.le (.c 0) (.v 15)), true), ((.le (.v 15) (.c 255)), true), ((.le (.c 0) (.v 10)), true), ((.le (.v 10) (.c 255)), true), ((.le (.c 0) (.v 11)), true), ((.le (.v 11) (.c 255)), true), ((.le (.c 0) (.v 12)), true), ((.le (.v 12) (.c 4294967295)), true), ((.le (.c 4) (.v 9)), true), ((.le (.v 9) (.c 18)), true), ((.le (.v 15) (.v 1)), true), ((.eq (.v 2) (.v 1)), true), ((.eq (.v 3) (.v 1)), true), ((.ap 2 (.a (.v 0) (.i (.v 0) (.i (.v 10) (.i (.v 11) .nil))))), true)]
noncomputable def qnax2 : Vl := .out 0 [.b (.v 0) (.v 0), .i (.v 10) (.v 10), .i (.v 11) qnae0, .i (.v 10) (.v 10), .i (.v 9) (.v 9), .i (.v 12) (.v 12), .i (.v 13) (.v 13), .i (.v 14) (.v 14), .i (.v 16) (.v 16), .i (.v 17) (.v 17), .b (.v 1) (.v 1), .p 1002 (.i (.v 0) (.i (.v 9) (.a (.v 0) .nil))) (.i qnae1 (.i (.v 9) (.a qnae2 .nil))), .i (.c 0) qnae5] [((.eq (.v 1) (.v 10)), true), ((.eq (.v 15) (.c 0)), true), ((.lt (.v 1) (.v 11)), false), ((.lt (.v 1) qnae6), false), ((.le (.c 0) (.v 0)), true), ((.le (.v 0) (.c 50)), true), ((.le (.c 0) (.v 1)), true), ((.le (.v 1) (.c 255)), true), ((.le (.c 0) (.v 15)), true), ((.le (.v 15) (.c 255)), true), ((.le (.c 0) (.v 10)), true), ((.le (.v 10) (.c 255)), true), ((.le (.c 0) (.v 11)), true), ((.le (.v 11) (.c 255)), true), ((.le (.c 0) (.v 12)), true), ((.le (.v 12) (.c 4294967295)), true), ((.le (.c 4) (.v 9)), true), ((.le (.v 9) (.c 18)), true), ((.le (.v 15) (.v 1)), true), ((.eq (.v 2) (.v 1)), true), ((.eq (.v 3) (.v 1)), true), ((.ap 2 (.a (.v 0) (.i (.v 0) (.i (.v 10) (.i (.v 11) .nil))))), true)]
noncomputable def qnax3 : Vl := .out 0 [.b (.v 0) (.v 0), .i (.v 10) (.v 10), .i (.v 11) qnae0, .i (.v 10) (.v 10), .i (.v 9) (.v 9), .i (.v 12) (.v 12), .i (.v 13) (.v 13), .i (.v 14) (.v 14), .i (.v 16) (.v 16), .i (.v 17) (.v 17), .b (.v 1) (.v 1), .p 1002 (.i qnae7 (.i (.v 9) (.a qnae8 .nil))) (.i qnae1 (.i (.v 9) (.a qnae2 .nil))), .i (.c 0) qnae5] [((.ap 1 (.a (.v 0) (.i (.v 0) .nil))), true), ((.eq (.v 1) (.v 10)), false), ((.eq (.v 15) (.c 0)), true), ((.lt (.v 1) (.v 11)), false), ((.lt (.v 1) qnae6), false), ((.le (.c 0) (.v 0)), true), ((.le (.v 0) (.c 50)), true), ((.le (.c 0) (.v 1)), true), ((.le (.v 1) (.c 255)), true), ((.le (.c 0) (.v 15)), true), ((.le (.v 15) (.c 255)), true), ((.le (.c 0) (.v 10)), true), ((.le (.v 10) (.c 255)), true), ((.le (.c 0) (.v 11)), true), ((.le (.v 11) (.c 255)), true), ((.le (.c 0) (.v 12)), true), ((.le (.v 12) (.c 4294967295)), true), ((.le (.c 4) (.v 9)), true), ((.le (.v 9) (.c 18)), true), ((.le (.v 15) (.v 1)), true), ((.eq (.v 2) (.v 1)), true), ((.eq (.v 3) (.v 1)), true), ((.ap 2 (.a (.v 0) (.i (.v 0) (.i (.v 10) (.i (.v 11) .nil))))), true)]
noncomputable def qnax4 : Vl := .dead [((.ap 1 (.a (.v 0) (.i (.v 0) .nil))), false), ((.eq (.v 1) (.v 10)), false), ((.eq (.v 15) (.c 0)), true), ((.lt (.v 1) (.v 11)), false), ((.lt (.v 1) qnae6), false), ((.le (.c 0) (.v 0)), true), ((.le (.v 0) (.c 50)), true), ((.le (.c 0) (.v 1)), true), ((.le (.v 1) (.c 255)), true), ((.le (.c 0) (.v 15)), true), ((.le (.v 15) (.c 255)), true), ((.le (.c 0) (.v 10)), true), ((.le (.v 10) (.c 255)), true), ((.le (.c 0) (.v 11)), true), ((.le (.v 11) (.c 255)), true), ((.le (.c 0) (.v 12)), true), ((.le (.v 12) (.c 4294967295)), true), ((.le (.c 4) (.v 9)), true), ((.le (.v 9) (.c 18)), true), ((.le (.v 15) (.v 1)), true), ((.eq (.v 2) (.v 1)), true), ((.eq (.v 3) (.v 1)), true), ((.ap 2 (.a (.v 0) (.i (.v 0) (.i (.v 10) (.i (.v 11) .nil))))), true)]
noncomputable def qnax5 : Vl := .go 0 [(130, (.c 0)), (132, (.c 0)), (133, (.c 0))] [] [] [((.lt (.v 11) (.v 15)), true), ((.eq (.v 15) (.c 0)), false), ((.lt (.v 1) (.v 11)), false), ((.lt (.v 1) qnae6), false), ((.le (.c 0) (.v 0)), true), ((.le (.v 0) (.c 50)), true), ((.le (.c 0) (.v 1)), true), ((.le (.v 1) (.c 255)), true), ((.le (.c 0) (.v 15)), true), ((.le (.v 15) (.c 255)), true), ((.le (.c 0) (.v 10)), true), ((.le (.v 10) (.c 255)), true), ((.le (.c 0) (.v 11)), true), ((.le (.v 11) (.c 255)), true), ((.le (.c 0) (.v 12)), true), ((.le (.v 12) (.c 4294967295)), true), ((.le (.c 4) (.v 9)), true), ((.le (.v 9) (.c 18)), true), ((.le (.v 15) (.v 1)), true), ((.eq (.v 2) (.v 1)), true), ((.eq (.v 3) (.v 1)), true), ((.ap 2 (.a (.v 0) (.i (.v 0) (.i (.v 10) (.i (.v 11) .nil))))), true)] (.code (.loop (loopB (prm41 Tryd.prog).P 41 17))) (loopK (prm41 Tryd.prog).P 41 17)
noncomputable def qnax6 : Vl := .out 0 [.b (.v 0) (.v 0), .i (.v 10) (.v 10), .i (.v 11) qnae0, .i (.v 10) (.v 10), .i (.v 9) (.v 9), .i (.v 12) (.v 12), .i (.v 13) (.v 13), .i (.v 14) (.v 14), .i (.v 16) (.v 16), .i (.v 17) (.v 17), .b (.v 1) (.v 1), .p 1002 (.i (.v 0) (.i (.v 9) (.a (.v 0) .nil))) (.i qnae1 (.i (.v 9) (.a qnae2 .nil))), .i (.c 0) qnae5] [((.eq (.v 1) (.v 10)), true), ((.lt (.v 11) (.v 15)), false), ((.eq (.v 15) (.c 0)), false), ((.lt (.v 1) (.v 11)), false), ((.lt (.v 1) qnae6), false), ((.le (.c 0) (.v 0)), true), ((.le (.v 0) (.c 50)), true), ((.le (.c 0) (.v 1)), true), ((.le (.v 1) (.c 255)), true), ((.le (.c 0) (.v 15)), true), ((.le (.v 15) (.c 255)), true), ((.le (.c 0) (.v 10)), true), ((.le (.v 10) (.c 255)), true), ((.le (.c 0) (.v 11)), true), ((.le (.v 11) (.c 255)), true), ((.le (.c 0) (.v 12)), true), ((.le (.v 12) (.c 4294967295)), true), ((.le (.c 4) (.v 9)), true), ((.le (.v 9) (.c 18)), true), ((.le (.v 15) (.v 1)), true), ((.eq (.v 2) (.v 1)), true), ((.eq (.v 3) (.v 1)), true), ((.ap 2 (.a (.v 0) (.i (.v 0) (.i (.v 10) (.i (.v 11) .nil))))), true)]
noncomputable def qnax7 : Vl := .dead [((.lt (.v 10) (.v 15)), true), ((.ap 1 (.a (.v 0) (.i (.v 0) .nil))), true), ((.eq (.v 1) (.v 10)), false), ((.lt (.v 11) (.v 15)), false), ((.eq (.v 15) (.c 0)), false), ((.lt (.v 1) (.v 11)), false), ((.lt (.v 1) qnae6), false), ((.le (.c 0) (.v 0)), true), ((.le (.v 0) (.c 50)), true), ((.le (.c 0) (.v 1)), true), ((.le (.v 1) (.c 255)), true), ((.le (.c 0) (.v 15)), true), ((.le (.v 15) (.c 255)), true), ((.le (.c 0) (.v 10)), true), ((.le (.v 10) (.c 255)), true), ((.le (.c 0) (.v 11)), true), ((.le (.v 11) (.c 255)), true), ((.le (.c 0) (.v 12)), true), ((.le (.v 12) (.c 4294967295)), true), ((.le (.c 4) (.v 9)), true), ((.le (.v 9) (.c 18)), true), ((.le (.v 15) (.v 1)), true), ((.eq (.v 2) (.v 1)), true), ((.eq (.v 3) (.v 1)), true), ((.ap 2 (.a (.v 0) (.i (.v 0) (.i (.v 10) (.i (.v 11) .nil))))), true)]
noncomputable def qnax8 : Vl := .out 0 [.b (.v 0) (.v 0), .i (.v 10) (.v 10), .i (.v 11) qnae0, .i (.v 10) (.v 10), .i (.v 9) (.v 9), .i (.v 12) (.v 12), .i (.v 13) (.v 13), .i (.v 14) (.v 14), .i (.v 16) (.v 16), .i (.v 17) (.v 17), .b (.v 1) (.v 1), .p 1002 (.i qnae7 (.i (.v 9) (.a qnae8 .nil))) (.i qnae1 (.i (.v 9) (.a qnae2 .nil))), .i (.c 0) qnae5] [((.lt (.v 10) (.v 15)), false), ((.ap 1 (.a (.v 0) (.i (.v 0) .nil))), true), ((.eq (.v 1) (.v 10)), false), ((.lt (.v 11) (.v 15)), false), ((.eq (.v 15) (.c 0)), false), ((.lt (.v 1) (.v 11)), false), ((.lt (.v 1) qnae6), false), ((.le (.c 0) (.v 0)), true), ((.le (.v 0) (.c 50)), true), ((.le (.c 0) (.v 1)), true), ((.le (.v 1) (.c 255)), true), ((.le (.c 0) (.v 15)), true), ((.le (.v 15) (.c 255)), true), ((.le (.c 0) (.v 10)), true), ((.le (.v 10) (.c 255)), true), ((.le (.c 0) (.v 11)), true), ((.le (.v 11) (.c 255)), true), ((.le (.c 0) (.v 12)), true), ((.le (.v 12) (.c 4294967295)), true), ((.le (.c 4) (.v 9)), true), ((.le (.v 9) (.c 18)), true), ((.le (.v 15) (.v 1)), true), ((.eq (.v 2) (.v 1)), true), ((.eq (.v 3) (.v 1)), true), ((.ap 2 (.a (.v 0) (.i (.v 0) (.i (.v 10) (.i (.v 11) .nil))))), true)]
noncomputable def qnax9 : Vl := .dead [((.ap 1 (.a (.v 0) (.i (.v 0) .nil))), false), ((.eq (.v 1) (.v 10)), false), ((.lt (.v 11) (.v 15)), false), ((.eq (.v 15) (.c 0)), false), ((.lt (.v 1) (.v 11)), false), ((.lt (.v 1) qnae6), false), ((.le (.c 0) (.v 0)), true), ((.le (.v 0) (.c 50)), true), ((.le (.c 0) (.v 1)), true), ((.le (.v 1) (.c 255)), true), ((.le (.c 0) (.v 15)), true), ((.le (.v 15) (.c 255)), true), ((.le (.c 0) (.v 10)), true), ((.le (.v 10) (.c 255)), true), ((.le (.c 0) (.v 11)), true), ((.le (.v 11) (.c 255)), true), ((.le (.c 0) (.v 12)), true), ((.le (.v 12) (.c 4294967295)), true), ((.le (.c 4) (.v 9)), true), ((.le (.v 9) (.c 18)), true), ((.le (.v 15) (.v 1)), true), ((.eq (.v 2) (.v 1)), true), ((.eq (.v 3) (.v 1)), true), ((.ap 2 (.a (.v 0) (.i (.v 0) (.i (.v 10) (.i (.v 11) .nil))))), true)]
noncomputable def qnals : List Vl := [qnax0, qnax1, qnax2, qnax3, qnax4, qnax5, qnax6, qnax7, qnax8, qnax9]
noncomputable def qnp0e0 : SE := .add (.v 130) (.c 1)
noncomputable def qnp0e1 : SE := .add (.v 133) (.c 1)
noncomputable def qnp0e2 : SE := .rd (.v 0) (.v 133)
noncomputable def qnp0e3 : AE := .tl (.v 120) (.v 130) (.i qnp0e2 .nil)
noncomputable def qnp0e4 : SE := .add (.v 132) (.c 1)
noncomputable def qnp0e5 : AE := .tl (.v 121) (.v 132) (.i qnp0e2 .nil)
noncomputable def qnp0e6 : SE := .ap 12 (.i (.v 10) (.i (.v 11) (.i (.v 1) (.i (.v 15) .nil))))
noncomputable def qnp0e7 : SE := .ap 10 (.a (.v 0) (.i (.v 0) (.i (.v 10) (.i (.v 11) (.i (.v 1) (.i (.v 15) .nil))))))
noncomputable def qnp0e8 : AE := .ap 10 (.a (.v 0) (.i (.v 0) (.i (.v 10) (.i (.v 11) (.i (.v 1) (.i (.v 15) .nil))))))
noncomputable def qnp0e9 : AE := .ap 13 (.a (.v 0) (.i (.v 0) (.i (.v 10) (.i (.v 11) (.i (.v 1) (.i (.v 15) .nil))))))
noncomputable def qnp0e10 : SE := .ap 13 (.a (.v 0) (.i (.v 0) (.i (.v 10) (.i (.v 11) (.i (.v 1) (.i (.v 15) .nil))))))
noncomputable def qnp0e11 : AE := .ap 5 (.a (.v 120) (.i (.v 130) (.i (.v 1) .nil)))
noncomputable def qnp0e12 : SE := .rd qnp0e11 (.c 0)
noncomputable def qnp0e13 : SE := .ap 11 (.a (.v 0) (.i (.v 0) (.i (.v 10) (.i (.v 11) (.i (.v 1) (.i (.v 15) .nil))))))
noncomputable def qnp0e14 : SE := .mx (.v 15) (.v 10)
noncomputable def qnp0e15 : SE := .tmod (.v 12) (.c 10000)
noncomputable def qnp0e16 : SE := .add (.c 5000) qnp0e15
noncomputable def qnp0e17 : SE := .ap 5 (.a (.v 120) (.i (.v 130) (.i (.v 1) .nil)))
noncomputable def qnp0e18 : SE := .sub qnp0e17 (.c 1)
noncomputable def qnp0e19 : AE := .dr qnp0e11 (.c 1)
noncomputable def qnp0e20 : AE := .tl (.v 121) (.v 132) (.i (.v 10) .nil)
noncomputable def qnp0e21 : SE := .wrap .i64 qnp0e12
noncomputable def qnp0e22 : SE := .bits .or .i64 (.c 0) qnp0e21
noncomputable def qnp0e23 : AE := .tl (.v 0) (.c 0) (.i qnp0e22 .nil)
noncomputable def qnp0e24 : AE := .tl (.v 0) (.c 0) .nil
noncomputable def qnp0e25 : AE := .tl qnp0e24 (.c 0) (.i qnp0e13 .nil)
noncomputable def qnp0x0 : Vl := .go 0 [(130, qnp0e0), (133, qnp0e1)] [] [(120, qnp0e3)] [((.le (.v 15) qnp0e2), true), ((.lt (.v 133) (.v 0)), true), ((.le (.c 0) (.v 0)), true), ((.le (.v 0) (.c 50)), true), ((.le (.c 0) (.v 1)), true), ((.le (.v 1) (.c 255)), true), ((.le (.c 0) (.v 15)), true), ((.le (.v 15) (.c 255)), true), ((.le (.c 0) (.v 10)), true), ((.le (.v 10) (.c 255)), true), ((.le (.c 0) (.v 11)), true), ((.le (.v 11) (.c 255)), true), ((.le (.c 0) (.v 12)), true), ((.le (.v 12) (.c 4294967295)), true), ((.le (.c 4) (.v 9)), true), ((.le (.v 9) (.c 18)), true), ((.le (.v 15) (.v 1)), true), ((.eq (.v 2) (.v 1)), true), ((.eq (.v 3) (.v 1)), true), ((.ap 2 (.a (.v 0) (.i (.v 0) (.i (.v 10) (.i (.v 11) .nil))))), true), ((.le (.c 0) (.v 133)), true), ((.le (.v 133) (.c 50)), true), ((.le (.c 0) (.v 130)), true), ((.le (.v 130) (.c 50)), true), ((.le (.c 0) (.v 132)), true), ((.le (.v 132) (.c 50)), true), ((.lt (.v 11) (.v 15)), true), ((.lt (.v 1) (.v 10)), false), ((.lt (.v 1) (.v 11)), false), ((.ap 1 (.a (.v 120) (.i (.v 130) .nil))), true)] (.exit .normal) (.loop (loopB (prm41 Tryd.prog).P 41 17) :: loopK (prm41 Tryd.prog).P 41 17)
noncomputable def qnp0x1 : Vl := .go 0 [(132, qnp0e4), (133, qnp0e1)] [] [(121, qnp0e5)] [((.le (.v 15) qnp0e2), false), ((.lt (.v 133) (.v 0)), true), ((.le (.c 0) (.v 0)), true), ((.le (.v 0) (.c 50)), true), ((.le (.c 0) (.v 1)), true), ((.le (.v 1) (.c 255)), true), ((.le (.c 0) (.v 15)), true), ((.le (.v 15) (.c 255)), true), ((.le (.c 0) (.v 10)), true), ((.le (.v 10) (.c 255)), true), ((.le (.c 0) (.v 11)), true), ((.le (.v 11) (.c 255)), true), ((.le (.c 0) (.v 12)), true), ((.le (.v 12) (.c 4294967295)), true), ((.le (.c 4) (.v 9)), true), ((.le (.v 9) (.c 18)), true), ((.le (.v 15) (.v 1)), true), ((.eq (.v 2) (.v 1)), true), ((.eq (.v 3) (.v 1)), true), ((.ap 2 (.a (.v 0) (.i (.v 0) (.i (.v 10) (.i (.v 11) .nil))))), true), ((.le (.c 0) (.v 133)), true), ((.le (.v 133) (.c 50)), true), ((.le (.c 0) (.v 130)), true), ((.le (.v 130) (.c 50)), true), ((.le (.c 0) (.v 132)), true), ((.le (.v 132) (.c 50)), true), ((.lt (.v 11) (.v 15)), true), ((.lt (.v 1) (.v 10)), false), ((.lt (.v 1) (.v 11)), false), ((.ap 1 (.a (.v 120) (.i (.v 130) .nil))), true)] (.exit .normal) (.loop (loopB (prm41 Tryd.prog).P 41 17) :: loopK (prm41 Tryd.prog).P 41 17)
noncomputable def qnp0x2 : Vl := .out 0 [.b (.v 0) (.v 0), .i (.v 10) (.v 10), .i (.v 15) qnp0e6, .i (.v 10) (.v 10), .i (.v 9) (.v 9), .i (.v 12) (.v 12), .i (.v 13) (.v 13), .i (.v 14) (.v 14), .i (.v 16) (.v 16), .i (.v 17) (.v 17), .b (.v 1) (.v 1), .p 1002 (.i (.v 130) (.i (.v 9) (.a (.v 120) .nil))) (.i qnp0e7 (.i (.v 9) (.a qnp0e8 .nil))), .a (.v 121) qnp0e9 qnp0e10 1, .i (.v 132) qnp0e10] [((.eq (.v 1) (.v 10)), true), ((.lt (.v 133) (.v 0)), false), ((.le (.c 0) (.v 0)), true), ((.le (.v 0) (.c 50)), true), ((.le (.c 0) (.v 1)), true), ((.le (.v 1) (.c 255)), true), ((.le (.c 0) (.v 15)), true), ((.le (.v 15) (.c 255)), true), ((.le (.c 0) (.v 10)), true), ((.le (.v 10) (.c 255)), true), ((.le (.c 0) (.v 11)), true), ((.le (.v 11) (.c 255)), true), ((.le (.c 0) (.v 12)), true), ((.le (.v 12) (.c 4294967295)), true), ((.le (.c 4) (.v 9)), true), ((.le (.v 9) (.c 18)), true), ((.le (.v 15) (.v 1)), true), ((.eq (.v 2) (.v 1)), true), ((.eq (.v 3) (.v 1)), true), ((.ap 2 (.a (.v 0) (.i (.v 0) (.i (.v 10) (.i (.v 11) .nil))))), true), ((.le (.c 0) (.v 133)), true), ((.le (.v 133) (.c 50)), true), ((.le (.c 0) (.v 130)), true), ((.le (.v 130) (.c 50)), true), ((.le (.c 0) (.v 132)), true), ((.le (.v 132) (.c 50)), true), ((.lt (.v 11) (.v 15)), true), ((.lt (.v 1) (.v 10)), false), ((.lt (.v 1) (.v 11)), false), ((.ap 1 (.a (.v 120) (.i (.v 130) .nil))), true)]
noncomputable def qnp0x3 : Vl := .out 1 [.b (.v 0) (.v 0), .i qnp0e12 qnp0e13, .i qnp0e14 qnp0e6, .i qnp0e12 qnp0e13, .i (.v 9) (.v 9), .i (.v 12) (.v 12), .i qnp0e16 qnp0e16, .i (.v 16) (.v 16), .i (.v 17) (.v 17), .b (.v 1) (.v 1), .p 1002 (.i qnp0e18 (.i (.v 9) (.a qnp0e19 .nil))) (.i qnp0e7 (.i (.v 9) (.a qnp0e8 .nil))), .a qnp0e20 qnp0e9 qnp0e10 1, .i qnp0e4 qnp0e10, .i qnp0e12 qnp0e13, .i qnp0e12 qnp0e13, .i (.v 9) (.v 9), .i qnp0e12 qnp0e13, .a qnp0e23 qnp0e25 (.c 1) 1] [((.lt (.c 0) qnp0e17), true), ((.lt (.v 10) (.v 15)), true), ((.eq (.v 1) (.v 10)), false), ((.lt (.v 133) (.v 0)), false), ((.le (.c 0) (.v 0)), true), ((.le (.v 0) (.c 50)), true), ((.le (.c 0) (.v 1)), true), ((.le (.v 1) (.c 255)), true), ((.le (.c 0) (.v 15)), true), ((.le (.v 15) (.c 255)), true), ((.le (.c 0) (.v 10)), true), ((.le (.v 10) (.c 255)), true), ((.le (.c 0) (.v 11)), true), ((.le (.v 11) (.c 255)), true), ((.le (.c 0) (.v 12)), true), ((.le (.v 12) (.c 4294967295)), true), ((.le (.c 4) (.v 9)), true), ((.le (.v 9) (.c 18)), true), ((.le (.v 15) (.v 1)), true), ((.eq (.v 2) (.v 1)), true), ((.eq (.v 3) (.v 1)), true), ((.ap 2 (.a (.v 0) (.i (.v 0) (.i (.v 10) (.i (.v 11) .nil))))), true), ((.le (.c 0) (.v 133)), true), ((.le (.v 133) (.c 50)), true), ((.le (.c 0) (.v 130)), true), ((.le (.v 130) (.c 50)), true), ((.le (.c 0) (.v 132)), true), ((.le (.v 132) (.c 50)), true), ((.lt (.v 11) (.v 15)), true), ((.lt (.v 1) (.v 10)), false), ((.lt (.v 1) (.v 11)), false), ((.ap 1 (.a (.v 120) (.i (.v 130) .nil))), true)]
noncomputable def qnp0x4 : Vl := .dead [((.lt (.c 0) qnp0e17), false), ((.lt (.v 10) (.v 15)), true), ((.eq (.v 1) (.v 10)), false), ((.lt (.v 133) (.v 0)), false), ((.le (.c 0) (.v 0)), true), ((.le (.v 0) (.c 50)), true), ((.le (.c 0) (.v 1)), true), ((.le (.v 1) (.c 255)), true), ((.le (.c 0) (.v 15)), true), ((.le (.v 15) (.c 255)), true), ((.le (.c 0) (.v 10)), true), ((.le (.v 10) (.c 255)), true), ((.le (.c 0) (.v 11)), true), ((.le (.v 11) (.c 255)), true), ((.le (.c 0) (.v 12)), true), ((.le (.v 12) (.c 4294967295)), true), ((.le (.c 4) (.v 9)), true), ((.le (.v 9) (.c 18)), true), ((.le (.v 15) (.v 1)), true), ((.eq (.v 2) (.v 1)), true), ((.eq (.v 3) (.v 1)), true), ((.ap 2 (.a (.v 0) (.i (.v 0) (.i (.v 10) (.i (.v 11) .nil))))), true), ((.le (.c 0) (.v 133)), true), ((.le (.v 133) (.c 50)), true), ((.le (.c 0) (.v 130)), true), ((.le (.v 130) (.c 50)), true), ((.le (.c 0) (.v 132)), true), ((.le (.v 132) (.c 50)), true), ((.lt (.v 11) (.v 15)), true), ((.lt (.v 1) (.v 10)), false), ((.lt (.v 1) (.v 11)), false), ((.ap 1 (.a (.v 120) (.i (.v 130) .nil))), true)]
noncomputable def qnp0x5 : Vl := .out 0 [.b (.v 0) (.v 0), .i (.v 10) (.v 10), .i (.v 15) qnp0e6, .i (.v 10) (.v 10), .i (.v 9) (.v 9), .i (.v 12) (.v 12), .i (.v 13) (.v 13), .i (.v 14) (.v 14), .i (.v 16) (.v 16), .i (.v 17) (.v 17), .b (.v 1) (.v 1), .p 1002 (.i qnp0e17 (.i (.v 9) (.a qnp0e11 .nil))) (.i qnp0e7 (.i (.v 9) (.a qnp0e8 .nil))), .a (.v 121) qnp0e9 qnp0e10 1, .i (.v 132) qnp0e10] [((.lt (.v 10) (.v 15)), false), ((.eq (.v 1) (.v 10)), false), ((.lt (.v 133) (.v 0)), false), ((.le (.c 0) (.v 0)), true), ((.le (.v 0) (.c 50)), true), ((.le (.c 0) (.v 1)), true), ((.le (.v 1) (.c 255)), true), ((.le (.c 0) (.v 15)), true), ((.le (.v 15) (.c 255)), true), ((.le (.c 0) (.v 10)), true), ((.le (.v 10) (.c 255)), true), ((.le (.c 0) (.v 11)), true), ((.le (.v 11) (.c 255)), true), ((.le (.c 0) (.v 12)), true), ((.le (.v 12) (.c 4294967295)), true), ((.le (.c 4) (.v 9)), true), ((.le (.v 9) (.c 18)), true), ((.le (.v 15) (.v 1)), true), ((.eq (.v 2) (.v 1)), true), ((.eq (.v 3) (.v 1)), true), ((.ap 2 (.a (.v 0) (.i (.v 0) (.i (.v 10) (.i (.v 11) .nil))))), true), ((.le (.c 0) (.v 133)), true), ((.le (.v 133) (.c 50)), true), ((.le (.c 0) (.v 130)), true), ((.le (.v 130) (.c 50)), true), ((.le (.c 0) (.v 132)), true), ((.le (.v 132) (.c 50)), true), ((.lt (.v 11) (.v 15)), true), ((.lt (.v 1) (.v 10)), false), ((.lt (.v 1) (.v 11)), false), ((.ap 1 (.a (.v 120) (.i (.v 130) .nil))), true)]
noncomputable def qnp0ls : List Vl := [qnp0x0, qnp0x1, qnp0x2, qnp0x3, qnp0x4, qnp0x5]
theorem qnp0run : (run (prm41 Tryd.prog) 900 (ptD (pts41 Tryd.prog .nilptr []) 0 41)).map (vOf (prm41 Tryd.prog) ct41n (pts41 Tryd.prog .nilptr [])) = qnp0ls := by kernel_rfl
-- 6 ways; terms: qnp0e0, qnp0e1, qnp0e2, qnp0e3, qnp0e4, qnp0e5, qnp0e6, qnp0e7, qnp0e8, qnp0e9, qnp0e10, qnp0e11, qnp0e12, qnp0e13, qnp0e14, qnp0e15, qnp0e16, qnp0e17, qnp0e18, qnp0e19, qnp0e20, qnp0e21, qnp0e22, qnp0e23, qnp0e24, qnp0e25
noncomputable def qtae0 : SE := .ap 12 (.i (.v 10) (.i (.v 11) (.i (.v 1) (.i (.v 15) .nil))))
noncomputable def qtae1 : SE := .ap 10 (.a (.v 0) (.i (.v 0) (.i (.v 10) (.i (.v 11) (.i (.v 1) (.i (.v 15) .nil))))))
noncomputable def qtae2 : AE := .ap 10 (.a (.v 0) (.i (.v 0) (.i (.v 10) (.i (.v 11) (.i (.v 1) (.i (.v 15) .nil))))))
noncomputable def qtae3 : AE := .tl (.v 0) (.c 0) (.i (.v 1) .nil)
noncomputable def qtae4 : AE := .ap 13 (.a (.v 0) (.i (.v 0) (.i (.v 10) (.i (.v 11) (.i (.v 1) (.i (.v 15) .nil))))))
noncomputable def qtae5 : SE := .ap 13 (.a (.v 0) (.i (.v 0) (.i (.v 10) (.i (.v 11) (.i (.v 1) (.i (.v 15) .nil))))))
noncomputable def qtae6 : SE := .mx (.v 10) (.c 0)
noncomputable def qtae7 : SE := .ap 5 (.a (.v 0) (.i (.v 0) (.i (.v 1) .nil)))
noncomputable def qtae8 : AE := .ap 5 (.a (.v 0) (.i (.v 0) (.i (.v 1) .nil)))
noncomputable def qtax0 : Vl := .out 0 [.b (.v 0) (.v 0), .i (.v 10) (.v 10), .i (.v 11) qtae0, .i (.v 10) (.v 10), .i (.v 9) (.v 9), .i (.v 12) (.v 12), .i (.v 13) (.v 13), .i (.v 14) (.v 14), .i (.v 16) (.v 16), .i (.v 17) (.v 17), .b (.v 1) (.v 1), .i (.v 10) (.v 10), .i (.v 10) (.v 10), .i (.v 9) (.v 9), .i (.v 10) (.v 10), .p 1002 (.i (.v 0) (.i (.v 9) (.a (.v 0) .nil))) (.i qtae1 (.i (.v 9) (.a qtae2 .nil))), .a qtae3 qtae4 qtae5 1, .i (.c 1) qtae5] [((.lt (.v 1) qtae6), true), ((.le (.c 0) (.v 0)), true), ((.le (.v 0) (.c 50)), true), ((.le (.c 0) (.v 1)), true), ((.le (.v 1) (.c 255)), true), ((.le (.c 0) (.v 15)), true), ((.le (.v 15) (.c 255)), true), ((.le (.c 0) (.v 10)), true), ((.le (.v 10) (.c 255)), true), ((.le (.c 0) (.v 11)), true), ((.le (.v 11) (.c 255)), true), ((.le (.c 0) (.v 12)), true), ((.le (.v 12) (.c 4294967295)), true), ((.le (.c 4) (.v 9)), true), ((.le (.v 9) (.c 18)), true), ((.le (.v 15) (.v 1)), true), ((.eq (.v 2) (.v 1)), true), ((.eq (.v 3) (.v 1)), true), ((.ap 2 (.a (.v 0) (.i (.v 0) (.i (.v 10) (.i (.v 11) .nil))))), true)]
noncomputable def qtax1 : Vl := .out 0 [.b (.v 0) (.v 0), .i (.v 10) (.v 10), .i (.v 11) qtae0, .i (.v 10) (.v 10), .i (.v 9) (.v 9), .i (.v 12) (.v 12), .i (.v 13) (.v 13), .i (.v 14) (.v 14), .i (.v 16) (.v 16), .i (.v 17) (.v 17), .b (.v 1) (.v 1), .i (.v 10) (.v 10), .i (.v 10) (.v 10), .i (.v 9) (.v 9), .i (.v 10) (.v 10), .p 1002 (.i (.v 0) (.i (.v 9) (.a (.v 0) .nil))) (.i qtae1 (.i (.v 9) (.a qtae2 .nil))), .a qtae3 qtae4 qtae5 1, .i (.c 1) qtae5] [((.lt (.v 1) (.v 11)), true), ((.lt (.v 1) qtae6), false), ((.le (.c 0) (.v 0)), true), ((.le (.v 0) (.c 50)), true), ((.le (.c 0) (.v 1)), true), ((.le (.v 1) (.c 255)), true), ((.le (.c 0) (.v 15)), true), ((.le (.v 15) (.c 255)), true), ((.le (.c 0) (.v 10)), true), ((.le (.v 10) (.c 255)), true), ((.le (.c 0) (.v 11)), true), ((.le (.v 11) (.c 255)), true), ((.le (.c 0) (.v 12)), true), ((.le (.v 12) (.c 4294967295)), true), ((.le (.c 4) (.v 9)), true), ((.le (.v 9) (.c 18)), true), ((.le (.v 15) (.v 1)), true), ((.eq (.v 2) (.v 1)), true), ((.eq (.v 3) (.v 1)), true), ((.ap 2 (.a (.v 0) (.i (.v 0) (.i (.v 10) (.i (.v 11) .nil))))), true)]
noncomputable def qtax2 : Vl := .out 0 [.b (.v 0) (.v 0), .i (.v 10) (.v 10), .i (.v 11) qtae0, .i (.v 10) (.v 10), .i (.v 9) (.v 9), .i (.v 12) (.v 12), .i (.v 13) (.v 13), .i (.v 14) (.v 14), .i (.v 16) (.v 16), .i (.v 17) (.v 17), .b (.v 1) (.v 1), .i (.v 10) (.v 10), .i (.v 10) (.v 10), .i (.v 9) (.v 9), .i (.v 10) (.v 10), .p 1002 (.i (.v 0) (.i (.v 9) (.a (.v 0) .nil))) (.i qtae1 (.i (.v 9) (.a qtae2 .nil))), .i (.c 0) qtae5] [((.eq (.v 1) (.v 10)), true), ((.eq (.v 15) (.c 0)), true), ((.lt (.v 1) (.v 11)), false), ((.lt (.v 1) qtae6), false), ((.le (.c 0) (.v 0)), true), ((.le (.v 0) (.c 50)), true), ((.le (.c 0) (.v 1)), true), ((.le (.v 1) (.c 255)), true), ((.le (.c 0) (.v 15)), true), ((.le (.v 15) (.c 255)), true), ((.le (.c 0) (.v 10)), true), ((.le (.v 10) (.c 255)), true), ((.le (.c 0) (.v 11)), true), ((.le (.v 11) (.c 255)), true), ((.le (.c 0) (.v 12)), true), ((.le (.v 12) (.c 4294967295)), true), ((.le (.c 4) (.v 9)), true), ((.le (.v 9) (.c 18)), true), ((.le (.v 15) (.v 1)), true), ((.eq (.v 2) (.v 1)), true), ((.eq (.v 3) (.v 1)), true), ((.ap 2 (.a (.v 0) (.i (.v 0) (.i (.v 10) (.i (.v 11) .nil))))), true)]
noncomputable def qtax3 : Vl := .out 0 [.b (.v 0) (.v 0), .i (.v 10) (.v 10), .i (.v 11) qtae0, .i (.v 10) (.v 10), .i (.v 9) (.v 9), .i (.v 12) (.v 12), .i (.v 13) (.v 13), .i (.v 14) (.v 14), .i (.v 16) (.v 16), .i (.v 17) (.v 17), .b (.v 1) (.v 1), .i (.v 10) (.v 10), .i (.v 10) (.v 10), .i (.v 9) (.v 9), .i (.v 10) (.v 10), .p 1002 (.i qtae7 (.i (.v 9) (.a qtae8 .nil))) (.i qtae1 (.i (.v 9) (.a qtae2 .nil))), .i (.c 0) qtae5] [((.ap 1 (.a (.v 0) (.i (.v 0) .nil))), true), ((.eq (.v 1) (.v 10)), false), ((.eq (.v 15) (.c 0)), true), ((.lt (.v 1) (.v 11)), false), ((.lt (.v 1) qtae6), false), ((.le (.c 0) (.v 0)), true), ((.le (.v 0) (.c 50)), true), ((.le (.c 0) (.v 1)), true), ((.le (.v 1) (.c 255)), true), ((.le (.c 0) (.v 15)), true), ((.le (.v 15) (.c 255)), true), ((.le (.c 0) (.v 10)), true), ((.le (.v 10) (.c 255)), true), ((.le (.c 0) (.v 11)), true), ((.le (.v 11) (.c 255)), true), ((.le (.c 0) (.v 12)), true), ((.le (.v 12) (.c 4294967295)), true), ((.le (.c 4) (.v 9)), true), ((.le (.v 9) (.c 18)), true), ((.le (.v 15) (.v 1)), true), ((.eq (.v 2) (.v 1)), true), ((.eq (.v 3) (.v 1)), true), ((.ap 2 (.a (.v 0) (.i (.v 0) (.i (.v 10) (.i (.v 11) .nil))))), true)]
noncomputable def qtax4 : Vl := .dead [((.ap 1 (.a (.v 0) (.i (.v 0) .nil))), false), ((.eq (.v 1) (.v 10)), false), ((.eq (.v 15) (.c 0)), true), ((.lt (.v 1) (.v 11)), false), ((.lt (.v 1) qtae6), false), ((.le (.c 0) (.v 0)), true), ((.le (.v 0) (.c 50)), true), ((.le (.c 0) (.v 1)), true), ((.le (.v 1) (.c 255)), true), ((.le (.c 0) (.v 15)), true), ((.le (.v 15) (.c 255)), true), ((.le (.c 0) (.v 10)), true), ((.le (.v 10) (.c 255)), true), ((.le (.c 0) (.v 11)), true), ((.le (.v 11) (.c 255)), true), ((.le (.c 0) (.v 12)), true), ((.le (.v 12) (.c 4294967295)), true), ((.le (.c 4) (.v 9)), true), ((.le (.v 9) (.c 18)), true), ((.le (.v 15) (.v 1)), true), ((.eq (.v 2) (.v 1)), true), ((.eq (.v 3) (.v 1)), true), ((.ap 2 (.a (.v 0) (.i (.v 0) (.i (.v 10) (.i (.v 11) .nil))))), true)]
noncomputable def qtax5 : Vl := .go 0 [(130, (.c 0)), (132, (.c 0)), (133, (.c 0))] [] [] [((.lt (.v 11) (.v 15)), true), ((.eq (.v 15) (.c 0)), false), ((.lt (.v 1) (.v 11)), false), ((.lt (.v 1) qtae6), false), ((.le (.c 0) (.v 0)), true), ((.le (.v 0) (.c 50)), true), ((.le (.c 0) (.v 1)), true), ((.le (.v 1) (.c 255)), true), ((.le (.c 0) (.v 15)), true), ((.le (.v 15) (.c 255)), true), ((.le (.c 0) (.v 10)), true), ((.le (.v 10) (.c 255)), true), ((.le (.c 0) (.v 11)), true), ((.le (.v 11) (.c 255)), true), ((.le (.c 0) (.v 12)), true), ((.le (.v 12) (.c 4294967295)), true), ((.le (.c 4) (.v 9)), true), ((.le (.v 9) (.c 18)), true), ((.le (.v 15) (.v 1)), true), ((.eq (.v 2) (.v 1)), true), ((.eq (.v 3) (.v 1)), true), ((.ap 2 (.a (.v 0) (.i (.v 0) (.i (.v 10) (.i (.v 11) .nil))))), true)] (.code (.loop (loopB (prm41 Tryd.prog).P 41 17))) (loopK (prm41 Tryd.prog).P 41 17)
noncomputable def qtax6 : Vl := .out 0 [.b (.v 0) (.v 0), .i (.v 10) (.v 10), .i (.v 11) qtae0, .i (.v 10) (.v 10), .i (.v 9) (.v 9), .i (.v 12) (.v 12), .i (.v 13) (.v 13), .i (.v 14) (.v 14), .i (.v 16) (.v 16), .i (.v 17) (.v 17), .b (.v 1) (.v 1), .i (.v 10) (.v 10), .i (.v 10) (.v 10), .i (.v 9) (.v 9), .i (.v 10) (.v 10), .p 1002 (.i (.v 0) (.i (.v 9) (.a (.v 0) .nil))) (.i qtae1 (.i (.v 9) (.a qtae2 .nil))), .i (.c 0) qtae5] [((.eq (.v 1) (.v 10)), true), ((.lt (.v 11) (.v 15)), false), ((.eq (.v 15) (.c 0)), false), ((.lt (.v 1) (.v 11)), false), ((.lt (.v 1) qtae6), false), ((.le (.c 0) (.v 0)), true), ((.le (.v 0) (.c 50)), true), ((.le (.c 0) (.v 1)), true), ((.le (.v 1) (.c 255)), true), ((.le (.c 0) (.v 15)), true), ((.le (.v 15) (.c 255)), true), ((.le (.c 0) (.v 10)), true), ((.le (.v 10) (.c 255)), true), ((.le (.c 0) (.v 11)), true), ((.le (.v 11) (.c 255)), true), ((.le (.c 0) (.v 12)), true), ((.le (.v 12) (.c 4294967295)), true), ((.le (.c 4) (.v 9)), true), ((.le (.v 9) (.c 18)), true), ((.le (.v 15) (.v 1)), true), ((.eq (.v 2) (.v 1)), true), ((.eq (.v 3) (.v 1)), true), ((.ap 2 (.a (.v 0) (.i (.v 0) (.i (.v 10) (.i (.v 11) .nil))))), true)]
noncomputable def qtax7 : Vl := .dead [((.lt (.v 10) (.v 15)), true), ((.ap 1 (.a (.v 0) (.i (.v 0) .nil))), true), ((.eq (.v 1) (.v 10)), false), ((.lt (.v 11) (.v 15)), false), ((.eq (.v 15) (.c 0)), false), ((.lt (.v 1) (.v 11)), false), ((.lt (.v 1) qtae6), false), ((.le (.c 0) (.v 0)), true), ((.le (.v 0) (.c 50)), true), ((.le (.c 0) (.v 1)), true), ((.le (.v 1) (.c 255)), true), ((.le (.c 0) (.v 15)), true), ((.le (.v 15) (.c 255)), true), ((.le (.c 0) (.v 10)), true), ((.le (.v 10) (.c 255)), true), ((.le (.c 0) (.v 11)), true), ((.le (.v 11) (.c 255)), true), ((.le (.c 0) (.v 12)), true), ((.le (.v 12) (.c 4294967295)), true), ((.le (.c 4) (.v 9)), true), ((.le (.v 9) (.c 18)), true), ((.le (.v 15) (.v 1)), true), ((.eq (.v 2) (.v 1)), true), ((.eq (.v 3) (.v 1)), true), ((.ap 2 (.a (.v 0) (.i (.v 0) (.i (.v 10) (.i (.v 11) .nil))))), true)]
noncomputable def qtax8 : Vl := .out 0 [.b (.v 0) (.v 0), .i (.v 10) (.v 10), .i (.v 11) qtae0, .i (.v 10) (.v 10), .i (.v 9) (.v 9), .i (.v 12) (.v 12), .i (.v 13) (.v 13), .i (.v 14) (.v 14), .i (.v 16) (.v 16), .i (.v 17) (.v 17), .b (.v 1) (.v 1), .i (.v 10) (.v 10), .i (.v 10) (.v 10), .i (.v 9) (.v 9), .i (.v 10) (.v 10), .p 1002 (.i qtae7 (.i (.v 9) (.a qtae8 .nil))) (.i qtae1 (.i (.v 9) (.a qtae2 .nil))), .i (.c 0) qtae5] [((.lt (.v 10) (.v 15)), false), ((.ap 1 (.a (.v 0) (.i (.v 0) .nil))), true), ((.eq (.v 1) (.v 10)), false), ((.lt (.v 11) (.v 15)), false), ((.eq (.v 15) (.c 0)), false), ((.lt (.v 1) (.v 11)), false), ((.lt (.v 1) qtae6), false), ((.le (.c 0) (.v 0)), true), ((.le (.v 0) (.c 50)), true), ((.le (.c 0) (.v 1)), true), ((.le (.v 1) (.c 255)), true), ((.le (.c 0) (.v 15)), true), ((.le (.v 15) (.c 255)), true), ((.le (.c 0) (.v 10)), true), ((.le (.v 10) (.c 255)), true), ((.le (.c 0) (.v 11)), true), ((.le (.v 11) (.c 255)), true), ((.le (.c 0) (.v 12)), true), ((.le (.v 12) (.c 4294967295)), true), ((.le (.c 4) (.v 9)), true), ((.le (.v 9) (.c 18)), true), ((.le (.v 15) (.v 1)), true), ((.eq (.v 2) (.v 1)), true), ((.eq (.v 3) (.v 1)), true), ((.ap 2 (.a (.v 0) (.i (.v 0) (.i (.v 10) (.i (.v 11) .nil))))), true)]
noncomputable def qtax9 : Vl := .dead [((.ap 1 (.a (.v 0) (.i (.v 0) .nil))), false), ((.eq (.v 1) (.v 10)), false), ((.lt (.v 11) (.v 15)), false), ((.eq (.v 15) (.c 0)), false), ((.lt (.v 1) (.v 11)), false), ((.lt (.v 1) qtae6), false), ((.le (.c 0) (.v 0)), true), ((.le (.v 0) (.c 50)), true), ((.le (.c 0) (.v 1)), true), ((.le (.v 1) (.c 255)), true), ((.le (.c 0) (.v 15)), true), ((.le (.v 15) (.c 255)), true), ((.le (.c 0) (.v 10)), true), ((.le (.v 10) (.c 255)), true), ((.le (.c 0) (.v 11)), true), ((.le (.v 11) (.c 255)), true), ((.le (.c 0) (.v 12)), true), ((.le (.v 12) (.c 4294967295)), true), ((.le (.c 4) (.v 9)), true), ((.le (.v 9) (.c 18)), true), ((.le (.v 15) (.v 1)), true), ((.eq (.v 2) (.v 1)), true), ((.eq (.v 3) (.v 1)), true), ((.ap 2 (.a (.v 0) (.i (.v 0) (.i (.v 10) (.i (.v 11) .nil))))), true)]
noncomputable def qtals : List Vl := [qtax0, qtax1, qtax2, qtax3, qtax4, qtax5, qtax6, qtax7, qtax8, qtax9]
noncomputable def qtp0e0 : SE := .add (.v 130) (.c 1)
noncomputable def qtp0e1 : SE := .add (.v 133) (.c 1)
noncomputable def qtp0e2 : SE := .rd (.v 0) (.v 133)
noncomputable def qtp0e3 : AE := .tl (.v 120) (.v 130) (.i qtp0e2 .nil)
noncomputable def qtp0e4 : SE := .add (.v 132) (.c 1)
noncomputable def qtp0e5 : AE := .tl (.v 121) (.v 132) (.i qtp0e2 .nil)
noncomputable def qtp0e6 : SE := .ap 12 (.i (.v 10) (.i (.v 11) (.i (.v 1) (.i (.v 15) .nil))))
noncomputable def qtp0e7 : SE := .ap 10 (.a (.v 0) (.i (.v 0) (.i (.v 10) (.i (.v 11) (.i (.v 1) (.i (.v 15) .nil))))))
noncomputable def qtp0e8 : AE := .ap 10 (.a (.v 0) (.i (.v 0) (.i (.v 10) (.i (.v 11) (.i (.v 1) (.i (.v 15) .nil))))))
noncomputable def qtp0e9 : AE := .ap 13 (.a (.v 0) (.i (.v 0) (.i (.v 10) (.i (.v 11) (.i (.v 1) (.i (.v 15) .nil))))))
noncomputable def qtp0e10 : SE := .ap 13 (.a (.v 0) (.i (.v 0) (.i (.v 10) (.i (.v 11) (.i (.v 1) (.i (.v 15) .nil))))))
noncomputable def qtp0e11 : AE := .ap 5 (.a (.v 120) (.i (.v 130) (.i (.v 1) .nil)))
noncomputable def qtp0e12 : SE := .rd qtp0e11 (.c 0)
noncomputable def qtp0e13 : SE := .ap 11 (.a (.v 0) (.i (.v 0) (.i (.v 10) (.i (.v 11) (.i (.v 1) (.i (.v 15) .nil))))))
noncomputable def qtp0e14 : SE := .mx (.v 15) (.v 10)
noncomputable def qtp0e15 : SE := .tmod (.v 12) (.c 10000)
noncomputable def qtp0e16 : SE := .add (.c 5000) qtp0e15
noncomputable def qtp0e17 : SE := .ap 5 (.a (.v 120) (.i (.v 130) (.i (.v 1) .nil)))
noncomputable def qtp0e18 : SE := .sub qtp0e17 (.c 1)
noncomputable def qtp0e19 : AE := .dr qtp0e11 (.c 1)
noncomputable def qtp0e20 : AE := .tl (.v 121) (.v 132) (.i (.v 10) .nil)
noncomputable def qtp0e21 : SE := .wrap .i64 qtp0e12
noncomputable def qtp0e22 : SE := .bits .or .i64 (.c 0) qtp0e21
noncomputable def qtp0e23 : AE := .tl (.v 0) (.c 0) (.i qtp0e22 .nil)
noncomputable def qtp0e24 : AE := .tl (.v 0) (.c 0) .nil
noncomputable def qtp0e25 : AE := .tl qtp0e24 (.c 0) (.i qtp0e13 .nil)
noncomputable def qtp0e26 : SE := .bits .or .i64 (.c 0) (.v 10)
noncomputable def qtp0e27 : AE := .tl (.v 0) (.c 0) (.i qtp0e26 .nil)
noncomputable def qtp0e28 : AE := .tl qtp0e24 (.c 0) (.i (.v 10) .nil)
noncomputable def qtp0x0 : Vl := .go 0 [(130, qtp0e0), (133, qtp0e1)] [] [(120, qtp0e3)] [((.le (.v 15) qtp0e2), true), ((.lt (.v 133) (.v 0)), true), ((.le (.c 0) (.v 0)), true), ((.le (.v 0) (.c 50)), true), ((.le (.c 0) (.v 1)), true), ((.le (.v 1) (.c 255)), true), ((.le (.c 0) (.v 15)), true), ((.le (.v 15) (.c 255)), true), ((.le (.c 0) (.v 10)), true), ((.le (.v 10) (.c 255)), true), ((.le (.c 0) (.v 11)), true), ((.le (.v 11) (.c 255)), true), ((.le (.c 0) (.v 12)), true), ((.le (.v 12) (.c 4294967295)), true), ((.le (.c 4) (.v 9)), true), ((.le (.v 9) (.c 18)), true), ((.le (.v 15) (.v 1)), true), ((.eq (.v 2) (.v 1)), true), ((.eq (.v 3) (.v 1)), true), ((.ap 2 (.a (.v 0) (.i (.v 0) (.i (.v 10) (.i (.v 11) .nil))))), true), ((.le (.c 0) (.v 133)), true), ((.le (.v 133) (.c 50)), true), ((.le (.c 0) (.v 130)), true), ((.le (.v 130) (.c 50)), true), ((.le (.c 0) (.v 132)), true), ((.le (.v 132) (.c 50)), true), ((.lt (.v 11) (.v 15)), true), ((.lt (.v 1) (.v 10)), false), ((.lt (.v 1) (.v 11)), false), ((.ap 1 (.a (.v 120) (.i (.v 130) .nil))), true)] (.exit .normal) (.loop (loopB (prm41 Tryd.prog).P 41 17) :: loopK (prm41 Tryd.prog).P 41 17)
noncomputable def qtp0x1 : Vl := .go 0 [(132, qtp0e4), (133, qtp0e1)] [] [(121, qtp0e5)] [((.le (.v 15) qtp0e2), false), ((.lt (.v 133) (.v 0)), true), ((.le (.c 0) (.v 0)), true), ((.le (.v 0) (.c 50)), true), ((.le (.c 0) (.v 1)), true), ((.le (.v 1) (.c 255)), true), ((.le (.c 0) (.v 15)), true), ((.le (.v 15) (.c 255)), true), ((.le (.c 0) (.v 10)), true), ((.le (.v 10) (.c 255)), true), ((.le (.c 0) (.v 11)), true), ((.le (.v 11) (.c 255)), true), ((.le (.c 0) (.v 12)), true), ((.le (.v 12) (.c 4294967295)), true), ((.le (.c 4) (.v 9)), true), ((.le (.v 9) (.c 18)), true), ((.le (.v 15) (.v 1)), true), ((.eq (.v 2) (.v 1)), true), ((.eq (.v 3) (.v 1)), true), ((.ap 2 (.a (.v 0) (.i (.v 0) (.i (.v 10) (.i (.v 11) .nil))))), true), ((.le (.c 0) (.v 133)), true), ((.le (.v 133) (.c 50)), true), ((.le (.c 0) (.v 130)), true), ((.le (.v 130) (.c 50)), true), ((.le (.c 0) (.v 132)), true), ((.le (.v 132) (.c 50)), true), ((.lt (.v 11) (.v 15)), true), ((.lt (.v 1) (.v 10)), false), ((.lt (.v 1) (.v 11)), false), ((.ap 1 (.a (.v 120) (.i (.v 130) .nil))), true)] (.exit .normal) (.loop (loopB (prm41 Tryd.prog).P 41 17) :: loopK (prm41 Tryd.prog).P 41 17)
noncomputable def qtp0x2 : Vl := .out 0 [.b (.v 0) (.v 0), .i (.v 10) (.v 10), .i (.v 15) qtp0e6, .i (.v 10) (.v 10), .i (.v 9) (.v 9), .i (.v 12) (.v 12), .i (.v 13) (.v 13), .i (.v 14) (.v 14), .i (.v 16) (.v 16), .i (.v 17) (.v 17), .b (.v 1) (.v 1), .i (.v 10) (.v 10), .i (.v 10) (.v 10), .i (.v 9) (.v 9), .i (.v 10) (.v 10), .p 1002 (.i (.v 130) (.i (.v 9) (.a (.v 120) .nil))) (.i qtp0e7 (.i (.v 9) (.a qtp0e8 .nil))), .a (.v 121) qtp0e9 qtp0e10 1, .i (.v 132) qtp0e10] [((.eq (.v 1) (.v 10)), true), ((.lt (.v 133) (.v 0)), false), ((.le (.c 0) (.v 0)), true), ((.le (.v 0) (.c 50)), true), ((.le (.c 0) (.v 1)), true), ((.le (.v 1) (.c 255)), true), ((.le (.c 0) (.v 15)), true), ((.le (.v 15) (.c 255)), true), ((.le (.c 0) (.v 10)), true), ((.le (.v 10) (.c 255)), true), ((.le (.c 0) (.v 11)), true), ((.le (.v 11) (.c 255)), true), ((.le (.c 0) (.v 12)), true), ((.le (.v 12) (.c 4294967295)), true), ((.le (.c 4) (.v 9)), true), ((.le (.v 9) (.c 18)), true), ((.le (.v 15) (.v 1)), true), ((.eq (.v 2) (.v 1)), true), ((.eq (.v 3) (.v 1)), true), ((.ap 2 (.a (.v 0) (.i (.v 0) (.i (.v 10) (.i (.v 11) .nil))))), true), ((.le (.c 0) (.v 133)), true), ((.le (.v 133) (.c 50)), true), ((.le (.c 0) (.v 130)), true), ((.le (.v 130) (.c 50)), true), ((.le (.c 0) (.v 132)), true), ((.le (.v 132) (.c 50)), true), ((.lt (.v 11) (.v 15)), true), ((.lt (.v 1) (.v 10)), false), ((.lt (.v 1) (.v 11)), false), ((.ap 1 (.a (.v 120) (.i (.v 130) .nil))), true)]
noncomputable def qtp0x3 : Vl := .out 1 [.b (.v 0) (.v 0), .i qtp0e12 qtp0e13, .i qtp0e14 qtp0e6, .i qtp0e12 qtp0e13, .i (.v 9) (.v 9), .i (.v 12) (.v 12), .i qtp0e16 qtp0e16, .i (.v 16) (.v 16), .i (.v 17) (.v 17), .b (.v 1) (.v 1), .p 1002 (.i qtp0e18 (.i (.v 9) (.a qtp0e19 .nil))) (.i qtp0e7 (.i (.v 9) (.a qtp0e8 .nil))), .a qtp0e20 qtp0e9 qtp0e10 1, .i qtp0e4 qtp0e10, .i qtp0e12 qtp0e13, .i qtp0e12 qtp0e13, .i (.v 9) (.v 9), .i qtp0e12 qtp0e13, .a qtp0e23 qtp0e25 (.c 1) 1, .a qtp0e27 qtp0e28 (.c 1) 1] [((.lt (.c 0) qtp0e17), true), ((.lt (.v 10) (.v 15)), true), ((.eq (.v 1) (.v 10)), false), ((.lt (.v 133) (.v 0)), false), ((.le (.c 0) (.v 0)), true), ((.le (.v 0) (.c 50)), true), ((.le (.c 0) (.v 1)), true), ((.le (.v 1) (.c 255)), true), ((.le (.c 0) (.v 15)), true), ((.le (.v 15) (.c 255)), true), ((.le (.c 0) (.v 10)), true), ((.le (.v 10) (.c 255)), true), ((.le (.c 0) (.v 11)), true), ((.le (.v 11) (.c 255)), true), ((.le (.c 0) (.v 12)), true), ((.le (.v 12) (.c 4294967295)), true), ((.le (.c 4) (.v 9)), true), ((.le (.v 9) (.c 18)), true), ((.le (.v 15) (.v 1)), true), ((.eq (.v 2) (.v 1)), true), ((.eq (.v 3) (.v 1)), true), ((.ap 2 (.a (.v 0) (.i (.v 0) (.i (.v 10) (.i (.v 11) .nil))))), true), ((.le (.c 0) (.v 133)), true), ((.le (.v 133) (.c 50)), true), ((.le (.c 0) (.v 130)), true), ((.le (.v 130) (.c 50)), true), ((.le (.c 0) (.v 132)), true), ((.le (.v 132) (.c 50)), true), ((.lt (.v 11) (.v 15)), true), ((.lt (.v 1) (.v 10)), false), ((.lt (.v 1) (.v 11)), false), ((.ap 1 (.a (.v 120) (.i (.v 130) .nil))), true)]
noncomputable def qtp0x4 : Vl := .dead [((.lt (.c 0) qtp0e17), false), ((.lt (.v 10) (.v 15)), true), ((.eq (.v 1) (.v 10)), false), ((.lt (.v 133) (.v 0)), false), ((.le (.c 0) (.v 0)), true), ((.le (.v 0) (.c 50)), true), ((.le (.c 0) (.v 1)), true), ((.le (.v 1) (.c 255)), true), ((.le (.c 0) (.v 15)), true), ((.le (.v 15) (.c 255)), true), ((.le (.c 0) (.v 10)), true), ((.le (.v 10) (.c 255)), true), ((.le (.c 0) (.v 11)), true), ((.le (.v 11) (.c 255)), true), ((.le (.c 0) (.v 12)), true), ((.le (.v 12) (.c 4294967295)), true), ((.le (.c 4) (.v 9)), true), ((.le (.v 9) (.c 18)), true), ((.le (.v 15) (.v 1)), true), ((.eq (.v 2) (.v 1)), true), ((.eq (.v 3) (.v 1)), true), ((.ap 2 (.a (.v 0) (.i (.v 0) (.i (.v 10) (.i (.v 11) .nil))))), true), ((.le (.c 0) (.v 133)), true), ((.le (.v 133) (.c 50)), true), ((.le (.c 0) (.v 130)), true), ((.le (.v 130) (.c 50)), true), ((.le (.c 0) (.v 132)), true), ((.le (.v 132) (.c 50)), true), ((.lt (.v 11) (.v 15)), true), ((.lt (.v 1) (.v 10)), false), ((.lt (.v 1) (.v 11)), false), ((.ap 1 (.a (.v 120) (.i (.v 130) .nil))), true)]
noncomputable def qtp0x5 : Vl := .out 0 [.b (.v 0) (.v 0), .i (.v 10) (.v 10), .i (.v 15) qtp0e6, .i (.v 10) (.v 10), .i (.v 9) (.v 9), .i (.v 12) (.v 12), .i (.v 13) (.v 13), .i (.v 14) (.v 14), .i (.v 16) (.v 16), .i (.v 17) (.v 17), .b (.v 1) (.v 1), .i (.v 10) (.v 10), .i (.v 10) (.v 10), .i (.v 9) (.v 9), .i (.v 10) (.v 10), .p 1002 (.i qtp0e17 (.i (.v 9) (.a qtp0e11 .nil))) (.i qtp0e7 (.i (.v 9) (.a qtp0e8 .nil))), .a (.v 121) qtp0e9 qtp0e10 1, .i (.v 132) qtp0e10] [((.lt (.v 10) (.v 15)), false), ((.eq (.v 1) (.v 10)), false), ((.lt (.v 133) (.v 0)), false), ((.le (.c 0) (.v 0)), true), ((.le (.v 0) (.c 50)), true), ((.le (.c 0) (.v 1)), true), ((.le (.v 1) (.c 255)), true), ((.le (.c 0) (.v 15)), true), ((.le (.v 15) (.c 255)), true), ((.le (.c 0) (.v 10)), true), ((.le (.v 10) (.c 255)), true), ((.le (.c 0) (.v 11)), true), ((.le (.v 11) (.c 255)), true), ((.le (.c 0) (.v 12)), true), ((.le (.v 12) (.c 4294967295)), true), ((.le (.c 4) (.v 9)), true), ((.le (.v 9) (.c 18)), true), ((.le (.v 15) (.v 1)), true), ((.eq (.v 2) (.v 1)), true), ((.eq (.v 3) (.v 1)), true), ((.ap 2 (.a (.v 0) (.i (.v 0) (.i (.v 10) (.i (.v 11) .nil))))), true), ((.le (.c 0) (.v 133)), true), ((.le (.v 133) (.c 50)), true), ((.le (.c 0) (.v 130)), true), ((.le (.v 130) (.c 50)), true), ((.le (.c 0) (.v 132)), true), ((.le (.v 132) (.c 50)), true), ((.lt (.v 11) (.v 15)), true), ((.lt (.v 1) (.v 10)), false), ((.lt (.v 1) (.v 11)), false), ((.ap 1 (.a (.v 120) (.i (.v 130) .nil))), true)]
noncomputable def qtp0ls : List Vl := [qtp0x0, qtp0x1, qtp0x2, qtp0x3, qtp0x4, qtp0x5]
theorem qtp0run : (run (prm41 Tryd.prog) 900 (ptD (pts41 Tryd.prog tokT [.cells (enC (.v 10)) 113]) 0 41)).map (vOf (prm41 Tryd.prog) ct41t (pts41 Tryd.prog tokT [.cells (enC (.v 10)) 113])) = qtp0ls := by kernel_rfl
-- 6 ways; terms: qtp0e0, qtp0e1, qtp0e2, qtp0e3, qtp0e4, qtp0e5, qtp0e6, qtp0e7, qtp0e8, qtp0e9, qtp0e10, qtp0e11, qtp0e12, qtp0e13, qtp0e14, qtp0e15, qtp0e16, qtp0e17, qtp0e18, qtp0e19, qtp0e20, qtp0e21, qtp0e22, qtp0e23, qtp0e24, qtp0e25, qtp0e26, qtp0e27, qtp0e28
theorem prm41_ok (E : Env) (hE : E.fn = fns) : PrmOk E (prm41 Tryd.prog) where
  bt := by intro b hb; rw [hE]; exact btQ_ok b hb
  ct := by
    intro c hc
    have : c = ct46n ∨ c = ct46t := by simpa [prm41] using hc
    rw [hE]
    rcases this with rfl | rfl
    · exact ct46n_ok
    · exact ct46t_ok
  mix := Checked.mixed Tryd.checked
  okf := okf_call
  body := okf_body
  mts := by intro x hx; cases hx
  dfr := by intro x hx; cases hx
  dfk := by intro x hx; cases hx
def qOf (E : Env) : List Int := lst (E.a 0) (E.i 0).toNat
structure P41 (E : Env) : Prop where
  n0 : 0 ≤ E.i 0
  n1 : E.i 0 ≤ 50
  s0 : 0 ≤ E.i 1
  s1 : E.i 1 ≤ 255
  p0 : 0 ≤ E.i 15
  ps : E.i 15 ≤ E.i 1
  c0 : 0 ≤ E.i 10
  c1 : E.i 10 ≤ 255
  h0 : 0 ≤ E.i 11
  e2 : E.i 2 = E.i 1
  e3 : E.i 3 = E.i 1
  q : QOk (E.a 0) (E.i 0).toNat (E.i 10) (E.i 11)
theorem pre41 {E : Env} {tok : SV} {ex : List SBlk} (hE : E.fn = fns) (hF : Facts E (ct41 tok ex).pre) : P41 E := by
  have hF' : Facts E [((.le (.c 0) (.v 0)), true), ((.le (.v 0) (.c 50)), true), ((.le (.c 0) (.v 1)), true), ((.le (.v 1) (.c 255)), true), ((.le (.c 0) (.v 15)), true), ((.le (.v 15) (.c 255)), true), ((.le (.c 0) (.v 10)), true), ((.le (.v 10) (.c 255)), true), ((.le (.c 0) (.v 11)), true), ((.le (.v 11) (.c 255)), true), ((.le (.c 0) (.v 12)), true), ((.le (.v 12) (.c 4294967295)), true), ((.le (.c 4) (.v 9)), true), ((.le (.v 9) (.c 18)), true), ((.le (.v 15) (.v 1)), true), ((.eq (.v 2) (.v 1)), true), ((.eq (.v 3) (.v 1)), true), ((.ap 2 (.a (.v 0) (.i (.v 0) (.i (.v 10) (.i (.v 11) .nil))))), true)] := hF
  simp only [facts_cons, facts_nil, le_t, eq_t, d_c, d_v, and_true] at hF'
  obtain ⟨a1, a2, a3, a4, a5, a6, a7, a8, a9, a10, a11, a12, a13, a14, a15, a16, a17, a18⟩ := hF'
  refine ⟨a1, a2, a3, a4, a5, a15, a7, a8, a9, a16, a17, ?_⟩
  have e' : E.fn.g 2 [.a ((AE.v 0).den E), .i (E.i 0), .i (E.i 10), .i (E.i 11)] = true := a18
  rw [hE] at e'
  have e2 : @decide (QOk ((AE.v 0).den E) (E.i 0).toNat (E.i 10) (E.i 11)) (Classical.propDecidable _) = true := e'
  exact @of_decide_eq_true _ (Classical.propDecidable _) e2
variable {E0 E : Env}
theorem s10 (hE : E0.fn = fns) : (SE.ap 10 sl6).den E0 = ((adQ (qOf E0) (E0.i 10) (E0.i 11) (E0.i 1) (E0.i 15)).length : Int) := by simp only [SE.den, sl6, SL.den, hE]; rfl
theorem a10 (hE : E0.fn = fns) : (AE.ap 10 sl6).den E0 = arr (adQ (qOf E0) (E0.i 10) (E0.i 11) (E0.i 1) (E0.i 15)) := by funext j; simp only [AE.den, sl6, SL.den, SE.den, hE]; rfl
theorem s11 (hE : E0.fn = fns) : (SE.ap 11 sl6).den E0 = adA (qOf E0) (E0.i 10) (E0.i 11) (E0.i 1) (E0.i 15) := by simp only [SE.den, sl6, SL.den, hE]; rfl
theorem s12 (hE : E0.fn = fns) : (SE.ap 12 sl4).den E0 = adH (E0.i 10) (E0.i 11) (E0.i 1) (E0.i 15) := by simp only [SE.den, sl4, SL.den, hE]; rfl
theorem s13 (hE : E0.fn = fns) : (SE.ap 13 sl6).den E0 = ((adR (qOf E0) (E0.i 10) (E0.i 11) (E0.i 1) (E0.i 15)).length : Int) := by simp only [SE.den, sl6, SL.den, hE]; rfl
theorem a13 (hE : E0.fn = fns) : (AE.ap 13 sl6).den E0 = arr (adR (qOf E0) (E0.i 10) (E0.i 11) (E0.i 1) (E0.i 15)) := by funext j; simp only [AE.den, sl6, SL.den, SE.den, hE]; rfl
theorem g10 (hE : E0.fn = fns) : (SB.ap 10 sl4).den E0 = adU (E0.i 10) (E0.i 11) (E0.i 1) (E0.i 15) := by simp only [SB.den, sl4, SL.den, SE.den, hE]; rfl
theorem q_ok (hE0 : E0.fn = fns) (hE : E.fn = fns) (h9 : E.i 9 = E0.i 9) {Q : List Int} (hQ : adQ (qOf E0) (E0.i 10) (E0.i 11) (E0.i 1) (E0.i 15) = Q) {N : SE} {A : AE} (hn : N.den E = (Q.length : Int)) (hA : ∀ j, j < Q.length → A.den E j = arr Q j) :
    (Eqn.p 1002 (.i N (.i (.v 9) (.a A .nil))) (.i (.ap 10 sl6) (.i (.v 9) (.a (.ap 10 sl6) .nil)))).ok E E0 := by
  refine Eqn.qu qok hE hE0 (by rw [hn, s10 hE0, hQ]) h9 fun j hj => ?_
  rw [s10 hE0, hQ, Int.toNat_natCast] at hj
  rw [a10 hE0, hQ]; exact hA j hj
theorem r_ok (hE0 : E0.fn = fns) {G : List Int} (hG : adR (qOf E0) (E0.i 10) (E0.i 11) (E0.i 1) (E0.i 15) = G) {N : SE} {A : AE} (hn : N.den E = (G.length : Int)) (hA : ∀ j, j < G.length → A.den E j = arr G j) :
    (Eqn.a A (.ap 13 sl6) (.ap 13 sl6) 1).ok E E0 ∧ (Eqn.i N (.ap 13 sl6)).ok E E0 := by
  refine ⟨fun j hj => ?_, ?_⟩
  · rw [s13 hE0, hG, Int.toNat_natCast, Nat.mul_one] at hj
    rw [a13 hE0, hG]; exact hA j hj
  · show N.den E = _
    rw [s13 hE0, hG, hn]
theorem h_ok (hE0 : E0.fn = fns) {x : Int} (hx : adH (E0.i 10) (E0.i 11) (E0.i 1) (E0.i 15) = x) {N : SE} (hn : N.den E = x) : (Eqn.i N (.ap 12 sl4)).ok E E0 := by
  show N.den E = _
  rw [s12 hE0, hx, hn]
theorem alt0 {tok : SV} {ex : List SBlk} (hE0 : E0.fn = fns) (h : adU (E0.i 10) (E0.i 11) (E0.i 1) (E0.i 15) = false) : altSel E0 (ct41 tok ex).alts = (ct41 tok ex).alts[0]? := by
  have : (SB.not (.ap 10 sl4)).den E0 = true := by simp only [SB.den]; rw [show E0.fn.g 10 (sl4.den E0) = (SB.ap 10 sl4).den E0 from rfl, g10 hE0, h]; rfl
  simp only [ct41, altSel, this, if_true, List.getElem?_cons_zero]
theorem alt1 {tok : SV} {ex : List SBlk} (hE0 : E0.fn = fns) (h : adU (E0.i 10) (E0.i 11) (E0.i 1) (E0.i 15) = true) : altSel E0 (ct41 tok ex).alts = (ct41 tok ex).alts[1]? := by
  have : (SB.not (.ap 10 sl4)).den E0 = false := by simp only [SB.den]; rw [show E0.fn.g 10 (sl4.den E0) = (SB.ap 10 sl4).den E0 from rfl, g10 hE0, h]; rfl
  simp only [ct41, altSel, this, if_true, List.getElem?_cons_zero, List.getElem?_cons_succ, Bool.false_eq_true, if_false]
  rfl
theorem late_of {q : List Int} {act hi s p : Int} (h : s < act ∨ s < hi) : adU act hi s p = false ∧ adQ q act hi s p = q ∧ adH act hi s p = hi ∧ adR q act hi s p = [s] := by
  have ht : adT act hi s = true := by simp only [adT, decide_eq_true_eq]; exact h
  refine ⟨?_, ?_, ?_, ?_⟩
  · simp [adU, ht]
  · simp [adQ, ht]
  · simp [adH, ht]
  · simp [adR, ht]
theorem on_of {q : List Int} {act hi s p : Int} (h : ¬ (s < act ∨ s < hi)) (hu : ¬ (s ≠ act ∧ act < p)) : adU act hi s p = false ∧ adQ q act hi s p = adP q act s p ∧ adH act hi s p = max hi p ∧ adR q act hi s p = gq q p := by
  have ht : adT act hi s = false := by simp only [adT, decide_eq_false_iff_not]; exact h
  have hu' : adU act hi s p = false := by simp only [adU, ht, Bool.not_false, Bool.true_and, decide_eq_false_iff_not]; exact hu
  refine ⟨hu', ?_, ?_, ?_⟩
  · simp [adQ, ht, hu']
  · simp [adH, ht, hu']
  · simp [adR, ht, hu']
theorem up_of {q : List Int} {act hi s p : Int} (h : ¬ (s < act ∨ s < hi)) (hu : s ≠ act ∧ act < p) : adU act hi s p = true ∧ adQ q act hi s p = (putL (kq q p) s).tail ∧ adA q act hi s p = (putL (kq q p) s).headD 0 ∧ adH act hi s p = max (max hi p) act ∧ adR q act hi s p = gq q p ++ [act] := by
  have ht : adT act hi s = false := by simp only [adT, decide_eq_false_iff_not]; exact h
  have hu' : adU act hi s p = true := by simp only [adU, ht, Bool.not_false, Bool.true_and, decide_eq_true_eq]; exact hu
  have hP : adP q act s p = putL (kq q p) s := by simp [adP, hu.1]
  refine ⟨hu', ?_, ?_, ?_, ?_⟩
  · simp [adQ, ht, hu', hP]
  · simp [adA, hu', hP]
  · simp [adH, ht, hu']
  · simp [adR, ht, hu']
theorem QOk.q {A : Nat → Int} {n : Nat} {act hi : Int} (h : QOk A n act hi) {p : Int} (hp : p ≤ hi) : kq (lst A n) p = lst A n ∧ gq (lst A n) p = [] := kq_all fun x hx => by
  obtain ⟨j, hj, rfl⟩ := mem_lst hx
  have := (h.2.2.2 j hj).2
  omega
theorem qOf_len (h0 : 0 ≤ E0.i 0) : ((qOf E0).length : Int) = E0.i 0 := by unfold qOf; rw [lst_len]; omega
theorem qOf_arr {j : Nat} (hj : j < (qOf E0).length) : (AE.v 0).den E0 j = arr (qOf E0) j := by
  unfold qOf at hj ⊢
  rw [lst_len] at hj
  rw [arr_lst hj, d_av]
theorem nil_ok (hE0 : E0.fn = fns) (hG : adR (qOf E0) (E0.i 10) (E0.i 11) (E0.i 1) (E0.i 15) = []) : (Eqn.i (.c 0) (.ap 13 sl6)).ok E E0 := by
  show (0 : Int) = _
  rw [s13 hE0, hG]; rfl
theorem one_ok (hE0 : E0.fn = fns) {s : Int} (hG : adR (qOf E0) (E0.i 10) (E0.i 11) (E0.i 1) (E0.i 15) = [s]) (hs : E.i 1 = s) : (Eqn.a (.tl (.v 0) (.c 0) (.i (.v 1) .nil)) (.ap 13 sl6) (.ap 13 sl6) 1).ok E E0 ∧ (Eqn.i (.c 1) (.ap 13 sl6)).ok E E0 := by
  refine r_ok hE0 hG rfl fun j hj => ?_
  have : j = 0 := by simpa using hj
  subst this
  simp only [AE.den, SE.den, Int.toNat_zero, Nat.not_lt_zero, if_false]
  show E.i 1 = _
  rw [hs]; rfl
theorem putq_ok (hE : E0.fn = fns) (h : P41 E0) : (f3 5 (.v 0) (.v 0) (.v 1)).den E0 = ((putL (qOf E0) (E0.i 1)).length : Int) ∧ ∀ j, j < (putL (qOf E0) (E0.i 1)).length → (a3 5 (.v 0) (.v 0) (.v 1)).den E0 j = arr (putL (qOf E0) (E0.i 1)) j := by
  have hA : (AE.v 0).den E0 = arr (qOf E0) := by
    rw [show (AE.v 0).den E0 = E0.a 0 from by funext j; simp only [AE.den]]
    exact h.q.2.1
  have hl : (E0.i 0).toNat = (qOf E0).length := by unfold qOf; rw [lst_len]
  have e := f3_den hE (.v 0) (.v 0) (.v 1)
  rw [d_v, hA, hl, d_v] at e
  refine ⟨by rw [e.1, putL_len], fun j hj => ?_⟩
  rw [putL_len] at hj
  rw [e.2.2, arr_putL hj]
structure I41 (E0 E : Env) (i : Nat) : Prop where
  ag : AgP 100 E0 E
  i133 : E.i 133 = i
  le : i ≤ (E0.i 0).toNat
  h130 : E.i 130 = ((kq (lst (E0.a 0) i) (E0.i 15)).length : Int)
  a120 : E.i 130 = 0 ∨ E.a 120 = arr (kq (lst (E0.a 0) i) (E0.i 15))
  h132 : E.i 132 = ((gq (lst (E0.a 0) i) (E0.i 15)).length : Int)
  a121 : ∀ j, j < (gq (lst (E0.a 0) i) (E0.i 15)).length → E.a 121 j = arr (gq (lst (E0.a 0) i) (E0.i 15)) j
  hp : E0.i 11 < E0.i 15
  ht : ¬ (E0.i 1 < E0.i 10 ∨ E0.i 1 < E0.i 11)
theorem tl_arr {a n : Nat} {x : SE} {l : List Int} {X : Int} (hn : E.i n = (l.length : Int)) (hA : ∀ j, j < l.length → E.a a j = arr l j) (hx : x.den E = X) : (AE.tl (.v a) (.v n) (.i x .nil)).den E = arr (l ++ [X]) := by
  funext j
  rw [arr_app]
  simp only [AE.den, SE.den, hn, Int.toNat_natCast]
  split
  · rename_i h; exact hA j h
  · rename_i h
    by_cases h2 : j - l.length = 0
    · rw [h2]; show x.den E = X; exact hx
    · obtain ⟨m, hm⟩ : ∃ m, j - l.length = m + 1 := ⟨j - l.length - 1, by omega⟩
      rw [hm]; rfl
theorem kq_le (l : List Int) (p : Int) : (kq l p).length ≤ l.length := List.length_filter_le ..
theorem gq_le (l : List Int) (p : Int) : (gq l p).length ≤ l.length := List.length_filter_le ..
theorem putk_ok (hE : E.fn = fns) {K : List Int} (hn : E.i 130 = (K.length : Int)) (hA : E.i 130 = 0 ∨ E.a 120 = arr K) : (f3 5 (.v 120) (.v 130) (.v 1)).den E = ((putL K (E.i 1)).length : Int) ∧ (∀ j, j < (putL K (E.i 1)).length → (a3 5 (.v 120) (.v 130) (.v 1)).den E j = arr (putL K (E.i 1)) j) := by
  have e := f3_den hE (.v 120) (.v 130) (.v 1)
  rw [show (AE.v 120).den E = E.a 120 from by funext j; simp only [AE.den], d_v, hn, Int.toNat_natCast, d_v] at e
  have key : putN (E.a 120) K.length (E.i 1) = putN (arr K) K.length (E.i 1) ∧ putA (E.a 120) K.length (E.i 1) = putA (arr K) K.length (E.i 1) := by
    rcases hA with h | h
    · have h0 : K.length = 0 := by omega
      rw [h0]; exact put_zero _ _ _
    · rw [h]; exact ⟨rfl, rfl⟩
  rw [key.1] at e
  refine ⟨by rw [e.1, putL_len], fun j hj => ?_⟩
  rw [putL_len] at hj
  rw [e.2.2, key.2, arr_putL hj]
theorem bits0 {x : Int} (h0 : 0 ≤ x) (h1 : x ≤ 9223372036854775807) : bits .or .i64 0 x = x := by
  show IntKind.i64.wrap ((BitVec.ofInt 64 0 ||| BitVec.ofInt 64 x).toNat : Int) = _
  have e : (BitVec.ofInt 64 0 ||| BitVec.ofInt 64 x) = BitVec.ofInt 64 x := by
    rw [show BitVec.ofInt 64 0 = 0#64 from rfl, BitVec.zero_or]
  rw [e, BitVec.toNat_ofInt, IntKind.wrap_i64]
  omega
theorem ct41n_ok : CtOk Tryd.prog fns ct41n := by
  refine ct_of_pts (p := prm41 Tryd.prog) (pts := pts41 Tryd.prog .nilptr []) (n := 900) (c0 := enterD (prm41 Tryd.prog) ct41n) (fun E hE => prm41_ok E hE) rfl (by intro q hq; cases hq) Tryd.func41 (by kernel_rfl) ?_ (fun E0 _ E => ∃ i, I41 E0 E i) (fun E0 _ E => (E0.i 0 - E.i 133).toNat) qnals (by kernel_rfl) ?_ ?_
  · intro t ht
    simp only [pts41, List.mem_cons, List.not_mem_nil, or_false] at ht
    subst ht
    exact ⟨by kernel_rfl, by decide⟩
  · intro E hE hF
    have h := pre41 (tok := .nilptr) (ex := []) hE hF
    have H : AgP 100 E E := AgP.refl 100 E
    have hsrt : (srt (.v 0) (.v 0)).1.den E = true := by
      show E.fn.g 1 [.a ((AE.v 0).den E), .i (E.i 0)] = true
      rw [hE]
      show @decide (Srt ((AE.v 0).den E) (E.i 0).toNat) (Classical.propDecidable _) = true
      rw [show (AE.v 0).den E = E.a 0 from by funext j; simp only [AE.den]]
      exact @decide_eq_true _ (Classical.propDecidable _) h.q.1
    refine ⟨fun a ha => ?_, fun x hx => ?_⟩
    · have : ∀ a ∈ ct41n.alts, a.facts = [] := by decide
      have hm : a ∈ ct41n.alts := by
        unfold ct41n ct41 at ha ⊢
        simp only [altSel] at ha
        split at ha
        · cases ha; simp
        · split at ha
          · cases ha; simp
          · cases ha
      rw [this a hm]; intro q hq; cases hq
    · unfold qnals at hx
      simp only [List.mem_cons, List.not_mem_nil, or_false] at hx
      have late : (E.i 1 < E.i 10 ∨ E.i 1 < E.i 11) → altSel E ct41n.alts = ct41n.alts[0]? ∧ (Eqn.i (.v 11) (.ap 12 sl4)).ok E E ∧ (Eqn.p 1002 (.i (.v 0) (.i (.v 9) (.a (.v 0) .nil))) (.i (.ap 10 sl6) (.i (.v 9) (.a (.ap 10 sl6) .nil)))).ok E E ∧ (Eqn.a (.tl (.v 0) (.c 0) (.i (.v 1) .nil)) (.ap 13 sl6) (.ap 13 sl6) 1).ok E E ∧ (Eqn.i (.c 1) (.ap 13 sl6)).ok E E := fun hl => by
        obtain ⟨k1, k2, k3, k4⟩ := late_of (q := qOf E) (p := E.i 15) hl
        exact ⟨alt0 hE k1, h_ok hE k3 rfl, q_ok hE hE rfl k2 (qOf_len h.n0).symm fun j hj => qOf_arr hj, one_ok hE k4 rfl⟩
      have same : ¬ (E.i 1 < E.i 10 ∨ E.i 1 < E.i 11) → E.i 15 ≤ E.i 11 → E.i 1 = E.i 10 → altSel E ct41n.alts = ct41n.alts[0]? ∧ (Eqn.i (.v 11) (.ap 12 sl4)).ok E E ∧ (Eqn.p 1002 (.i (.v 0) (.i (.v 9) (.a (.v 0) .nil))) (.i (.ap 10 sl6) (.i (.v 9) (.a (.ap 10 sl6) .nil)))).ok E E ∧ (Eqn.i (.c 0) (.ap 13 sl6)).ok E E := fun hl hp hs => by
        obtain ⟨k1, k2, k3, k4⟩ := on_of (q := qOf E) (p := E.i 15) hl (fun hh => hh.1 hs)
        obtain ⟨m1, m2⟩ := h.q.q hp
        have hP : adP (qOf E) (E.i 10) (E.i 1) (E.i 15) = qOf E := by unfold adP; rw [if_pos hs]; exact m1
        rw [hP] at k2
        rw [show gq (qOf E) (E.i 15) = [] from m2] at k4
        exact ⟨alt0 hE k1, h_ok hE k3 (by rw [d_v]; omega), q_ok hE hE rfl k2 (qOf_len h.n0).symm fun j hj => qOf_arr hj, nil_ok hE k4⟩
      have new : ¬ (E.i 1 < E.i 10 ∨ E.i 1 < E.i 11) → E.i 15 ≤ E.i 11 → E.i 1 ≠ E.i 10 → altSel E ct41n.alts = ct41n.alts[0]? ∧ (Eqn.i (.v 11) (.ap 12 sl4)).ok E E ∧ (Eqn.p 1002 (.i (f3 5 (.v 0) (.v 0) (.v 1)) (.i (.v 9) (.a (a3 5 (.v 0) (.v 0) (.v 1)) .nil))) (.i (.ap 10 sl6) (.i (.v 9) (.a (.ap 10 sl6) .nil)))).ok E E ∧ (Eqn.i (.c 0) (.ap 13 sl6)).ok E E := fun hl hp hs => by
        have hq := h.q.2.2.1
        obtain ⟨k1, k2, k3, k4⟩ := on_of (q := qOf E) (p := E.i 15) hl (fun hh => by omega)
        obtain ⟨m1, m2⟩ := h.q.q hp
        have hP : adP (qOf E) (E.i 10) (E.i 1) (E.i 15) = putL (qOf E) (E.i 1) := by unfold adP; rw [if_neg hs]; rw [show kq (qOf E) (E.i 15) = qOf E from m1]
        rw [hP] at k2
        rw [show gq (qOf E) (E.i 15) = [] from m2] at k4
        obtain ⟨u1, u2⟩ := putq_ok hE h
        exact ⟨alt0 hE k1, h_ok hE k3 (by rw [d_v]; omega), q_ok hE hE rfl k2 u1 u2, nil_ok hE k4⟩
      have nl : (SB.lt (.v 1) qnae6).den E = false → (SB.lt (.v 1) (.v 11)).den E = false → ¬ (E.i 1 < E.i 10 ∨ E.i 1 < E.i 11) := fun h1 h2 => by
        rw [lt_f] at h1 h2
        have h1' : imx (E.i 10) 0 ≤ E.i 1 := h1
        rw [d_v, d_v] at h2
        unfold imx at h1'
        split at h1' <;> omega
      have ne : (SB.eq (.v 1) (.v 10)).den E = false → E.i 1 ≠ E.i 10 := fun h1 => by simpa [SB.den, SE.den] using h1
      rcases hx with rfl | rfl | rfl | rfl | rfl | rfl | rfl | rfl | rfl | rfl
      · intro hf
        have h1 := hf (SB.lt (.v 1) qnae6, true) (by simp)
        rw [lt_t] at h1
        have h1' : E.i 1 < imx (E.i 10) 0 := h1
        obtain ⟨r1, r2, r3, r4, r5⟩ := late (by
          have := h.s0
          unfold imx at h1'
          split at h1' <;> omega)
        exact ⟨r1, by (simp only [List.forall_mem_cons, List.not_mem_nil, false_imp_iff, implies_true, and_true]; (repeat' apply And.intro); all_goals (first | exact Eqn.i_ag (n := 100) (by assumption) _ rfl | exact Eqn.b_ag (n := 100) (by assumption) _ rfl | assumption))⟩
      · intro hf
        have h1 := hf (SB.lt (.v 1) (.v 11), true) (by simp)
        rw [lt_t, d_v, d_v] at h1
        obtain ⟨r1, r2, r3, r4, r5⟩ := late (.inr h1)
        exact ⟨r1, by (simp only [List.forall_mem_cons, List.not_mem_nil, false_imp_iff, implies_true, and_true]; (repeat' apply And.intro); all_goals (first | exact Eqn.i_ag (n := 100) (by assumption) _ rfl | exact Eqn.b_ag (n := 100) (by assumption) _ rfl | assumption))⟩
      · intro hf
        have h1 := hf (SB.eq (.v 15) (.c 0), true) (by simp)
        have h2 := hf (SB.eq (.v 1) (.v 10), true) (by simp)
        simp only [eq_t, d_v, d_c] at h1 h2
        obtain ⟨r1, r2, r3, r4⟩ := same (nl (hf (SB.lt (.v 1) qnae6, false) (by simp)) (hf (SB.lt (.v 1) (.v 11), false) (by simp))) (by have := h.h0; omega) h2
        exact ⟨r1, by (simp only [List.forall_mem_cons, List.not_mem_nil, false_imp_iff, implies_true, and_true]; (repeat' apply And.intro); all_goals (first | exact Eqn.i_ag (n := 100) (by assumption) _ rfl | exact Eqn.b_ag (n := 100) (by assumption) _ rfl | assumption))⟩
      · intro hf
        have h1 := hf (SB.eq (.v 15) (.c 0), true) (by simp)
        simp only [eq_t, d_v, d_c] at h1
        obtain ⟨r1, r2, r3, r4⟩ := new (nl (hf (SB.lt (.v 1) qnae6, false) (by simp)) (hf (SB.lt (.v 1) (.v 11), false) (by simp))) (by have := h.h0; omega) (ne (hf (SB.eq (.v 1) (.v 10), false) (by simp)))
        exact ⟨r1, by (simp only [List.forall_mem_cons, List.not_mem_nil, false_imp_iff, implies_true, and_true]; (repeat' apply And.intro); all_goals (first | exact Eqn.i_ag (n := 100) (by assumption) _ rfl | exact Eqn.b_ag (n := 100) (by assumption) _ rfl | assumption))⟩
      · intro hf
        have h1 := hf ((srt (.v 0) (.v 0)).1, false) (by simp [srt])
        rw [hsrt] at h1; cases h1
      · intro hf
        have h1 := hf (SB.lt (.v 11) (.v 15), true) (by simp)
        simp only [lt_t, d_v] at h1
        refine ⟨⟨_, rfl, .inl ⟨rfl, rfl⟩⟩, fun o => ⟨⟨0, (AgP.refl 100 E).put o, rfl, Nat.zero_le _, rfl, .inl rfl, rfl, (fun j hj => absurd hj (Nat.not_lt_zero _)), h1, nl (hf (SB.lt (.v 1) qnae6, false) (by simp)) (hf (SB.lt (.v 1) (.v 11), false) (by simp))⟩, fun b hb => by cases hb⟩⟩
      · intro hf
        have h1 := hf (SB.lt (.v 11) (.v 15), false) (by simp)
        have h2 := hf (SB.eq (.v 1) (.v 10), true) (by simp)
        simp only [lt_f, eq_t, d_v] at h1 h2
        obtain ⟨r1, r2, r3, r4⟩ := same (nl (hf (SB.lt (.v 1) qnae6, false) (by simp)) (hf (SB.lt (.v 1) (.v 11), false) (by simp))) h1 h2
        exact ⟨r1, by (simp only [List.forall_mem_cons, List.not_mem_nil, false_imp_iff, implies_true, and_true]; (repeat' apply And.intro); all_goals (first | exact Eqn.i_ag (n := 100) (by assumption) _ rfl | exact Eqn.b_ag (n := 100) (by assumption) _ rfl | assumption))⟩
      · intro hf
        have h1 := hf (SB.lt (.v 11) (.v 15), false) (by simp)
        have h2 := hf (SB.lt (.v 10) (.v 15), true) (by simp)
        simp only [lt_f, lt_t, d_v] at h1 h2
        have := h.q.2.2.1
        omega
      · intro hf
        have h1 := hf (SB.lt (.v 11) (.v 15), false) (by simp)
        simp only [lt_f, d_v] at h1
        obtain ⟨r1, r2, r3, r4⟩ := new (nl (hf (SB.lt (.v 1) qnae6, false) (by simp)) (hf (SB.lt (.v 1) (.v 11), false) (by simp))) h1 (ne (hf (SB.eq (.v 1) (.v 10), false) (by simp)))
        exact ⟨r1, by (simp only [List.forall_mem_cons, List.not_mem_nil, false_imp_iff, implies_true, and_true]; (repeat' apply And.intro); all_goals (first | exact Eqn.i_ag (n := 100) (by assumption) _ rfl | exact Eqn.b_ag (n := 100) (by assumption) _ rfl | assumption))⟩
      · intro hf
        have h1 := hf ((srt (.v 0) (.v 0)).1, false) (by simp [srt])
        rw [hsrt] at h1; cases h1
  · intro k t ht
    have hk : k = 0 := by
      have := (List.getElem?_eq_some_iff.1 ht).1
      simp [pts41] at this; omega
    subst hk
    refine ⟨qnp0ls, by rw [← ptD_some ht ct41n.g]; exact qnp0run, fun E0 E hE0 hE hF0 ⟨i, hI⟩ => ?_⟩
    have h := pre41 (tok := .nilptr) (ex := []) hE0 hF0
    have H := hI.ag
    obtain ⟨n, hn⟩ : ∃ n : Nat, E0.i 0 = n := ⟨(E0.i 0).toNat, by have := h.n0; omega⟩
    have hnt : (E0.i 0).toNat = n := by omega
    have hn50 : n ≤ 50 := by have := h.n1; omega
    have h133 := hI.i133; have h130 := hI.h130; have h132 := hI.h132; have hle := hI.le
    rw [hnt] at hle
    have hk := kq_le (lst (E0.a 0) i) (E0.i 15); have hg := gq_le (lst (E0.a 0) i) (E0.i 15)
    rw [lst_len] at hk hg
    have q0 := H.i 0 (by decide); have q1 := H.i 1 (by decide); have q9 := H.i 9 (by decide); have q10 := H.i 10 (by decide); have q11 := H.i 11 (by decide); have q15 := H.i 15 (by decide)
    have qa : E.a 0 = E0.a 0 := H.a 0 (by decide)
    have hup : Up (kq (lst (E0.a 0) i) (E0.i 15)) := up_kq (srt_lst ⟨fun j hj => h.q.1.1 j (by omega), fun j k hj hk => h.q.1.2 j k hj (by omega)⟩) _
    have hsrt : (srt (.v 120) (.v 130)).1.den E = true := by
      show E.fn.g 1 [.a ((AE.v 120).den E), .i (E.i 130)] = true
      rw [hE]
      show @decide (Srt ((AE.v 120).den E) (E.i 130).toNat) (Classical.propDecidable _) = true
      rw [show (AE.v 120).den E = E.a 120 from by funext j; simp only [AE.den], h130, Int.toNat_natCast]
      refine @decide_eq_true _ (Classical.propDecidable _) ?_
      rcases hI.a120 with h0 | h0
      · have : (kq (lst (E0.a 0) i) (E0.i 15)).length = 0 := by omega
        rw [this]; exact ⟨fun j hj => absurd hj (Nat.not_lt_zero _), fun i j _ hj => absurd hj (Nat.not_lt_zero _)⟩
      · rw [h0]; exact srt_arr hup
    refine ⟨?_, fun x hx => ?_⟩
    · obtain rfl := Option.some.inj ht
      refine facts_append (facts_append (facts_append (facts_append (H.facts (by decide) hF0) ?_) ?_) ?_) ?_
      · show Facts E [((.le (.c 0) (.v 133)), true), ((.le (.v 133) (.c 50)), true)]
        simp only [facts_cons, facts_nil, le_t, d_c, d_v, and_true]; omega
      · show Facts E [((.le (.c 0) (.v 130)), true), ((.le (.v 130) (.c 50)), true)]
        simp only [facts_cons, facts_nil, le_t, d_c, d_v, and_true]; omega
      · show Facts E [((.le (.c 0) (.v 132)), true), ((.le (.v 132) (.c 50)), true)]
        simp only [facts_cons, facts_nil, le_t, d_c, d_v, and_true]; omega
      · show Facts E [((.lt (.v 11) (.v 15)), true), ((.lt (.v 1) (.v 10)), false), ((.lt (.v 1) (.v 11)), false), ((srt (.v 120) (.v 130)).1, true)]
        have := hI.hp; have := hI.ht
        simp only [facts_cons, facts_nil, lt_t, lt_f, d_c, d_v, and_true, q1, q10, q11, q15]
        exact ⟨by omega, by omega, by omega, hsrt⟩
    · unfold qnp0ls at hx
      simp only [List.mem_cons, List.not_mem_nil, or_false] at hx
      have hlt : (SB.lt (.v 133) (.v 0)).den E = true → i < n := fun h => by simp only [lt_t, d_v] at h; omega
      have hrd : qnp0e2.den E = E0.a 0 i := by
        show E.a 0 (E.i 133).toNat = _
        rw [qa, h133]; rfl
      have hend : (SB.lt (.v 133) (.v 0)).den E = false → lst (E0.a 0) i = qOf E0 := fun h => by
        simp only [lt_f, d_v] at h
        unfold qOf
        rw [hnt, show i = n by omega]
      rcases hx with rfl | rfl | rfl | rfl | rfl | rfl
      · intro hf
        have h1 := hf (SB.le (.v 15) qnp0e2, true) (by simp)
        have h2 := hlt (hf (SB.lt (.v 133) (.v 0), true) (by simp))
        rw [le_t, hrd, d_v, q15] at h1
        have ek : kq (lst (E0.a 0) (i + 1)) (E0.i 15) = kq (lst (E0.a 0) i) (E0.i 15) ++ [E0.a 0 i] := by rw [lst_succ, kq_snoc, if_pos h1]
        have eg : gq (lst (E0.a 0) (i + 1)) (E0.i 15) = gq (lst (E0.a 0) i) (E0.i 15) := by rw [lst_succ, gq_snoc, if_pos h1]
        refine ⟨⟨_, rfl, .inr ⟨rfl, rfl⟩⟩, fun o => ⟨⟨i + 1, H.put o, ?_, by rw [hnt]; omega, ?_, .inr ?_, ?_, ?_, hI.hp, hI.ht⟩, fun b hb => ?_⟩⟩
        · show E.i 133 + 1 = _
          omega
        · show E.i 130 + 1 = _
          rw [ek, List.length_append, h130]; rfl
        · rw [ek]
          refine tl_arr (E := E) h130 (fun j hj => ?_) hrd
          rcases hI.a120 with h0 | h0
          · omega
          · rw [h0]
        · rw [eg]; exact h132
        · rw [eg]; exact hI.a121
        · obtain rfl := Option.some.inj hb
          show (E0.i 0 - (E.i 133 + 1)).toNat < _
          omega
      · intro hf
        have h1 := hf (SB.le (.v 15) qnp0e2, false) (by simp)
        have h2 := hlt (hf (SB.lt (.v 133) (.v 0), true) (by simp))
        rw [le_f, hrd, d_v, q15] at h1
        have h1' := Int.not_le.2 h1
        have ek : kq (lst (E0.a 0) (i + 1)) (E0.i 15) = kq (lst (E0.a 0) i) (E0.i 15) := by rw [lst_succ, kq_snoc, if_neg h1']
        have eg : gq (lst (E0.a 0) (i + 1)) (E0.i 15) = gq (lst (E0.a 0) i) (E0.i 15) ++ [E0.a 0 i] := by rw [lst_succ, gq_snoc, if_neg h1']
        refine ⟨⟨_, rfl, .inr ⟨rfl, rfl⟩⟩, fun o => ⟨⟨i + 1, H.put o, ?_, by rw [hnt]; omega, ?_, ?_, ?_, fun j hj => ?_, hI.hp, hI.ht⟩, fun b hb => ?_⟩⟩
        · show E.i 133 + 1 = _
          omega
        · rw [ek]; exact h130
        · rw [ek]; exact hI.a120
        · show E.i 132 + 1 = _
          rw [eg, List.length_append, h132]; rfl
        · rw [eg]
          exact congrFun (tl_arr (E := E) h132 hI.a121 hrd) j
        · obtain rfl := Option.some.inj hb
          show (E0.i 0 - (E.i 133 + 1)).toNat < _
          omega
      · intro hf
        have h2 := hend (hf (SB.lt (.v 133) (.v 0), false) (by simp))
        have h1 := hf (SB.eq (.v 1) (.v 10), true) (by simp)
        simp only [eq_t, d_v, q1, q10] at h1
        rw [h2] at h130 h132
        have ha := hI.a120; have hb := hI.a121
        rw [h2] at ha hb
        obtain ⟨k1, k2, k3, k4⟩ := on_of (q := qOf E0) (p := E0.i 15) hI.ht (fun hh => hh.1 h1)
        have hP : adP (qOf E0) (E0.i 10) (E0.i 1) (E0.i 15) = kq (qOf E0) (E0.i 15) := by unfold adP; rw [if_pos h1]
        rw [hP] at k2
        have r2 : (Eqn.i (.v 15) (.ap 12 sl4)).ok E E0 := h_ok hE0 k3 (by rw [d_v, q15]; have := hI.hp; omega)
        have r3 : (Eqn.p 1002 (.i (.v 130) (.i (.v 9) (.a (.v 120) .nil))) (.i (.ap 10 sl6) (.i (.v 9) (.a (.ap 10 sl6) .nil)))).ok E E0 := q_ok hE0 hE q9 k2 h130 fun j hj => by
          rcases ha with h0 | h0
          · omega
          · rw [d_av, h0]
        obtain ⟨r4, r5⟩ := r_ok (E := E) hE0 k4 (N := .v 132) (A := .v 121) h132 fun j hj => by rw [d_av]; exact hb j hj
        exact ⟨alt0 hE0 k1, by (simp only [List.forall_mem_cons, List.not_mem_nil, false_imp_iff, implies_true, and_true]; (repeat' apply And.intro); all_goals (first | exact Eqn.i_ag (n := 100) (by assumption) _ rfl | exact Eqn.b_ag (n := 100) (by assumption) _ rfl | assumption))⟩
      · intro hf
        have h2 := hend (hf (SB.lt (.v 133) (.v 0), false) (by simp))
        have h1 := hf (SB.eq (.v 1) (.v 10), false) (by simp)
        have h1 : ¬ E.i 1 = E.i 10 := by simpa [SB.den, SE.den] using h1
        have h3 := hf (SB.lt (.v 10) (.v 15), true) (by simp)
        simp only [lt_t, d_v, q15, q10] at h3
        rw [q1, q10] at h1
        rw [h2] at h130 h132
        have ha := hI.a120; have hb := hI.a121
        rw [h2] at ha hb hup
        obtain ⟨k1, k2, k3, k4, k5⟩ := up_of (q := qOf E0) (p := E0.i 15) hI.ht ⟨h1, h3⟩
        obtain ⟨u1, u2⟩ := putk_ok hE h130 ha
        rw [q1] at u1 u2
        have hpos : 0 < (putL (kq (qOf E0) (E0.i 15)) (E0.i 1)).length := by rw [putL_len]; exact putN_pos _ _ _
        have hact : qnp0e12.den E = adA (qOf E0) (E0.i 10) (E0.i 11) (E0.i 1) (E0.i 15) := by
          rw [k3, headD_arr]
          exact u2 0 hpos
        have r1 : (Eqn.i qnp0e12 (.ap 11 sl6)).ok E E0 := by show qnp0e12.den E = _; rw [hact, s11 hE0]
        have r2 : (Eqn.i (.mx (.v 15) (.v 10)) (.ap 12 sl4)).ok E E0 := h_ok hE0 k4 (by
          show imx (E.i 15) (E.i 10) = _
          rw [q15, q10]; have := hI.hp
          unfold imx
          split <;> omega)
        have r3 : (Eqn.p 1002 (.i (.sub (f3 5 (.v 120) (.v 130) (.v 1)) (.c 1)) (.i (.v 9) (.a (.dr (a3 5 (.v 120) (.v 130) (.v 1)) (.c 1)) .nil))) (.i (.ap 10 sl6) (.i (.v 9) (.a (.ap 10 sl6) .nil)))).ok E E0 := q_ok hE0 hE q9 k2 (by
            rw [d_sub, u1, d_c, List.length_tail]; omega) fun j hj => by
          rw [List.length_tail] at hj
          rw [arr_tail, ← u2 (j + 1) (by omega)]
          simp only [AE.den, SE.den]; rfl
        obtain ⟨r4, r5⟩ := r_ok (E := E) hE0 k5 (N := .add (.v 132) (.c 1)) (A := .tl (.v 121) (.v 132) (.i (.v 10) .nil)) (by rw [d_add, d_v, d_c, h132, List.length_append]; rfl) fun j hj => by
          rw [tl_arr (E := E) h132 hb (show (SE.v 10).den E = E0.i 10 from q10)]
        have hab : 0 ≤ qnp0e12.den E ∧ qnp0e12.den E ≤ 255 := by
          rw [hact, k3, headD_arr, arr_putL (by rw [← putL_len]; exact hpos)]
          exact put_bd hup h.s0 h.s1 hpos
        have r6 : (Eqn.a (.tl (.v 0) (.c 0) (.i (.bits .or .i64 (.c 0) (.wrap .i64 qnp0e12)) .nil)) (.tl (.tl (.v 0) (.c 0) .nil) (.c 0) (.i (.ap 11 sl6) .nil)) (.c 1) 1).ok E E0 := fun j hj => by
          have : j = 0 := by
            rw [d_c] at hj; omega
          subst this
          simp only [AE.den, d_c, Int.toNat_zero, Nat.not_lt_zero, if_false, Nat.sub_zero]
          show bits .or .i64 0 (IntKind.i64.wrap (qnp0e12.den E)) = (SE.ap 11 sl6).den E0
          rw [IntKind.wrap_i64, s11 hE0, ← hact]
          rw [show (qnp0e12.den E + 9223372036854775808) % 18446744073709551616 - 9223372036854775808 = qnp0e12.den E by omega]
          exact bits0 hab.1 (by omega)
        have r7 : (Eqn.a (.tl (.v 0) (.c 0) (.i (.bits .or .i64 (.c 0) (.v 10)) .nil)) (.tl (.tl (.v 0) (.c 0) .nil) (.c 0) (.i (.v 10) .nil)) (.c 1) 1).ok E E0 := fun j hj => by
          have : j = 0 := by
            rw [d_c] at hj; omega
          subst this
          simp only [AE.den, d_c, Int.toNat_zero, Nat.not_lt_zero, if_false, Nat.sub_zero]
          show bits .or .i64 0 (E.i 10) = E0.i 10
          have := h.c0; have := h.c1
          rw [q10]; exact bits0 h.c0 (by omega)
        exact ⟨alt1 hE0 k1, by (simp only [List.forall_mem_cons, List.not_mem_nil, false_imp_iff, implies_true, and_true]; (repeat' apply And.intro); all_goals (first | exact Eqn.i_ag (n := 100) (by assumption) _ rfl | exact Eqn.b_ag (n := 100) (by assumption) _ rfl | assumption))⟩
      · intro hf
        have h1 := hf (SB.lt (.c 0) (f3 5 (.v 120) (.v 130) (.v 1)), false) (by simp [qnp0e17, f3])
        have h2 := hend (hf (SB.lt (.v 133) (.v 0), false) (by simp))
        rw [lt_f, (putk_ok hE h130 hI.a120).1, d_c, putL_len] at h1
        have := putN_pos (arr (kq (lst (E0.a 0) i) (E0.i 15))) (kq (lst (E0.a 0) i) (E0.i 15)).length (E.i 1)
        omega
      · intro hf
        have h2 := hend (hf (SB.lt (.v 133) (.v 0), false) (by simp))
        have h1 := hf (SB.eq (.v 1) (.v 10), false) (by simp)
        have h1 : ¬ E.i 1 = E.i 10 := by simpa [SB.den, SE.den] using h1
        have h3 := hf (SB.lt (.v 10) (.v 15), false) (by simp)
        simp only [lt_f, d_v, q15, q10] at h3
        rw [q1, q10] at h1
        rw [h2] at h130 h132
        have ha := hI.a120; have hb := hI.a121
        rw [h2] at ha hb
        obtain ⟨k1, k2, k3, k4⟩ := on_of (q := qOf E0) (p := E0.i 15) hI.ht (fun hh => by omega)
        obtain ⟨u1, u2⟩ := putk_ok hE h130 ha
        rw [q1] at u1 u2
        have hP : adP (qOf E0) (E0.i 10) (E0.i 1) (E0.i 15) = putL (kq (qOf E0) (E0.i 15)) (E0.i 1) := by unfold adP; rw [if_neg h1]
        rw [hP] at k2
        have r2 : (Eqn.i (.v 15) (.ap 12 sl4)).ok E E0 := h_ok hE0 k3 (by rw [d_v, q15]; have := hI.hp; omega)
        have r3 : (Eqn.p 1002 (.i (f3 5 (.v 120) (.v 130) (.v 1)) (.i (.v 9) (.a (a3 5 (.v 120) (.v 130) (.v 1)) .nil))) (.i (.ap 10 sl6) (.i (.v 9) (.a (.ap 10 sl6) .nil)))).ok E E0 := q_ok hE0 hE q9 k2 u1 u2
        obtain ⟨r4, r5⟩ := r_ok (E := E) hE0 k4 (N := .v 132) (A := .v 121) h132 fun j hj => by rw [d_av]; exact hb j hj
        exact ⟨alt0 hE0 k1, by (simp only [List.forall_mem_cons, List.not_mem_nil, false_imp_iff, implies_true, and_true]; (repeat' apply And.intro); all_goals (first | exact Eqn.i_ag (n := 100) (by assumption) _ rfl | exact Eqn.b_ag (n := 100) (by assumption) _ rfl | assumption))⟩
theorem ct41t_ok : CtOk Tryd.prog fns ct41t := by
  refine ct_of_pts (p := prm41 Tryd.prog) (pts := pts41 Tryd.prog tokT [.cells (enC (.v 10)) 113]) (n := 900) (c0 := enterD (prm41 Tryd.prog) ct41t) (fun E hE => prm41_ok E hE) rfl (by intro q hq; cases hq) Tryd.func41 (by kernel_rfl) ?_ (fun E0 _ E => ∃ i, I41 E0 E i) (fun E0 _ E => (E0.i 0 - E.i 133).toNat) qtals (by kernel_rfl) ?_ ?_
  · intro t ht
    simp only [pts41, List.mem_cons, List.not_mem_nil, or_false] at ht
    subst ht
    exact ⟨by kernel_rfl, by decide⟩
  · intro E hE hF
    have h := pre41 (tok := tokT) (ex := [.cells (enC (.v 10)) 113]) hE hF
    have H : AgP 100 E E := AgP.refl 100 E
    have hsrt : (srt (.v 0) (.v 0)).1.den E = true := by
      show E.fn.g 1 [.a ((AE.v 0).den E), .i (E.i 0)] = true
      rw [hE]
      show @decide (Srt ((AE.v 0).den E) (E.i 0).toNat) (Classical.propDecidable _) = true
      rw [show (AE.v 0).den E = E.a 0 from by funext j; simp only [AE.den]]
      exact @decide_eq_true _ (Classical.propDecidable _) h.q.1
    refine ⟨fun a ha => ?_, fun x hx => ?_⟩
    · have : ∀ a ∈ ct41t.alts, a.facts = [] := by decide
      have hm : a ∈ ct41t.alts := by
        unfold ct41t ct41 at ha ⊢
        simp only [altSel] at ha
        split at ha
        · cases ha; simp
        · split at ha
          · cases ha; simp
          · cases ha
      rw [this a hm]; intro q hq; cases hq
    · unfold qtals at hx
      simp only [List.mem_cons, List.not_mem_nil, or_false] at hx
      have late : (E.i 1 < E.i 10 ∨ E.i 1 < E.i 11) → altSel E ct41t.alts = ct41t.alts[0]? ∧ (Eqn.i (.v 11) (.ap 12 sl4)).ok E E ∧ (Eqn.p 1002 (.i (.v 0) (.i (.v 9) (.a (.v 0) .nil))) (.i (.ap 10 sl6) (.i (.v 9) (.a (.ap 10 sl6) .nil)))).ok E E ∧ (Eqn.a (.tl (.v 0) (.c 0) (.i (.v 1) .nil)) (.ap 13 sl6) (.ap 13 sl6) 1).ok E E ∧ (Eqn.i (.c 1) (.ap 13 sl6)).ok E E := fun hl => by
        obtain ⟨k1, k2, k3, k4⟩ := late_of (q := qOf E) (p := E.i 15) hl
        exact ⟨alt0 hE k1, h_ok hE k3 rfl, q_ok hE hE rfl k2 (qOf_len h.n0).symm fun j hj => qOf_arr hj, one_ok hE k4 rfl⟩
      have same : ¬ (E.i 1 < E.i 10 ∨ E.i 1 < E.i 11) → E.i 15 ≤ E.i 11 → E.i 1 = E.i 10 → altSel E ct41t.alts = ct41t.alts[0]? ∧ (Eqn.i (.v 11) (.ap 12 sl4)).ok E E ∧ (Eqn.p 1002 (.i (.v 0) (.i (.v 9) (.a (.v 0) .nil))) (.i (.ap 10 sl6) (.i (.v 9) (.a (.ap 10 sl6) .nil)))).ok E E ∧ (Eqn.i (.c 0) (.ap 13 sl6)).ok E E := fun hl hp hs => by
        obtain ⟨k1, k2, k3, k4⟩ := on_of (q := qOf E) (p := E.i 15) hl (fun hh => hh.1 hs)
        obtain ⟨m1, m2⟩ := h.q.q hp
        have hP : adP (qOf E) (E.i 10) (E.i 1) (E.i 15) = qOf E := by unfold adP; rw [if_pos hs]; exact m1
        rw [hP] at k2
        rw [show gq (qOf E) (E.i 15) = [] from m2] at k4
        exact ⟨alt0 hE k1, h_ok hE k3 (by rw [d_v]; omega), q_ok hE hE rfl k2 (qOf_len h.n0).symm fun j hj => qOf_arr hj, nil_ok hE k4⟩
      have new : ¬ (E.i 1 < E.i 10 ∨ E.i 1 < E.i 11) → E.i 15 ≤ E.i 11 → E.i 1 ≠ E.i 10 → altSel E ct41t.alts = ct41t.alts[0]? ∧ (Eqn.i (.v 11) (.ap 12 sl4)).ok E E ∧ (Eqn.p 1002 (.i (f3 5 (.v 0) (.v 0) (.v 1)) (.i (.v 9) (.a (a3 5 (.v 0) (.v 0) (.v 1)) .nil))) (.i (.ap 10 sl6) (.i (.v 9) (.a (.ap 10 sl6) .nil)))).ok E E ∧ (Eqn.i (.c 0) (.ap 13 sl6)).ok E E := fun hl hp hs => by
        have hq := h.q.2.2.1
        obtain ⟨k1, k2, k3, k4⟩ := on_of (q := qOf E) (p := E.i 15) hl (fun hh => by omega)
        obtain ⟨m1, m2⟩ := h.q.q hp
        have hP : adP (qOf E) (E.i 10) (E.i 1) (E.i 15) = putL (qOf E) (E.i 1) := by unfold adP; rw [if_neg hs]; rw [show kq (qOf E) (E.i 15) = qOf E from m1]
        rw [hP] at k2
        rw [show gq (qOf E) (E.i 15) = [] from m2] at k4
        obtain ⟨u1, u2⟩ := putq_ok hE h
        exact ⟨alt0 hE k1, h_ok hE k3 (by rw [d_v]; omega), q_ok hE hE rfl k2 u1 u2, nil_ok hE k4⟩
      have nl : (SB.lt (.v 1) qtae6).den E = false → (SB.lt (.v 1) (.v 11)).den E = false → ¬ (E.i 1 < E.i 10 ∨ E.i 1 < E.i 11) := fun h1 h2 => by
        rw [lt_f] at h1 h2
        have h1' : imx (E.i 10) 0 ≤ E.i 1 := h1
        rw [d_v, d_v] at h2
        unfold imx at h1'
        split at h1' <;> omega
      have ne : (SB.eq (.v 1) (.v 10)).den E = false → E.i 1 ≠ E.i 10 := fun h1 => by simpa [SB.den, SE.den] using h1
      rcases hx with rfl | rfl | rfl | rfl | rfl | rfl | rfl | rfl | rfl | rfl
      · intro hf
        have h1 := hf (SB.lt (.v 1) qtae6, true) (by simp)
        rw [lt_t] at h1
        have h1' : E.i 1 < imx (E.i 10) 0 := h1
        obtain ⟨r1, r2, r3, r4, r5⟩ := late (by
          have := h.s0
          unfold imx at h1'
          split at h1' <;> omega)
        exact ⟨r1, by (simp only [List.forall_mem_cons, List.not_mem_nil, false_imp_iff, implies_true, and_true]; (repeat' apply And.intro); all_goals (first | exact Eqn.i_ag (n := 100) (by assumption) _ rfl | exact Eqn.b_ag (n := 100) (by assumption) _ rfl | assumption))⟩
      · intro hf
        have h1 := hf (SB.lt (.v 1) (.v 11), true) (by simp)
        rw [lt_t, d_v, d_v] at h1
        obtain ⟨r1, r2, r3, r4, r5⟩ := late (.inr h1)
        exact ⟨r1, by (simp only [List.forall_mem_cons, List.not_mem_nil, false_imp_iff, implies_true, and_true]; (repeat' apply And.intro); all_goals (first | exact Eqn.i_ag (n := 100) (by assumption) _ rfl | exact Eqn.b_ag (n := 100) (by assumption) _ rfl | assumption))⟩
      · intro hf
        have h1 := hf (SB.eq (.v 15) (.c 0), true) (by simp)
        have h2 := hf (SB.eq (.v 1) (.v 10), true) (by simp)
        simp only [eq_t, d_v, d_c] at h1 h2
        obtain ⟨r1, r2, r3, r4⟩ := same (nl (hf (SB.lt (.v 1) qtae6, false) (by simp)) (hf (SB.lt (.v 1) (.v 11), false) (by simp))) (by have := h.h0; omega) h2
        exact ⟨r1, by (simp only [List.forall_mem_cons, List.not_mem_nil, false_imp_iff, implies_true, and_true]; (repeat' apply And.intro); all_goals (first | exact Eqn.i_ag (n := 100) (by assumption) _ rfl | exact Eqn.b_ag (n := 100) (by assumption) _ rfl | assumption))⟩
      · intro hf
        have h1 := hf (SB.eq (.v 15) (.c 0), true) (by simp)
        simp only [eq_t, d_v, d_c] at h1
        obtain ⟨r1, r2, r3, r4⟩ := new (nl (hf (SB.lt (.v 1) qtae6, false) (by simp)) (hf (SB.lt (.v 1) (.v 11), false) (by simp))) (by have := h.h0; omega) (ne (hf (SB.eq (.v 1) (.v 10), false) (by simp)))
        exact ⟨r1, by (simp only [List.forall_mem_cons, List.not_mem_nil, false_imp_iff, implies_true, and_true]; (repeat' apply And.intro); all_goals (first | exact Eqn.i_ag (n := 100) (by assumption) _ rfl | exact Eqn.b_ag (n := 100) (by assumption) _ rfl | assumption))⟩
      · intro hf
        have h1 := hf ((srt (.v 0) (.v 0)).1, false) (by simp [srt])
        rw [hsrt] at h1; cases h1
      · intro hf
        have h1 := hf (SB.lt (.v 11) (.v 15), true) (by simp)
        simp only [lt_t, d_v] at h1
        refine ⟨⟨_, rfl, .inl ⟨rfl, rfl⟩⟩, fun o => ⟨⟨0, (AgP.refl 100 E).put o, rfl, Nat.zero_le _, rfl, .inl rfl, rfl, (fun j hj => absurd hj (Nat.not_lt_zero _)), h1, nl (hf (SB.lt (.v 1) qtae6, false) (by simp)) (hf (SB.lt (.v 1) (.v 11), false) (by simp))⟩, fun b hb => by cases hb⟩⟩
      · intro hf
        have h1 := hf (SB.lt (.v 11) (.v 15), false) (by simp)
        have h2 := hf (SB.eq (.v 1) (.v 10), true) (by simp)
        simp only [lt_f, eq_t, d_v] at h1 h2
        obtain ⟨r1, r2, r3, r4⟩ := same (nl (hf (SB.lt (.v 1) qtae6, false) (by simp)) (hf (SB.lt (.v 1) (.v 11), false) (by simp))) h1 h2
        exact ⟨r1, by (simp only [List.forall_mem_cons, List.not_mem_nil, false_imp_iff, implies_true, and_true]; (repeat' apply And.intro); all_goals (first | exact Eqn.i_ag (n := 100) (by assumption) _ rfl | exact Eqn.b_ag (n := 100) (by assumption) _ rfl | assumption))⟩
      · intro hf
        have h1 := hf (SB.lt (.v 11) (.v 15), false) (by simp)
        have h2 := hf (SB.lt (.v 10) (.v 15), true) (by simp)
        simp only [lt_f, lt_t, d_v] at h1 h2
        have := h.q.2.2.1
        omega
      · intro hf
        have h1 := hf (SB.lt (.v 11) (.v 15), false) (by simp)
        simp only [lt_f, d_v] at h1
        obtain ⟨r1, r2, r3, r4⟩ := new (nl (hf (SB.lt (.v 1) qtae6, false) (by simp)) (hf (SB.lt (.v 1) (.v 11), false) (by simp))) h1 (ne (hf (SB.eq (.v 1) (.v 10), false) (by simp)))
        exact ⟨r1, by (simp only [List.forall_mem_cons, List.not_mem_nil, false_imp_iff, implies_true, and_true]; (repeat' apply And.intro); all_goals (first | exact Eqn.i_ag (n := 100) (by assumption) _ rfl | exact Eqn.b_ag (n := 100) (by assumption) _ rfl | assumption))⟩
      · intro hf
        have h1 := hf ((srt (.v 0) (.v 0)).1, false) (by simp [srt])
        rw [hsrt] at h1; cases h1
  · intro k t ht
    have hk : k = 0 := by
      have := (List.getElem?_eq_some_iff.1 ht).1
      simp [pts41] at this; omega
    subst hk
    refine ⟨qtp0ls, by rw [← ptD_some ht ct41t.g]; exact qtp0run, fun E0 E hE0 hE hF0 ⟨i, hI⟩ => ?_⟩
    have h := pre41 (tok := tokT) (ex := [.cells (enC (.v 10)) 113]) hE0 hF0
    have H := hI.ag
    obtain ⟨n, hn⟩ : ∃ n : Nat, E0.i 0 = n := ⟨(E0.i 0).toNat, by have := h.n0; omega⟩
    have hnt : (E0.i 0).toNat = n := by omega
    have hn50 : n ≤ 50 := by have := h.n1; omega
    have h133 := hI.i133; have h130 := hI.h130; have h132 := hI.h132; have hle := hI.le
    rw [hnt] at hle
    have hk := kq_le (lst (E0.a 0) i) (E0.i 15); have hg := gq_le (lst (E0.a 0) i) (E0.i 15)
    rw [lst_len] at hk hg
    have q0 := H.i 0 (by decide); have q1 := H.i 1 (by decide); have q9 := H.i 9 (by decide); have q10 := H.i 10 (by decide); have q11 := H.i 11 (by decide); have q15 := H.i 15 (by decide)
    have qa : E.a 0 = E0.a 0 := H.a 0 (by decide)
    have hup : Up (kq (lst (E0.a 0) i) (E0.i 15)) := up_kq (srt_lst ⟨fun j hj => h.q.1.1 j (by omega), fun j k hj hk => h.q.1.2 j k hj (by omega)⟩) _
    have hsrt : (srt (.v 120) (.v 130)).1.den E = true := by
      show E.fn.g 1 [.a ((AE.v 120).den E), .i (E.i 130)] = true
      rw [hE]
      show @decide (Srt ((AE.v 120).den E) (E.i 130).toNat) (Classical.propDecidable _) = true
      rw [show (AE.v 120).den E = E.a 120 from by funext j; simp only [AE.den], h130, Int.toNat_natCast]
      refine @decide_eq_true _ (Classical.propDecidable _) ?_
      rcases hI.a120 with h0 | h0
      · have : (kq (lst (E0.a 0) i) (E0.i 15)).length = 0 := by omega
        rw [this]; exact ⟨fun j hj => absurd hj (Nat.not_lt_zero _), fun i j _ hj => absurd hj (Nat.not_lt_zero _)⟩
      · rw [h0]; exact srt_arr hup
    refine ⟨?_, fun x hx => ?_⟩
    · obtain rfl := Option.some.inj ht
      refine facts_append (facts_append (facts_append (facts_append (H.facts (by decide) hF0) ?_) ?_) ?_) ?_
      · show Facts E [((.le (.c 0) (.v 133)), true), ((.le (.v 133) (.c 50)), true)]
        simp only [facts_cons, facts_nil, le_t, d_c, d_v, and_true]; omega
      · show Facts E [((.le (.c 0) (.v 130)), true), ((.le (.v 130) (.c 50)), true)]
        simp only [facts_cons, facts_nil, le_t, d_c, d_v, and_true]; omega
      · show Facts E [((.le (.c 0) (.v 132)), true), ((.le (.v 132) (.c 50)), true)]
        simp only [facts_cons, facts_nil, le_t, d_c, d_v, and_true]; omega
      · show Facts E [((.lt (.v 11) (.v 15)), true), ((.lt (.v 1) (.v 10)), false), ((.lt (.v 1) (.v 11)), false), ((srt (.v 120) (.v 130)).1, true)]
        have := hI.hp; have := hI.ht
        simp only [facts_cons, facts_nil, lt_t, lt_f, d_c, d_v, and_true, q1, q10, q11, q15]
        exact ⟨by omega, by omega, by omega, hsrt⟩
    · unfold qtp0ls at hx
      simp only [List.mem_cons, List.not_mem_nil, or_false] at hx
      have hlt : (SB.lt (.v 133) (.v 0)).den E = true → i < n := fun h => by simp only [lt_t, d_v] at h; omega
      have hrd : qtp0e2.den E = E0.a 0 i := by
        show E.a 0 (E.i 133).toNat = _
        rw [qa, h133]; rfl
      have hend : (SB.lt (.v 133) (.v 0)).den E = false → lst (E0.a 0) i = qOf E0 := fun h => by
        simp only [lt_f, d_v] at h
        unfold qOf
        rw [hnt, show i = n by omega]
      rcases hx with rfl | rfl | rfl | rfl | rfl | rfl
      · intro hf
        have h1 := hf (SB.le (.v 15) qtp0e2, true) (by simp)
        have h2 := hlt (hf (SB.lt (.v 133) (.v 0), true) (by simp))
        rw [le_t, hrd, d_v, q15] at h1
        have ek : kq (lst (E0.a 0) (i + 1)) (E0.i 15) = kq (lst (E0.a 0) i) (E0.i 15) ++ [E0.a 0 i] := by rw [lst_succ, kq_snoc, if_pos h1]
        have eg : gq (lst (E0.a 0) (i + 1)) (E0.i 15) = gq (lst (E0.a 0) i) (E0.i 15) := by rw [lst_succ, gq_snoc, if_pos h1]
        refine ⟨⟨_, rfl, .inr ⟨rfl, rfl⟩⟩, fun o => ⟨⟨i + 1, H.put o, ?_, by rw [hnt]; omega, ?_, .inr ?_, ?_, ?_, hI.hp, hI.ht⟩, fun b hb => ?_⟩⟩
        · show E.i 133 + 1 = _
          omega
        · show E.i 130 + 1 = _
          rw [ek, List.length_append, h130]; rfl
        · rw [ek]
          refine tl_arr (E := E) h130 (fun j hj => ?_) hrd
          rcases hI.a120 with h0 | h0
          · omega
          · rw [h0]
        · rw [eg]; exact h132
        · rw [eg]; exact hI.a121
        · obtain rfl := Option.some.inj hb
          show (E0.i 0 - (E.i 133 + 1)).toNat < _
          omega
      · intro hf
        have h1 := hf (SB.le (.v 15) qtp0e2, false) (by simp)
        have h2 := hlt (hf (SB.lt (.v 133) (.v 0), true) (by simp))
        rw [le_f, hrd, d_v, q15] at h1
        have h1' := Int.not_le.2 h1
        have ek : kq (lst (E0.a 0) (i + 1)) (E0.i 15) = kq (lst (E0.a 0) i) (E0.i 15) := by rw [lst_succ, kq_snoc, if_neg h1']
        have eg : gq (lst (E0.a 0) (i + 1)) (E0.i 15) = gq (lst (E0.a 0) i) (E0.i 15) ++ [E0.a 0 i] := by rw [lst_succ, gq_snoc, if_neg h1']
        refine ⟨⟨_, rfl, .inr ⟨rfl, rfl⟩⟩, fun o => ⟨⟨i + 1, H.put o, ?_, by rw [hnt]; omega, ?_, ?_, ?_, fun j hj => ?_, hI.hp, hI.ht⟩, fun b hb => ?_⟩⟩
        · show E.i 133 + 1 = _
          omega
        · rw [ek]; exact h130
        · rw [ek]; exact hI.a120
        · show E.i 132 + 1 = _
          rw [eg, List.length_append, h132]; rfl
        · rw [eg]
          exact congrFun (tl_arr (E := E) h132 hI.a121 hrd) j
        · obtain rfl := Option.some.inj hb
          show (E0.i 0 - (E.i 133 + 1)).toNat < _
          omega
      · intro hf
        have h2 := hend (hf (SB.lt (.v 133) (.v 0), false) (by simp))
        have h1 := hf (SB.eq (.v 1) (.v 10), true) (by simp)
        simp only [eq_t, d_v, q1, q10] at h1
        rw [h2] at h130 h132
        have ha := hI.a120; have hb := hI.a121
        rw [h2] at ha hb
        obtain ⟨k1, k2, k3, k4⟩ := on_of (q := qOf E0) (p := E0.i 15) hI.ht (fun hh => hh.1 h1)
        have hP : adP (qOf E0) (E0.i 10) (E0.i 1) (E0.i 15) = kq (qOf E0) (E0.i 15) := by unfold adP; rw [if_pos h1]
        rw [hP] at k2
        have r2 : (Eqn.i (.v 15) (.ap 12 sl4)).ok E E0 := h_ok hE0 k3 (by rw [d_v, q15]; have := hI.hp; omega)
        have r3 : (Eqn.p 1002 (.i (.v 130) (.i (.v 9) (.a (.v 120) .nil))) (.i (.ap 10 sl6) (.i (.v 9) (.a (.ap 10 sl6) .nil)))).ok E E0 := q_ok hE0 hE q9 k2 h130 fun j hj => by
          rcases ha with h0 | h0
          · omega
          · rw [d_av, h0]
        obtain ⟨r4, r5⟩ := r_ok (E := E) hE0 k4 (N := .v 132) (A := .v 121) h132 fun j hj => by rw [d_av]; exact hb j hj
        exact ⟨alt0 hE0 k1, by (simp only [List.forall_mem_cons, List.not_mem_nil, false_imp_iff, implies_true, and_true]; (repeat' apply And.intro); all_goals (first | exact Eqn.i_ag (n := 100) (by assumption) _ rfl | exact Eqn.b_ag (n := 100) (by assumption) _ rfl | assumption))⟩
      · intro hf
        have h2 := hend (hf (SB.lt (.v 133) (.v 0), false) (by simp))
        have h1 := hf (SB.eq (.v 1) (.v 10), false) (by simp)
        have h1 : ¬ E.i 1 = E.i 10 := by simpa [SB.den, SE.den] using h1
        have h3 := hf (SB.lt (.v 10) (.v 15), true) (by simp)
        simp only [lt_t, d_v, q15, q10] at h3
        rw [q1, q10] at h1
        rw [h2] at h130 h132
        have ha := hI.a120; have hb := hI.a121
        rw [h2] at ha hb hup
        obtain ⟨k1, k2, k3, k4, k5⟩ := up_of (q := qOf E0) (p := E0.i 15) hI.ht ⟨h1, h3⟩
        obtain ⟨u1, u2⟩ := putk_ok hE h130 ha
        rw [q1] at u1 u2
        have hpos : 0 < (putL (kq (qOf E0) (E0.i 15)) (E0.i 1)).length := by rw [putL_len]; exact putN_pos _ _ _
        have hact : qtp0e12.den E = adA (qOf E0) (E0.i 10) (E0.i 11) (E0.i 1) (E0.i 15) := by
          rw [k3, headD_arr]
          exact u2 0 hpos
        have r1 : (Eqn.i qtp0e12 (.ap 11 sl6)).ok E E0 := by show qtp0e12.den E = _; rw [hact, s11 hE0]
        have r2 : (Eqn.i (.mx (.v 15) (.v 10)) (.ap 12 sl4)).ok E E0 := h_ok hE0 k4 (by
          show imx (E.i 15) (E.i 10) = _
          rw [q15, q10]; have := hI.hp
          unfold imx
          split <;> omega)
        have r3 : (Eqn.p 1002 (.i (.sub (f3 5 (.v 120) (.v 130) (.v 1)) (.c 1)) (.i (.v 9) (.a (.dr (a3 5 (.v 120) (.v 130) (.v 1)) (.c 1)) .nil))) (.i (.ap 10 sl6) (.i (.v 9) (.a (.ap 10 sl6) .nil)))).ok E E0 := q_ok hE0 hE q9 k2 (by
            rw [d_sub, u1, d_c, List.length_tail]; omega) fun j hj => by
          rw [List.length_tail] at hj
          rw [arr_tail, ← u2 (j + 1) (by omega)]
          simp only [AE.den, SE.den]; rfl
        obtain ⟨r4, r5⟩ := r_ok (E := E) hE0 k5 (N := .add (.v 132) (.c 1)) (A := .tl (.v 121) (.v 132) (.i (.v 10) .nil)) (by rw [d_add, d_v, d_c, h132, List.length_append]; rfl) fun j hj => by
          rw [tl_arr (E := E) h132 hb (show (SE.v 10).den E = E0.i 10 from q10)]
        have hab : 0 ≤ qtp0e12.den E ∧ qtp0e12.den E ≤ 255 := by
          rw [hact, k3, headD_arr, arr_putL (by rw [← putL_len]; exact hpos)]
          exact put_bd hup h.s0 h.s1 hpos
        have r6 : (Eqn.a (.tl (.v 0) (.c 0) (.i (.bits .or .i64 (.c 0) (.wrap .i64 qtp0e12)) .nil)) (.tl (.tl (.v 0) (.c 0) .nil) (.c 0) (.i (.ap 11 sl6) .nil)) (.c 1) 1).ok E E0 := fun j hj => by
          have : j = 0 := by
            rw [d_c] at hj; omega
          subst this
          simp only [AE.den, d_c, Int.toNat_zero, Nat.not_lt_zero, if_false, Nat.sub_zero]
          show bits .or .i64 0 (IntKind.i64.wrap (qtp0e12.den E)) = (SE.ap 11 sl6).den E0
          rw [IntKind.wrap_i64, s11 hE0, ← hact]
          rw [show (qtp0e12.den E + 9223372036854775808) % 18446744073709551616 - 9223372036854775808 = qtp0e12.den E by omega]
          exact bits0 hab.1 (by omega)
        have r7 : (Eqn.a (.tl (.v 0) (.c 0) (.i (.bits .or .i64 (.c 0) (.v 10)) .nil)) (.tl (.tl (.v 0) (.c 0) .nil) (.c 0) (.i (.v 10) .nil)) (.c 1) 1).ok E E0 := fun j hj => by
          have : j = 0 := by
            rw [d_c] at hj; omega
          subst this
          simp only [AE.den, d_c, Int.toNat_zero, Nat.not_lt_zero, if_false, Nat.sub_zero]
          show bits .or .i64 0 (E.i 10) = E0.i 10
          have := h.c0; have := h.c1
          rw [q10]; exact bits0 h.c0 (by omega)
        exact ⟨alt1 hE0 k1, by (simp only [List.forall_mem_cons, List.not_mem_nil, false_imp_iff, implies_true, and_true]; (repeat' apply And.intro); all_goals (first | exact Eqn.i_ag (n := 100) (by assumption) _ rfl | exact Eqn.b_ag (n := 100) (by assumption) _ rfl | assumption))⟩
      · intro hf
        have h1 := hf (SB.lt (.c 0) (f3 5 (.v 120) (.v 130) (.v 1)), false) (by simp [qtp0e17, f3])
        have h2 := hend (hf (SB.lt (.v 133) (.v 0), false) (by simp))
        rw [lt_f, (putk_ok hE h130 hI.a120).1, d_c, putL_len] at h1
        have := putN_pos (arr (kq (lst (E0.a 0) i) (E0.i 15))) (kq (lst (E0.a 0) i) (E0.i 15)).length (E.i 1)
        omega
      · intro hf
        have h2 := hend (hf (SB.lt (.v 133) (.v 0), false) (by simp))
        have h1 := hf (SB.eq (.v 1) (.v 10), false) (by simp)
        have h1 : ¬ E.i 1 = E.i 10 := by simpa [SB.den, SE.den] using h1
        have h3 := hf (SB.lt (.v 10) (.v 15), false) (by simp)
        simp only [lt_f, d_v, q15, q10] at h3
        rw [q1, q10] at h1
        rw [h2] at h130 h132
        have ha := hI.a120; have hb := hI.a121
        rw [h2] at ha hb
        obtain ⟨k1, k2, k3, k4⟩ := on_of (q := qOf E0) (p := E0.i 15) hI.ht (fun hh => by omega)
        obtain ⟨u1, u2⟩ := putk_ok hE h130 ha
        rw [q1] at u1 u2
        have hP : adP (qOf E0) (E0.i 10) (E0.i 1) (E0.i 15) = putL (kq (qOf E0) (E0.i 15)) (E0.i 1) := by unfold adP; rw [if_neg h1]
        rw [hP] at k2
        have r2 : (Eqn.i (.v 15) (.ap 12 sl4)).ok E E0 := h_ok hE0 k3 (by rw [d_v, q15]; have := hI.hp; omega)
        have r3 : (Eqn.p 1002 (.i (f3 5 (.v 120) (.v 130) (.v 1)) (.i (.v 9) (.a (a3 5 (.v 120) (.v 130) (.v 1)) .nil))) (.i (.ap 10 sl6) (.i (.v 9) (.a (.ap 10 sl6) .nil)))).ok E E0 := q_ok hE0 hE q9 k2 u1 u2
        obtain ⟨r4, r5⟩ := r_ok (E := E) hE0 k4 (N := .v 132) (A := .v 121) h132 fun j hj => by rw [d_av]; exact hb j hj
        exact ⟨alt0 hE0 k1, by (simp only [List.forall_mem_cons, List.not_mem_nil, false_imp_iff, implies_true, and_true]; (repeat' apply And.intro); all_goals (first | exact Eqn.i_ag (n := 100) (by assumption) _ rfl | exact Eqn.b_ag (n := 100) (by assumption) _ rfl | assumption))⟩
end Go.Proofs.YtjanndmmhjnpcaaDoor
