/- qcSteps keeps its contract. -/
import Derived.Test.YtjanndmmhjnpcaaDoorQcK
import Derived.Test.YtjanndmmhjnpcaaDoorQcHa
import Derived.KernelRfl
set_option autoImplicit true
set_option relaxedAutoImplicit true
set_option linter.unusedVariables false
set_option linter.unusedSimpArgs false
set_option maxRecDepth 100000
set_option maxHeartbeats 8000000
namespace Go.Proofs.YtjanndmmhjnpcaaDoor
open Go Go.Sy Go.RowKit
noncomputable def jax0 : Vl := .go 0 [(131, (.c 0)), (130, (.c 0)), (132, (.c 1))] [] [] [((.le (.c 0) (.v 1)), true), ((.le (.v 1) (.v 3)), true), ((.le (.v 1) (.c 2147483647)), true), ((.ap 16 (.a (.v 0) (.i (.v 1) .nil))), true)] (.code (.loop (loopB (prm5 Tryd.prog).P 5 4))) (loopK (prm5 Tryd.prog).P 5 4)
noncomputable def jals : List Vl := [jax0]
theorem jarun : (run (prm5 Tryd.prog) 900 (enterD (prm5 Tryd.prog) ct5)).map (vOf (prm5 Tryd.prog) ct5 (pts5 Tryd.prog)) = jals := by kernel_rfl
-- 1 ways; terms: 
noncomputable def jp0e0 : SE := .add (.v 130) (.c 2)
noncomputable def jp0e1 : SE := .add (.v 130) (.c 1)
noncomputable def jp0e2 : SE := .rd (.v 0) jp0e1
noncomputable def jp0e3 : SE := .wrap .u64 jp0e2
noncomputable def jp0e4 : SE := .tmod jp0e3 (.c 24)
noncomputable def jp0e5 : SE := .rd (.v 0) (.v 130)
noncomputable def jp0e6 : SE := .wrap .i64 jp0e5
noncomputable def jp0e7 : SE := .tdiv jp0e6 (.c 32)
noncomputable def jp0e8 : SE := .tmod jp0e7 (.c 3)
noncomputable def jp0e9 : SE := .tdiv jp0e6 (.c 8)
noncomputable def jp0e10 : SE := .tmod jp0e9 (.c 4)
noncomputable def jp0e11 : AE := .tl (.v 0) (.c 0) (.i (.c 0) (.i (.c 0) (.i (.c 0) (.i (.c 0) (.i (.c 1) (.i (.c 2) (.i (.c 2) (.i (.c 3) .nil))))))))
noncomputable def jp0e12 : SE := .tmod jp0e6 (.c 8)
noncomputable def jp0e13 : SE := .rd jp0e11 jp0e12
noncomputable def jp0e14 : SE := .add (.v 131) (.c 1)
noncomputable def jp0e15 : SE := .mul (.v 131) (.c 5)
noncomputable def jp0e16 : SE := .tdiv jp0e3 (.c 3)
noncomputable def jp0e17 : SE := .add jp0e4 (.c 1)
noncomputable def jp0e18 : SE := .tmod jp0e16 jp0e17
noncomputable def jp0e19 : AE := .tl (.v 121) jp0e15 (.i jp0e13 (.i jp0e4 (.i jp0e18 (.i jp0e4 (.i jp0e4 .nil)))))
noncomputable def jp0e20 : SE := .tmod jp0e3 (.c 3)
noncomputable def jp0e21 : SE := .sub jp0e4 jp0e20
noncomputable def jp0e22 : SE := .wrap .u64 jp0e21
noncomputable def jp0e23 : AE := .tl (.v 121) jp0e15 (.i jp0e13 (.i jp0e4 (.i jp0e22 (.i jp0e4 (.i jp0e4 .nil)))))
noncomputable def jp0e24 : AE := .tl (.v 121) jp0e15 (.i jp0e13 (.i jp0e4 (.i (.c 0) (.i jp0e4 (.i jp0e4 .nil)))))
noncomputable def jp0e25 : SE := .add (.v 132) (.c 1)
noncomputable def jp0e26 : SE := .tmod jp0e16 jp0e25
noncomputable def jp0e27 : AE := .tl (.v 121) jp0e15 (.i jp0e13 (.i (.v 132) (.i jp0e26 (.i (.v 132) (.i (.v 132) .nil)))))
noncomputable def jp0e28 : SE := .sub (.v 132) jp0e20
noncomputable def jp0e29 : AE := .tl (.v 121) jp0e15 (.i jp0e13 (.i (.v 132) (.i jp0e28 (.i (.v 132) (.i (.v 132) .nil)))))
noncomputable def jp0e30 : AE := .tl (.v 121) jp0e15 (.i jp0e13 (.i (.v 132) (.i (.c 0) (.i (.v 132) (.i (.v 132) .nil)))))
noncomputable def jp0e31 : SE := .mul jp0e3 (.c 100)
noncomputable def jp0e32 : AE := .tl (.v 121) jp0e15 (.i jp0e13 (.i jp0e31 (.i (.c 0) (.i (.c 0) (.i (.c 0) .nil)))))
noncomputable def jp0e33 : AE := .tl (.v 121) jp0e15 (.i jp0e13 (.i (.c 0) (.i (.c 0) (.i (.c 0) (.i (.c 0) .nil)))))
noncomputable def jp0x0 : Vl := .go 0 [(130, jp0e0)] [] [] [((.eq jp0e4 (.c 0)), true), ((.eq jp0e8 (.c 0)), true), ((.eq jp0e10 (.c 0)), true), ((.eq jp0e13 (.c 0)), true), ((.le jp0e2 (.c 255)), true), ((.le (.c 0) jp0e2), true), ((.le jp0e5 (.c 255)), true), ((.le (.c 0) jp0e5), true), ((.lt (.v 130) (.v 1)), true), ((.lt (.v 130) (.c 80)), true), ((.lt jp0e1 (.v 1)), true), ((.le (.c 0) (.v 1)), true), ((.le (.v 1) (.v 3)), true), ((.le (.v 1) (.c 2147483647)), true), ((.ap 16 (.a (.v 0) (.i (.v 1) .nil))), true), ((.le (.c 0) (.v 130)), true), ((.le (.v 130) (.c 81)), true), ((.le (.c 0) (.v 131)), true), ((.le (.v 131) (.c 40)), true), ((.le (.c 1) (.v 132)), true), ((.le (.v 132) (.c 41)), true)] (.exit .normal) (.loop (loopB (prm5 Tryd.prog).P 5 4) :: loopK (prm5 Tryd.prog).P 5 4)
noncomputable def jp0x1 : Vl := .go 0 [(131, jp0e14), (130, jp0e0)] [] [(121, jp0e19)] [((.eq jp0e4 (.c 0)), false), ((.eq jp0e8 (.c 0)), true), ((.eq jp0e10 (.c 0)), true), ((.eq jp0e13 (.c 0)), true), ((.le jp0e2 (.c 255)), true), ((.le (.c 0) jp0e2), true), ((.le jp0e5 (.c 255)), true), ((.le (.c 0) jp0e5), true), ((.lt (.v 130) (.v 1)), true), ((.lt (.v 130) (.c 80)), true), ((.lt jp0e1 (.v 1)), true), ((.le (.c 0) (.v 1)), true), ((.le (.v 1) (.v 3)), true), ((.le (.v 1) (.c 2147483647)), true), ((.ap 16 (.a (.v 0) (.i (.v 1) .nil))), true), ((.le (.c 0) (.v 130)), true), ((.le (.v 130) (.c 81)), true), ((.le (.c 0) (.v 131)), true), ((.le (.v 131) (.c 40)), true), ((.le (.c 1) (.v 132)), true), ((.le (.v 132) (.c 41)), true)] (.exit .normal) (.loop (loopB (prm5 Tryd.prog).P 5 4) :: loopK (prm5 Tryd.prog).P 5 4)
noncomputable def jp0x2 : Vl := .go 0 [(130, jp0e0)] [] [] [((.eq jp0e4 (.c 0)), true), ((.lt (.c 2) jp0e4), true), ((.eq jp0e8 (.c 1)), true), ((.eq jp0e8 (.c 0)), false), ((.eq jp0e10 (.c 0)), true), ((.eq jp0e13 (.c 0)), true), ((.le jp0e2 (.c 255)), true), ((.le (.c 0) jp0e2), true), ((.le jp0e5 (.c 255)), true), ((.le (.c 0) jp0e5), true), ((.lt (.v 130) (.v 1)), true), ((.lt (.v 130) (.c 80)), true), ((.lt jp0e1 (.v 1)), true), ((.le (.c 0) (.v 1)), true), ((.le (.v 1) (.v 3)), true), ((.le (.v 1) (.c 2147483647)), true), ((.ap 16 (.a (.v 0) (.i (.v 1) .nil))), true), ((.le (.c 0) (.v 130)), true), ((.le (.v 130) (.c 81)), true), ((.le (.c 0) (.v 131)), true), ((.le (.v 131) (.c 40)), true), ((.le (.c 1) (.v 132)), true), ((.le (.v 132) (.c 41)), true)] (.exit .normal) (.loop (loopB (prm5 Tryd.prog).P 5 4) :: loopK (prm5 Tryd.prog).P 5 4)
noncomputable def jp0x3 : Vl := .go 0 [(131, jp0e14), (130, jp0e0)] [] [(121, jp0e23)] [((.eq jp0e4 (.c 0)), false), ((.lt (.c 2) jp0e4), true), ((.eq jp0e8 (.c 1)), true), ((.eq jp0e8 (.c 0)), false), ((.eq jp0e10 (.c 0)), true), ((.eq jp0e13 (.c 0)), true), ((.le jp0e2 (.c 255)), true), ((.le (.c 0) jp0e2), true), ((.le jp0e5 (.c 255)), true), ((.le (.c 0) jp0e5), true), ((.lt (.v 130) (.v 1)), true), ((.lt (.v 130) (.c 80)), true), ((.lt jp0e1 (.v 1)), true), ((.le (.c 0) (.v 1)), true), ((.le (.v 1) (.v 3)), true), ((.le (.v 1) (.c 2147483647)), true), ((.ap 16 (.a (.v 0) (.i (.v 1) .nil))), true), ((.le (.c 0) (.v 130)), true), ((.le (.v 130) (.c 81)), true), ((.le (.c 0) (.v 131)), true), ((.le (.v 131) (.c 40)), true), ((.le (.c 1) (.v 132)), true), ((.le (.v 132) (.c 41)), true)] (.exit .normal) (.loop (loopB (prm5 Tryd.prog).P 5 4) :: loopK (prm5 Tryd.prog).P 5 4)
noncomputable def jp0x4 : Vl := .go 0 [(130, jp0e0)] [] [] [((.eq jp0e4 (.c 0)), true), ((.lt (.c 2) jp0e4), false), ((.eq jp0e8 (.c 1)), true), ((.eq jp0e8 (.c 0)), false), ((.eq jp0e10 (.c 0)), true), ((.eq jp0e13 (.c 0)), true), ((.le jp0e2 (.c 255)), true), ((.le (.c 0) jp0e2), true), ((.le jp0e5 (.c 255)), true), ((.le (.c 0) jp0e5), true), ((.lt (.v 130) (.v 1)), true), ((.lt (.v 130) (.c 80)), true), ((.lt jp0e1 (.v 1)), true), ((.le (.c 0) (.v 1)), true), ((.le (.v 1) (.v 3)), true), ((.le (.v 1) (.c 2147483647)), true), ((.ap 16 (.a (.v 0) (.i (.v 1) .nil))), true), ((.le (.c 0) (.v 130)), true), ((.le (.v 130) (.c 81)), true), ((.le (.c 0) (.v 131)), true), ((.le (.v 131) (.c 40)), true), ((.le (.c 1) (.v 132)), true), ((.le (.v 132) (.c 41)), true)] (.exit .normal) (.loop (loopB (prm5 Tryd.prog).P 5 4) :: loopK (prm5 Tryd.prog).P 5 4)
noncomputable def jp0x5 : Vl := .go 0 [(131, jp0e14), (130, jp0e0)] [] [(121, jp0e24)] [((.eq jp0e4 (.c 0)), false), ((.lt (.c 2) jp0e4), false), ((.eq jp0e8 (.c 1)), true), ((.eq jp0e8 (.c 0)), false), ((.eq jp0e10 (.c 0)), true), ((.eq jp0e13 (.c 0)), true), ((.le jp0e2 (.c 255)), true), ((.le (.c 0) jp0e2), true), ((.le jp0e5 (.c 255)), true), ((.le (.c 0) jp0e5), true), ((.lt (.v 130) (.v 1)), true), ((.lt (.v 130) (.c 80)), true), ((.lt jp0e1 (.v 1)), true), ((.le (.c 0) (.v 1)), true), ((.le (.v 1) (.v 3)), true), ((.le (.v 1) (.c 2147483647)), true), ((.ap 16 (.a (.v 0) (.i (.v 1) .nil))), true), ((.le (.c 0) (.v 130)), true), ((.le (.v 130) (.c 81)), true), ((.le (.c 0) (.v 131)), true), ((.le (.v 131) (.c 40)), true), ((.le (.c 1) (.v 132)), true), ((.le (.v 132) (.c 41)), true)] (.exit .normal) (.loop (loopB (prm5 Tryd.prog).P 5 4) :: loopK (prm5 Tryd.prog).P 5 4)
noncomputable def jp0x6 : Vl := .go 0 [(130, jp0e0)] [] [] [((.eq jp0e4 (.c 0)), true), ((.eq jp0e8 (.c 1)), false), ((.eq jp0e8 (.c 0)), false), ((.eq jp0e10 (.c 0)), true), ((.eq jp0e13 (.c 0)), true), ((.le jp0e2 (.c 255)), true), ((.le (.c 0) jp0e2), true), ((.le jp0e5 (.c 255)), true), ((.le (.c 0) jp0e5), true), ((.lt (.v 130) (.v 1)), true), ((.lt (.v 130) (.c 80)), true), ((.lt jp0e1 (.v 1)), true), ((.le (.c 0) (.v 1)), true), ((.le (.v 1) (.v 3)), true), ((.le (.v 1) (.c 2147483647)), true), ((.ap 16 (.a (.v 0) (.i (.v 1) .nil))), true), ((.le (.c 0) (.v 130)), true), ((.le (.v 130) (.c 81)), true), ((.le (.c 0) (.v 131)), true), ((.le (.v 131) (.c 40)), true), ((.le (.c 1) (.v 132)), true), ((.le (.v 132) (.c 41)), true)] (.exit .normal) (.loop (loopB (prm5 Tryd.prog).P 5 4) :: loopK (prm5 Tryd.prog).P 5 4)
noncomputable def jp0x7 : Vl := .go 0 [(131, jp0e14), (130, jp0e0)] [] [(121, jp0e24)] [((.eq jp0e4 (.c 0)), false), ((.eq jp0e8 (.c 1)), false), ((.eq jp0e8 (.c 0)), false), ((.eq jp0e10 (.c 0)), true), ((.eq jp0e13 (.c 0)), true), ((.le jp0e2 (.c 255)), true), ((.le (.c 0) jp0e2), true), ((.le jp0e5 (.c 255)), true), ((.le (.c 0) jp0e5), true), ((.lt (.v 130) (.v 1)), true), ((.lt (.v 130) (.c 80)), true), ((.lt jp0e1 (.v 1)), true), ((.le (.c 0) (.v 1)), true), ((.le (.v 1) (.v 3)), true), ((.le (.v 1) (.c 2147483647)), true), ((.ap 16 (.a (.v 0) (.i (.v 1) .nil))), true), ((.le (.c 0) (.v 130)), true), ((.le (.v 130) (.c 81)), true), ((.le (.c 0) (.v 131)), true), ((.le (.v 131) (.c 40)), true), ((.le (.c 1) (.v 132)), true), ((.le (.v 132) (.c 41)), true)] (.exit .normal) (.loop (loopB (prm5 Tryd.prog).P 5 4) :: loopK (prm5 Tryd.prog).P 5 4)
noncomputable def jp0x8 : Vl := .go 0 [(131, jp0e14), (130, jp0e0), (132, jp0e25)] [] [(121, jp0e27)] [((.eq jp0e8 (.c 0)), true), ((.eq jp0e10 (.c 0)), false), ((.eq jp0e13 (.c 0)), true), ((.le jp0e2 (.c 255)), true), ((.le (.c 0) jp0e2), true), ((.le jp0e5 (.c 255)), true), ((.le (.c 0) jp0e5), true), ((.lt (.v 130) (.v 1)), true), ((.lt (.v 130) (.c 80)), true), ((.lt jp0e1 (.v 1)), true), ((.le (.c 0) (.v 1)), true), ((.le (.v 1) (.v 3)), true), ((.le (.v 1) (.c 2147483647)), true), ((.ap 16 (.a (.v 0) (.i (.v 1) .nil))), true), ((.le (.c 0) (.v 130)), true), ((.le (.v 130) (.c 81)), true), ((.le (.c 0) (.v 131)), true), ((.le (.v 131) (.c 40)), true), ((.le (.c 1) (.v 132)), true), ((.le (.v 132) (.c 41)), true)] (.exit .normal) (.loop (loopB (prm5 Tryd.prog).P 5 4) :: loopK (prm5 Tryd.prog).P 5 4)
noncomputable def jp0x9 : Vl := .go 0 [(131, jp0e14), (130, jp0e0), (132, jp0e25)] [] [(121, jp0e29)] [((.lt (.c 2) (.v 132)), true), ((.eq jp0e8 (.c 1)), true), ((.eq jp0e8 (.c 0)), false), ((.eq jp0e10 (.c 0)), false), ((.eq jp0e13 (.c 0)), true), ((.le jp0e2 (.c 255)), true), ((.le (.c 0) jp0e2), true), ((.le jp0e5 (.c 255)), true), ((.le (.c 0) jp0e5), true), ((.lt (.v 130) (.v 1)), true), ((.lt (.v 130) (.c 80)), true), ((.lt jp0e1 (.v 1)), true), ((.le (.c 0) (.v 1)), true), ((.le (.v 1) (.v 3)), true), ((.le (.v 1) (.c 2147483647)), true), ((.ap 16 (.a (.v 0) (.i (.v 1) .nil))), true), ((.le (.c 0) (.v 130)), true), ((.le (.v 130) (.c 81)), true), ((.le (.c 0) (.v 131)), true), ((.le (.v 131) (.c 40)), true), ((.le (.c 1) (.v 132)), true), ((.le (.v 132) (.c 41)), true)] (.exit .normal) (.loop (loopB (prm5 Tryd.prog).P 5 4) :: loopK (prm5 Tryd.prog).P 5 4)
noncomputable def jp0x10 : Vl := .go 0 [(131, jp0e14), (130, jp0e0), (132, jp0e25)] [] [(121, jp0e30)] [((.lt (.c 2) (.v 132)), false), ((.eq jp0e8 (.c 1)), true), ((.eq jp0e8 (.c 0)), false), ((.eq jp0e10 (.c 0)), false), ((.eq jp0e13 (.c 0)), true), ((.le jp0e2 (.c 255)), true), ((.le (.c 0) jp0e2), true), ((.le jp0e5 (.c 255)), true), ((.le (.c 0) jp0e5), true), ((.lt (.v 130) (.v 1)), true), ((.lt (.v 130) (.c 80)), true), ((.lt jp0e1 (.v 1)), true), ((.le (.c 0) (.v 1)), true), ((.le (.v 1) (.v 3)), true), ((.le (.v 1) (.c 2147483647)), true), ((.ap 16 (.a (.v 0) (.i (.v 1) .nil))), true), ((.le (.c 0) (.v 130)), true), ((.le (.v 130) (.c 81)), true), ((.le (.c 0) (.v 131)), true), ((.le (.v 131) (.c 40)), true), ((.le (.c 1) (.v 132)), true), ((.le (.v 132) (.c 41)), true)] (.exit .normal) (.loop (loopB (prm5 Tryd.prog).P 5 4) :: loopK (prm5 Tryd.prog).P 5 4)
noncomputable def jp0x11 : Vl := .go 0 [(131, jp0e14), (130, jp0e0), (132, jp0e25)] [] [(121, jp0e30)] [((.eq jp0e8 (.c 1)), false), ((.eq jp0e8 (.c 0)), false), ((.eq jp0e10 (.c 0)), false), ((.eq jp0e13 (.c 0)), true), ((.le jp0e2 (.c 255)), true), ((.le (.c 0) jp0e2), true), ((.le jp0e5 (.c 255)), true), ((.le (.c 0) jp0e5), true), ((.lt (.v 130) (.v 1)), true), ((.lt (.v 130) (.c 80)), true), ((.lt jp0e1 (.v 1)), true), ((.le (.c 0) (.v 1)), true), ((.le (.v 1) (.v 3)), true), ((.le (.v 1) (.c 2147483647)), true), ((.ap 16 (.a (.v 0) (.i (.v 1) .nil))), true), ((.le (.c 0) (.v 130)), true), ((.le (.v 130) (.c 81)), true), ((.le (.c 0) (.v 131)), true), ((.le (.v 131) (.c 40)), true), ((.le (.c 1) (.v 132)), true), ((.le (.v 132) (.c 41)), true)] (.exit .normal) (.loop (loopB (prm5 Tryd.prog).P 5 4) :: loopK (prm5 Tryd.prog).P 5 4)
noncomputable def jp0x12 : Vl := .go 0 [(131, jp0e14), (130, jp0e0)] [] [(121, jp0e32)] [((.eq jp0e13 (.c 3)), true), ((.eq jp0e13 (.c 0)), false), ((.le jp0e2 (.c 255)), true), ((.le (.c 0) jp0e2), true), ((.le jp0e5 (.c 255)), true), ((.le (.c 0) jp0e5), true), ((.lt (.v 130) (.v 1)), true), ((.lt (.v 130) (.c 80)), true), ((.lt jp0e1 (.v 1)), true), ((.le (.c 0) (.v 1)), true), ((.le (.v 1) (.v 3)), true), ((.le (.v 1) (.c 2147483647)), true), ((.ap 16 (.a (.v 0) (.i (.v 1) .nil))), true), ((.le (.c 0) (.v 130)), true), ((.le (.v 130) (.c 81)), true), ((.le (.c 0) (.v 131)), true), ((.le (.v 131) (.c 40)), true), ((.le (.c 1) (.v 132)), true), ((.le (.v 132) (.c 41)), true)] (.exit .normal) (.loop (loopB (prm5 Tryd.prog).P 5 4) :: loopK (prm5 Tryd.prog).P 5 4)
noncomputable def jp0x13 : Vl := .go 0 [(131, jp0e14), (130, jp0e0)] [] [(121, jp0e33)] [((.eq jp0e13 (.c 3)), false), ((.eq jp0e13 (.c 0)), false), ((.le jp0e2 (.c 255)), true), ((.le (.c 0) jp0e2), true), ((.le jp0e5 (.c 255)), true), ((.le (.c 0) jp0e5), true), ((.lt (.v 130) (.v 1)), true), ((.lt (.v 130) (.c 80)), true), ((.lt jp0e1 (.v 1)), true), ((.le (.c 0) (.v 1)), true), ((.le (.v 1) (.v 3)), true), ((.le (.v 1) (.c 2147483647)), true), ((.ap 16 (.a (.v 0) (.i (.v 1) .nil))), true), ((.le (.c 0) (.v 130)), true), ((.le (.v 130) (.c 81)), true), ((.le (.c 0) (.v 131)), true), ((.le (.v 131) (.c 40)), true), ((.le (.c 1) (.v 132)), true), ((.le (.v 132) (.c 41)), true)] (.exit .normal) (.loop (loopB (prm5 Tryd.prog).P 5 4) :: loopK (prm5 Tryd.prog).P 5 4)
noncomputable def jp0x14 : Vl := .dead [((.le jp0e2 (.c 255)), false), ((.le (.c 0) jp0e2), true), ((.le jp0e5 (.c 255)), true), ((.le (.c 0) jp0e5), true), ((.lt (.v 130) (.v 1)), true), ((.lt (.v 130) (.c 80)), true), ((.lt jp0e1 (.v 1)), true), ((.le (.c 0) (.v 1)), true), ((.le (.v 1) (.v 3)), true), ((.le (.v 1) (.c 2147483647)), true), ((.ap 16 (.a (.v 0) (.i (.v 1) .nil))), true), ((.le (.c 0) (.v 130)), true), ((.le (.v 130) (.c 81)), true), ((.le (.c 0) (.v 131)), true), ((.le (.v 131) (.c 40)), true), ((.le (.c 1) (.v 132)), true), ((.le (.v 132) (.c 41)), true)]
noncomputable def jp0x15 : Vl := .dead [((.le (.c 0) jp0e2), false), ((.le jp0e5 (.c 255)), true), ((.le (.c 0) jp0e5), true), ((.lt (.v 130) (.v 1)), true), ((.lt (.v 130) (.c 80)), true), ((.lt jp0e1 (.v 1)), true), ((.le (.c 0) (.v 1)), true), ((.le (.v 1) (.v 3)), true), ((.le (.v 1) (.c 2147483647)), true), ((.ap 16 (.a (.v 0) (.i (.v 1) .nil))), true), ((.le (.c 0) (.v 130)), true), ((.le (.v 130) (.c 81)), true), ((.le (.c 0) (.v 131)), true), ((.le (.v 131) (.c 40)), true), ((.le (.c 1) (.v 132)), true), ((.le (.v 132) (.c 41)), true)]
noncomputable def jp0x16 : Vl := .dead [((.le jp0e5 (.c 255)), false), ((.le (.c 0) jp0e5), true), ((.lt (.v 130) (.v 1)), true), ((.lt (.v 130) (.c 80)), true), ((.lt jp0e1 (.v 1)), true), ((.le (.c 0) (.v 1)), true), ((.le (.v 1) (.v 3)), true), ((.le (.v 1) (.c 2147483647)), true), ((.ap 16 (.a (.v 0) (.i (.v 1) .nil))), true), ((.le (.c 0) (.v 130)), true), ((.le (.v 130) (.c 81)), true), ((.le (.c 0) (.v 131)), true), ((.le (.v 131) (.c 40)), true), ((.le (.c 1) (.v 132)), true), ((.le (.v 132) (.c 41)), true)]
noncomputable def jp0x17 : Vl := .dead [((.le (.c 0) jp0e5), false), ((.lt (.v 130) (.v 1)), true), ((.lt (.v 130) (.c 80)), true), ((.lt jp0e1 (.v 1)), true), ((.le (.c 0) (.v 1)), true), ((.le (.v 1) (.v 3)), true), ((.le (.v 1) (.c 2147483647)), true), ((.ap 16 (.a (.v 0) (.i (.v 1) .nil))), true), ((.le (.c 0) (.v 130)), true), ((.le (.v 130) (.c 81)), true), ((.le (.c 0) (.v 131)), true), ((.le (.v 131) (.c 40)), true), ((.le (.c 1) (.v 132)), true), ((.le (.v 132) (.c 41)), true)]
noncomputable def jp0x18 : Vl := .dead [((.lt (.v 130) (.v 1)), false), ((.lt (.v 130) (.c 80)), true), ((.lt jp0e1 (.v 1)), true), ((.le (.c 0) (.v 1)), true), ((.le (.v 1) (.v 3)), true), ((.le (.v 1) (.c 2147483647)), true), ((.ap 16 (.a (.v 0) (.i (.v 1) .nil))), true), ((.le (.c 0) (.v 130)), true), ((.le (.v 130) (.c 81)), true), ((.le (.c 0) (.v 131)), true), ((.le (.v 131) (.c 40)), true), ((.le (.c 1) (.v 132)), true), ((.le (.v 132) (.c 41)), true)]
noncomputable def jp0x19 : Vl := .out 0 [.a (.v 0) (.v 0) (.v 1) 1, .i (.v 1) (.v 1), .a (.v 121) (.v 500) (.v 500) 5, .i (.v 131) (.v 500)] [((.lt (.v 130) (.c 80)), false), ((.lt jp0e1 (.v 1)), true), ((.le (.c 0) (.v 1)), true), ((.le (.v 1) (.v 3)), true), ((.le (.v 1) (.c 2147483647)), true), ((.ap 16 (.a (.v 0) (.i (.v 1) .nil))), true), ((.le (.c 0) (.v 130)), true), ((.le (.v 130) (.c 81)), true), ((.le (.c 0) (.v 131)), true), ((.le (.v 131) (.c 40)), true), ((.le (.c 1) (.v 132)), true), ((.le (.v 132) (.c 41)), true)]
noncomputable def jp0x20 : Vl := .out 0 [.a (.v 0) (.v 0) (.v 1) 1, .i (.v 1) (.v 1), .a (.v 121) (.v 500) (.v 500) 5, .i (.v 131) (.v 500)] [((.lt jp0e1 (.v 1)), false), ((.le (.c 0) (.v 1)), true), ((.le (.v 1) (.v 3)), true), ((.le (.v 1) (.c 2147483647)), true), ((.ap 16 (.a (.v 0) (.i (.v 1) .nil))), true), ((.le (.c 0) (.v 130)), true), ((.le (.v 130) (.c 81)), true), ((.le (.c 0) (.v 131)), true), ((.le (.v 131) (.c 40)), true), ((.le (.c 1) (.v 132)), true), ((.le (.v 132) (.c 41)), true)]
noncomputable def jp0ls : List Vl := [jp0x0, jp0x1, jp0x2, jp0x3, jp0x4, jp0x5, jp0x6, jp0x7, jp0x8, jp0x9, jp0x10, jp0x11, jp0x12, jp0x13, jp0x14, jp0x15, jp0x16, jp0x17, jp0x18, jp0x19, jp0x20]
theorem jp0run : (run (prm5 Tryd.prog) 900 (ptD (pts5 Tryd.prog) 0 5)).map (vOf (prm5 Tryd.prog) ct5 (pts5 Tryd.prog)) = jp0ls := by kernel_rfl
-- 21 ways; terms: jp0e0, jp0e1, jp0e2, jp0e3, jp0e4, jp0e5, jp0e6, jp0e7, jp0e8, jp0e9, jp0e10, jp0e11, jp0e12, jp0e13, jp0e14, jp0e15, jp0e16, jp0e17, jp0e18, jp0e19, jp0e20, jp0e21, jp0e22, jp0e23, jp0e24, jp0e25, jp0e26, jp0e27, jp0e28, jp0e29, jp0e30, jp0e31, jp0e32, jp0e33
theorem prm5_ok (E : Env) (hE : E.fn = fns) : PrmOk E (prm5 Tryd.prog) where
  ct := by intro c hc; cases hc
  mix := Checked.mixed Tryd.checked
  okf := okf_call
  body := okf_body
  mts := by intro x hx; cases hx
  dfr := by intro x hx; cases hx
  dfk := by intro x hx; cases hx
theorem SOk.snoc {A A' : Nat → Int} {n : Nat} (h : SOk A n) {l : Nat → Int} (hA : ∀ t, A' t = if t < n * 5 then A t else l (t - n * 5)) (c0 : 0 ≤ l 0 ∧ l 0 ≤ 3) (c1 : 0 ≤ l 1 ∧ l 1 ≤ 25500) (c2 : 0 ≤ l 2 ∧ l 2 ≤ l 1) (c3 : l 0 = 0 → l 1 ≤ 255 ∧ l 3 = l 1 ∧ l 4 = l 1) : SOk A' (n + 1) := fun i hi => by
  rcases Nat.lt_or_ge i n with h1 | h1
  · have e : ∀ c, c < 5 → A' (i * 5 + c) = A (i * 5 + c) := fun c hc => by rw [hA, if_pos (by omega)]
    have e0 := e 0 (by omega)
    rw [Nat.add_zero] at e0
    rw [e0, e 1 (by omega), e 2 (by omega), e 3 (by omega), e 4 (by omega)]
    exact h i h1
  · have hin : i = n := by omega
    subst hin
    have e : ∀ c, A' (i * 5 + c) = l c := fun c => by rw [hA, if_neg (by omega), Nat.add_sub_cancel_left]
    have e0 := e 0
    rw [Nat.add_zero] at e0
    rw [e0, e 1, e 2, e 3, e 4]
    exact ⟨c0, c1, c2, c3⟩
theorem bytes_of {E : Env} (hE : E.fn = fns) (h : (SB.ap 16 (.a (.v 0) (.i (.v 1) .nil))).den E = true) : ∀ j : Nat, (j : Int) < E.i 1 → 0 ≤ E.a 0 j ∧ E.a 0 j ≤ 255 := by
  have e' : E.fn.g 16 [.a ((AE.v 0).den E), .i (E.i 1)] = true := h
  rw [hE] at e'
  have e2 : @decide (∀ j : Nat, (j : Int) < E.i 1 → 0 ≤ (AE.v 0).den E j ∧ (AE.v 0).den E j ≤ 255) (Classical.propDecidable _) = true := e'
  have e3 := @of_decide_eq_true _ (Classical.propDecidable _) e2
  intro j hj
  have := e3 j hj
  rw [d_av] at this; exact this
theorem u64_id {x : Int} (h0 : 0 ≤ x) (h1 : x ≤ 18446744073709551615) : IntKind.u64.wrap x = x := by
  rw [IntKind.wrap_u64]; omega
theorem tmod_bd {x m : Int} (h0 : 0 ≤ x) (hm : 0 < m) : 0 ≤ x.tmod m ∧ x.tmod m < m := by
  rw [Int.tmod_eq_emod_of_nonneg h0]
  exact ⟨Int.emod_nonneg _ (by omega), Int.emod_lt_of_pos _ hm⟩
theorem tdiv_bd {x m : Int} (h0 : 0 ≤ x) (hm : 0 ≤ m) : 0 ≤ x.tdiv m := Int.tdiv_nonneg h0 hm
structure I5 (E0 E : Env) (n : Nat) : Prop where
  ag : AgP 100 E0 E
  h131 : E.i 131 = n
  h130 : 0 ≤ E.i 130 ∧ E.i 130 ≤ 81
  le : 2 * (n : Int) ≤ E.i 130
  h132 : 1 ≤ E.i 132 ∧ 2 * (E.i 132 - 1) ≤ E.i 130
  S : SOk (E.a 121) n
theorem I5.up {E0 E E' : Env} {n : Nat} (h : I5 E0 E n) (H : AgE 1000 E E') : I5 E0 E' n where
  ag := h.ag.trans (by omega) H.p
  h131 := by rw [H.i 131 (by decide)]; exact h.h131
  h130 := by rw [H.i 130 (by decide)]; exact h.h130
  le := by rw [H.i 130 (by decide)]; exact h.le
  h132 := by rw [H.i 132 (by decide), H.i 130 (by decide)]; exact h.h132
  S := by rw [H.a 121 (by decide)]; exact h.S
theorem ct5_ok : CtOk Tryd.prog fns ct5 := by
  refine ct_of_ptsX (p := prm5 Tryd.prog) (pts := pts5 Tryd.prog) (n := 900) (c0 := enterD (prm5 Tryd.prog) ct5) (fun E hE => prm5_ok E hE) rfl (by intro q hq; cases hq) Tryd.func5 (by kernel_rfl) ?_ (fun E0 _ E => ∃ n, I5 E0 E n) (fun E0 _ E => (81 - E.i 130).toNat) jals jarun ?_ ?_
  · intro t ht
    simp only [pts5, List.mem_cons, List.not_mem_nil, or_false] at ht
    subst ht
    exact ⟨by kernel_rfl, by decide⟩
  · intro E0 hE0 hF
    refine ⟨fun a ha => (by cases ha; intro q hq; cases hq), fun E H1 _ x hx => ?_⟩
    unfold jals at hx
    simp only [List.mem_cons, List.not_mem_nil, or_false] at hx
    subst hx
    intro hf
    have H : AgP 100 E0 E := AgP.trans (by omega) (AgP.refl 100 E0) H1.p
    exact ⟨⟨_, rfl, .inl ⟨rfl, rfl⟩⟩, fun o => ⟨⟨0, { ag := H.put o, h131 := rfl, h130 := ⟨Int.le_refl 0, by show (0 : Int) ≤ 81; decide⟩, le := Int.le_refl 0, h132 := ⟨Int.le_refl 1, by show 2 * ((1 : Int) - 1) ≤ 0; decide⟩, S := fun i hi => absurd hi (Nat.not_lt_zero _) }⟩, fun b hb => by cases hb⟩⟩
  · intro k t ht
    have hk : k = 0 := by
      have := (List.getElem?_eq_some_iff.1 ht).1
      simp [pts5] at this; omega
    subst hk
    refine ⟨jp0ls, by rw [← ptD_some ht ct5.g]; exact jp0run, fun E0 E1 hE0 hE1 hF0 ⟨n, hI⟩ => ?_⟩
    have hby0 := bytes_of hE0 (hF0 ((.ap 16 (.a (.v 0) (.i (.v 1) .nil))), true) (by simp [ct5]))
    refine ⟨?_, fun E H1 _ x hx => ?_⟩
    · obtain rfl := Option.some.inj ht
      have k1 := hI.h131; have k2 := hI.h130; have k3 := hI.le; have k4 := hI.h132
      refine facts_append (facts_append (facts_append (hI.ag.facts (by decide) hF0) ?_) ?_) ?_
      · show Facts E1 [((.le (.c 0) (.v 130)), true), ((.le (.v 130) (.c 81)), true)]
        simp only [facts_cons, facts_nil, le_t, d_c, d_v, and_true]; omega
      · show Facts E1 [((.le (.c 0) (.v 131)), true), ((.le (.v 131) (.c 40)), true)]
        simp only [facts_cons, facts_nil, le_t, d_c, d_v, and_true]; omega
      · show Facts E1 [((.le (.c 1) (.v 132)), true), ((.le (.v 132) (.c 41)), true)]
        simp only [facts_cons, facts_nil, le_t, d_c, d_v, and_true]; omega
    · have hE : E.fn = fns := H1.fn.trans hE1
      have hJ := hI.up H1
      have k1 := hJ.h131; have k2 := hJ.h130; have k3 := hJ.le; have k4 := hJ.h132
      have i1 := hJ.ag.i 1 (by decide)
      have a0 : E.a 0 = E0.a 0 := hJ.ag.a 0 (by decide)
      have hm : E1.i 130 = E.i 130 := (H1.i 130 (by decide)).symm
      have hb0 : E.i 130 < E.i 1 → 0 ≤ jp0e5.den E ∧ jp0e5.den E ≤ 255 := fun h => by
        show 0 ≤ E.a 0 (E.i 130).toNat ∧ E.a 0 (E.i 130).toNat ≤ 255
        rw [a0]; exact hby0 _ (by omega)
      have hb1 : E.i 130 + 1 < E.i 1 → 0 ≤ jp0e2.den E ∧ jp0e2.den E ≤ 255 := fun h => by
        show 0 ≤ E.a 0 (E.i 130 + 1).toNat ∧ E.a 0 (E.i 130 + 1).toNat ≤ 255
        rw [a0]; exact hby0 _ (by omega)
      have hkd : 0 ≤ jp0e13.den E ∧ jp0e13.den E ≤ 3 := by
        have key : ∀ j, 0 ≤ jp0e11.den E j ∧ jp0e11.den E j ≤ 3 := fun j => by
          unfold jp0e11
          simp only [AE.den, d_c, Int.toNat_zero, Nat.not_lt_zero, if_false, Nat.sub_zero]
          match j with
          | 0 => exact (by show (0 : Int) ≤ 0 ∧ (0 : Int) ≤ 3; decide)
          | 1 => exact (by show (0 : Int) ≤ 0 ∧ (0 : Int) ≤ 3; decide)
          | 2 => exact (by show (0 : Int) ≤ 0 ∧ (0 : Int) ≤ 3; decide)
          | 3 => exact (by show (0 : Int) ≤ 0 ∧ (0 : Int) ≤ 3; decide)
          | 4 => exact (by show (0 : Int) ≤ 1 ∧ (1 : Int) ≤ 3; decide)
          | 5 => exact (by show (0 : Int) ≤ 2 ∧ (2 : Int) ≤ 3; decide)
          | 6 => exact (by show (0 : Int) ≤ 2 ∧ (2 : Int) ≤ 3; decide)
          | 7 => exact (by show (0 : Int) ≤ 3 ∧ (3 : Int) ≤ 3; decide)
          | j + 8 => exact ⟨Int.le_refl 0, by show (0 : Int) ≤ 3; decide⟩
        exact key _
      have vals : E.i 130 + 1 < E.i 1 → (0 ≤ jp0e3.den E ∧ jp0e3.den E ≤ 255) ∧ (0 ≤ jp0e4.den E ∧ jp0e4.den E < 24) ∧ (0 ≤ jp0e20.den E ∧ jp0e20.den E < 3) ∧ (0 ≤ jp0e18.den E ∧ jp0e18.den E ≤ jp0e4.den E) ∧ (0 ≤ jp0e26.den E ∧ jp0e26.den E ≤ E.i 132) ∧ (2 < jp0e4.den E → jp0e22.den E = jp0e4.den E - jp0e20.den E) := fun h => by
        obtain ⟨c0, c1⟩ := hb1 h
        have e : jp0e3.den E = jp0e2.den E := u64_id c0 (by omega)
        have f0 : 0 ≤ jp0e3.den E := by omega
        have f1 := tmod_bd f0 (show (0 : Int) < 24 by decide)
        have f2 := tmod_bd f0 (show (0 : Int) < 3 by decide)
        have f3 := tdiv_bd f0 (show (0 : Int) ≤ 3 by decide)
        have g1 : 0 ≤ jp0e4.den E ∧ jp0e4.den E < 24 := f1
        have g2 : 0 ≤ jp0e20.den E ∧ jp0e20.den E < 3 := f2
        have f4 : 0 ≤ jp0e18.den E ∧ jp0e18.den E < jp0e4.den E + 1 := tmod_bd f3 (show 0 < jp0e4.den E + 1 by omega)
        have f5 : 0 ≤ jp0e26.den E ∧ jp0e26.den E < E.i 132 + 1 := tmod_bd f3 (show 0 < E.i 132 + 1 by omega)
        refine ⟨by omega, g1, g2, by omega, by omega, fun h2 => ?_⟩
        exact u64_id (show 0 ≤ jp0e4.den E - jp0e20.den E by omega) (show jp0e4.den E - jp0e20.den E ≤ 18446744073709551615 by omega)
      have b5 : (jp0e15.den E).toNat = n * 5 := by
        show (E.i 131 * 5).toNat = _
        omega
      unfold jp0ls at hx
      simp only [List.mem_cons, List.not_mem_nil, or_false] at hx
      rcases hx with rfl | rfl | rfl | rfl | rfl | rfl | rfl | rfl | rfl | rfl | rfl | rfl | rfl | rfl | rfl | rfl | rfl | rfl | rfl | rfl | rfl
      · intro hf
        have h2 := hf (SB.lt jp0e1 (.v 1), true) (by simp)
        have h2' : E.i 130 + 1 < E.i 1 := by rw [lt_t] at h2; exact h2
        have h80 := hf (SB.lt (.v 130) (.c 80), true) (by simp)
        rw [lt_t, d_v, d_c] at h80
        obtain ⟨⟨v1, v2⟩, ⟨v3, v4⟩, ⟨v5, v6⟩, ⟨v7, v8⟩, ⟨v9, v10⟩, v11⟩ := vals h2'
        refine ⟨⟨_, rfl, .inr ⟨rfl, rfl⟩⟩, fun o => ⟨⟨n, { ag := hJ.ag.put o, h131 := k1, h130 := (by show 0 ≤ E.i 130 + 2 ∧ E.i 130 + 2 ≤ 81; omega), le := (by show 2 * (n : Int) ≤ E.i 130 + 2; omega), h132 := (by show 1 ≤ E.i 132 ∧ 2 * (E.i 132 - 1) ≤ E.i 130 + 2; omega), S := hJ.S }⟩, fun b hb => ?_⟩⟩
        obtain rfl := Option.some.inj hb
        show (81 - (E.i 130 + 2)).toNat < (81 - E1.i 130).toNat
        omega
      · intro hf
        have h2 := hf (SB.lt jp0e1 (.v 1), true) (by simp)
        have h2' : E.i 130 + 1 < E.i 1 := by rw [lt_t] at h2; exact h2
        have h80 := hf (SB.lt (.v 130) (.c 80), true) (by simp)
        rw [lt_t, d_v, d_c] at h80
        obtain ⟨⟨v1, v2⟩, ⟨v3, v4⟩, ⟨v5, v6⟩, ⟨v7, v8⟩, ⟨v9, v10⟩, v11⟩ := vals h2'
        have hk := hf (SB.eq jp0e13 (.c 0), true) (by simp)
        rw [eq_t, d_c] at hk
        refine ⟨⟨_, rfl, .inr ⟨rfl, rfl⟩⟩, fun o => ⟨⟨n + 1, { ag := hJ.ag.put o, h131 := (by show E.i 131 + 1 = _; omega), h130 := (by show 0 ≤ E.i 130 + 2 ∧ E.i 130 + 2 ≤ 81; omega), le := (by show 2 * ((n + 1 : Nat) : Int) ≤ E.i 130 + 2; omega), h132 := (by show 1 ≤ E.i 132 ∧ 2 * (E.i 132 - 1) ≤ E.i 130 + 2; omega), S := (hJ.S.snoc (l := fun u => SL.nth E ((.i jp0e13 (.i jp0e4 (.i jp0e18 (.i jp0e4 (.i jp0e4 .nil)))))) u) (fun t => tlE b5 t) (by show 0 ≤ jp0e13.den E ∧ jp0e13.den E ≤ 3; omega) (by show 0 ≤ jp0e4.den E ∧ jp0e4.den E ≤ 25500; omega) (by show 0 ≤ jp0e18.den E ∧ jp0e18.den E ≤ jp0e4.den E; omega) (by show jp0e13.den E = 0 → jp0e4.den E ≤ 255 ∧ jp0e4.den E = jp0e4.den E ∧ jp0e4.den E = jp0e4.den E; omega)) }⟩, fun b hb => ?_⟩⟩
        obtain rfl := Option.some.inj hb
        show (81 - (E.i 130 + 2)).toNat < (81 - E1.i 130).toNat
        omega
      · intro hf
        have h2 := hf (SB.lt jp0e1 (.v 1), true) (by simp)
        have h2' : E.i 130 + 1 < E.i 1 := by rw [lt_t] at h2; exact h2
        have h80 := hf (SB.lt (.v 130) (.c 80), true) (by simp)
        rw [lt_t, d_v, d_c] at h80
        obtain ⟨⟨v1, v2⟩, ⟨v3, v4⟩, ⟨v5, v6⟩, ⟨v7, v8⟩, ⟨v9, v10⟩, v11⟩ := vals h2'
        refine ⟨⟨_, rfl, .inr ⟨rfl, rfl⟩⟩, fun o => ⟨⟨n, { ag := hJ.ag.put o, h131 := k1, h130 := (by show 0 ≤ E.i 130 + 2 ∧ E.i 130 + 2 ≤ 81; omega), le := (by show 2 * (n : Int) ≤ E.i 130 + 2; omega), h132 := (by show 1 ≤ E.i 132 ∧ 2 * (E.i 132 - 1) ≤ E.i 130 + 2; omega), S := hJ.S }⟩, fun b hb => ?_⟩⟩
        obtain rfl := Option.some.inj hb
        show (81 - (E.i 130 + 2)).toNat < (81 - E1.i 130).toNat
        omega
      · intro hf
        have h2 := hf (SB.lt jp0e1 (.v 1), true) (by simp)
        have h2' : E.i 130 + 1 < E.i 1 := by rw [lt_t] at h2; exact h2
        have h80 := hf (SB.lt (.v 130) (.c 80), true) (by simp)
        rw [lt_t, d_v, d_c] at h80
        obtain ⟨⟨v1, v2⟩, ⟨v3, v4⟩, ⟨v5, v6⟩, ⟨v7, v8⟩, ⟨v9, v10⟩, v11⟩ := vals h2'
        have hg := hf (SB.lt (.c 2) jp0e4, true) (by simp)
        rw [lt_t, d_c] at hg
        have hg2 := v11 hg
        have hk := hf (SB.eq jp0e13 (.c 0), true) (by simp)
        rw [eq_t, d_c] at hk
        refine ⟨⟨_, rfl, .inr ⟨rfl, rfl⟩⟩, fun o => ⟨⟨n + 1, { ag := hJ.ag.put o, h131 := (by show E.i 131 + 1 = _; omega), h130 := (by show 0 ≤ E.i 130 + 2 ∧ E.i 130 + 2 ≤ 81; omega), le := (by show 2 * ((n + 1 : Nat) : Int) ≤ E.i 130 + 2; omega), h132 := (by show 1 ≤ E.i 132 ∧ 2 * (E.i 132 - 1) ≤ E.i 130 + 2; omega), S := (hJ.S.snoc (l := fun u => SL.nth E ((.i jp0e13 (.i jp0e4 (.i jp0e22 (.i jp0e4 (.i jp0e4 .nil)))))) u) (fun t => tlE b5 t) (by show 0 ≤ jp0e13.den E ∧ jp0e13.den E ≤ 3; omega) (by show 0 ≤ jp0e4.den E ∧ jp0e4.den E ≤ 25500; omega) (by show 0 ≤ jp0e22.den E ∧ jp0e22.den E ≤ jp0e4.den E; omega) (by show jp0e13.den E = 0 → jp0e4.den E ≤ 255 ∧ jp0e4.den E = jp0e4.den E ∧ jp0e4.den E = jp0e4.den E; omega)) }⟩, fun b hb => ?_⟩⟩
        obtain rfl := Option.some.inj hb
        show (81 - (E.i 130 + 2)).toNat < (81 - E1.i 130).toNat
        omega
      · intro hf
        have h2 := hf (SB.lt jp0e1 (.v 1), true) (by simp)
        have h2' : E.i 130 + 1 < E.i 1 := by rw [lt_t] at h2; exact h2
        have h80 := hf (SB.lt (.v 130) (.c 80), true) (by simp)
        rw [lt_t, d_v, d_c] at h80
        obtain ⟨⟨v1, v2⟩, ⟨v3, v4⟩, ⟨v5, v6⟩, ⟨v7, v8⟩, ⟨v9, v10⟩, v11⟩ := vals h2'
        refine ⟨⟨_, rfl, .inr ⟨rfl, rfl⟩⟩, fun o => ⟨⟨n, { ag := hJ.ag.put o, h131 := k1, h130 := (by show 0 ≤ E.i 130 + 2 ∧ E.i 130 + 2 ≤ 81; omega), le := (by show 2 * (n : Int) ≤ E.i 130 + 2; omega), h132 := (by show 1 ≤ E.i 132 ∧ 2 * (E.i 132 - 1) ≤ E.i 130 + 2; omega), S := hJ.S }⟩, fun b hb => ?_⟩⟩
        obtain rfl := Option.some.inj hb
        show (81 - (E.i 130 + 2)).toNat < (81 - E1.i 130).toNat
        omega
      · intro hf
        have h2 := hf (SB.lt jp0e1 (.v 1), true) (by simp)
        have h2' : E.i 130 + 1 < E.i 1 := by rw [lt_t] at h2; exact h2
        have h80 := hf (SB.lt (.v 130) (.c 80), true) (by simp)
        rw [lt_t, d_v, d_c] at h80
        obtain ⟨⟨v1, v2⟩, ⟨v3, v4⟩, ⟨v5, v6⟩, ⟨v7, v8⟩, ⟨v9, v10⟩, v11⟩ := vals h2'
        have hk := hf (SB.eq jp0e13 (.c 0), true) (by simp)
        rw [eq_t, d_c] at hk
        refine ⟨⟨_, rfl, .inr ⟨rfl, rfl⟩⟩, fun o => ⟨⟨n + 1, { ag := hJ.ag.put o, h131 := (by show E.i 131 + 1 = _; omega), h130 := (by show 0 ≤ E.i 130 + 2 ∧ E.i 130 + 2 ≤ 81; omega), le := (by show 2 * ((n + 1 : Nat) : Int) ≤ E.i 130 + 2; omega), h132 := (by show 1 ≤ E.i 132 ∧ 2 * (E.i 132 - 1) ≤ E.i 130 + 2; omega), S := (hJ.S.snoc (l := fun u => SL.nth E ((.i jp0e13 (.i jp0e4 (.i (.c 0) (.i jp0e4 (.i jp0e4 .nil)))))) u) (fun t => tlE b5 t) (by show 0 ≤ jp0e13.den E ∧ jp0e13.den E ≤ 3; omega) (by show 0 ≤ jp0e4.den E ∧ jp0e4.den E ≤ 25500; omega) (by show 0 ≤ 0 ∧ 0 ≤ jp0e4.den E; omega) (by show jp0e13.den E = 0 → jp0e4.den E ≤ 255 ∧ jp0e4.den E = jp0e4.den E ∧ jp0e4.den E = jp0e4.den E; omega)) }⟩, fun b hb => ?_⟩⟩
        obtain rfl := Option.some.inj hb
        show (81 - (E.i 130 + 2)).toNat < (81 - E1.i 130).toNat
        omega
      · intro hf
        have h2 := hf (SB.lt jp0e1 (.v 1), true) (by simp)
        have h2' : E.i 130 + 1 < E.i 1 := by rw [lt_t] at h2; exact h2
        have h80 := hf (SB.lt (.v 130) (.c 80), true) (by simp)
        rw [lt_t, d_v, d_c] at h80
        obtain ⟨⟨v1, v2⟩, ⟨v3, v4⟩, ⟨v5, v6⟩, ⟨v7, v8⟩, ⟨v9, v10⟩, v11⟩ := vals h2'
        refine ⟨⟨_, rfl, .inr ⟨rfl, rfl⟩⟩, fun o => ⟨⟨n, { ag := hJ.ag.put o, h131 := k1, h130 := (by show 0 ≤ E.i 130 + 2 ∧ E.i 130 + 2 ≤ 81; omega), le := (by show 2 * (n : Int) ≤ E.i 130 + 2; omega), h132 := (by show 1 ≤ E.i 132 ∧ 2 * (E.i 132 - 1) ≤ E.i 130 + 2; omega), S := hJ.S }⟩, fun b hb => ?_⟩⟩
        obtain rfl := Option.some.inj hb
        show (81 - (E.i 130 + 2)).toNat < (81 - E1.i 130).toNat
        omega
      · intro hf
        have h2 := hf (SB.lt jp0e1 (.v 1), true) (by simp)
        have h2' : E.i 130 + 1 < E.i 1 := by rw [lt_t] at h2; exact h2
        have h80 := hf (SB.lt (.v 130) (.c 80), true) (by simp)
        rw [lt_t, d_v, d_c] at h80
        obtain ⟨⟨v1, v2⟩, ⟨v3, v4⟩, ⟨v5, v6⟩, ⟨v7, v8⟩, ⟨v9, v10⟩, v11⟩ := vals h2'
        have hk := hf (SB.eq jp0e13 (.c 0), true) (by simp)
        rw [eq_t, d_c] at hk
        refine ⟨⟨_, rfl, .inr ⟨rfl, rfl⟩⟩, fun o => ⟨⟨n + 1, { ag := hJ.ag.put o, h131 := (by show E.i 131 + 1 = _; omega), h130 := (by show 0 ≤ E.i 130 + 2 ∧ E.i 130 + 2 ≤ 81; omega), le := (by show 2 * ((n + 1 : Nat) : Int) ≤ E.i 130 + 2; omega), h132 := (by show 1 ≤ E.i 132 ∧ 2 * (E.i 132 - 1) ≤ E.i 130 + 2; omega), S := (hJ.S.snoc (l := fun u => SL.nth E ((.i jp0e13 (.i jp0e4 (.i (.c 0) (.i jp0e4 (.i jp0e4 .nil)))))) u) (fun t => tlE b5 t) (by show 0 ≤ jp0e13.den E ∧ jp0e13.den E ≤ 3; omega) (by show 0 ≤ jp0e4.den E ∧ jp0e4.den E ≤ 25500; omega) (by show 0 ≤ 0 ∧ 0 ≤ jp0e4.den E; omega) (by show jp0e13.den E = 0 → jp0e4.den E ≤ 255 ∧ jp0e4.den E = jp0e4.den E ∧ jp0e4.den E = jp0e4.den E; omega)) }⟩, fun b hb => ?_⟩⟩
        obtain rfl := Option.some.inj hb
        show (81 - (E.i 130 + 2)).toNat < (81 - E1.i 130).toNat
        omega
      · intro hf
        have h2 := hf (SB.lt jp0e1 (.v 1), true) (by simp)
        have h2' : E.i 130 + 1 < E.i 1 := by rw [lt_t] at h2; exact h2
        have h80 := hf (SB.lt (.v 130) (.c 80), true) (by simp)
        rw [lt_t, d_v, d_c] at h80
        obtain ⟨⟨v1, v2⟩, ⟨v3, v4⟩, ⟨v5, v6⟩, ⟨v7, v8⟩, ⟨v9, v10⟩, v11⟩ := vals h2'
        have hk := hf (SB.eq jp0e13 (.c 0), true) (by simp)
        rw [eq_t, d_c] at hk
        refine ⟨⟨_, rfl, .inr ⟨rfl, rfl⟩⟩, fun o => ⟨⟨n + 1, { ag := hJ.ag.put o, h131 := (by show E.i 131 + 1 = _; omega), h130 := (by show 0 ≤ E.i 130 + 2 ∧ E.i 130 + 2 ≤ 81; omega), le := (by show 2 * ((n + 1 : Nat) : Int) ≤ E.i 130 + 2; omega), h132 := (by show 1 ≤ (E.i 132 + 1) ∧ 2 * ((E.i 132 + 1) - 1) ≤ E.i 130 + 2; omega), S := (hJ.S.snoc (l := fun u => SL.nth E ((.i jp0e13 (.i (.v 132) (.i jp0e26 (.i (.v 132) (.i (.v 132) .nil)))))) u) (fun t => tlE b5 t) (by show 0 ≤ jp0e13.den E ∧ jp0e13.den E ≤ 3; omega) (by show 0 ≤ E.i 132 ∧ E.i 132 ≤ 25500; omega) (by show 0 ≤ jp0e26.den E ∧ jp0e26.den E ≤ E.i 132; omega) (by show jp0e13.den E = 0 → E.i 132 ≤ 255 ∧ E.i 132 = E.i 132 ∧ E.i 132 = E.i 132; omega)) }⟩, fun b hb => ?_⟩⟩
        obtain rfl := Option.some.inj hb
        show (81 - (E.i 130 + 2)).toNat < (81 - E1.i 130).toNat
        omega
      · intro hf
        have h2 := hf (SB.lt jp0e1 (.v 1), true) (by simp)
        have h2' : E.i 130 + 1 < E.i 1 := by rw [lt_t] at h2; exact h2
        have h80 := hf (SB.lt (.v 130) (.c 80), true) (by simp)
        rw [lt_t, d_v, d_c] at h80
        obtain ⟨⟨v1, v2⟩, ⟨v3, v4⟩, ⟨v5, v6⟩, ⟨v7, v8⟩, ⟨v9, v10⟩, v11⟩ := vals h2'
        have hg := hf (SB.lt (.c 2) (.v 132), true) (by simp)
        rw [lt_t, d_c, d_v] at hg
        have hk := hf (SB.eq jp0e13 (.c 0), true) (by simp)
        rw [eq_t, d_c] at hk
        refine ⟨⟨_, rfl, .inr ⟨rfl, rfl⟩⟩, fun o => ⟨⟨n + 1, { ag := hJ.ag.put o, h131 := (by show E.i 131 + 1 = _; omega), h130 := (by show 0 ≤ E.i 130 + 2 ∧ E.i 130 + 2 ≤ 81; omega), le := (by show 2 * ((n + 1 : Nat) : Int) ≤ E.i 130 + 2; omega), h132 := (by show 1 ≤ (E.i 132 + 1) ∧ 2 * ((E.i 132 + 1) - 1) ≤ E.i 130 + 2; omega), S := (hJ.S.snoc (l := fun u => SL.nth E ((.i jp0e13 (.i (.v 132) (.i jp0e28 (.i (.v 132) (.i (.v 132) .nil)))))) u) (fun t => tlE b5 t) (by show 0 ≤ jp0e13.den E ∧ jp0e13.den E ≤ 3; omega) (by show 0 ≤ E.i 132 ∧ E.i 132 ≤ 25500; omega) (by show 0 ≤ (E.i 132 - jp0e20.den E) ∧ (E.i 132 - jp0e20.den E) ≤ E.i 132; omega) (by show jp0e13.den E = 0 → E.i 132 ≤ 255 ∧ E.i 132 = E.i 132 ∧ E.i 132 = E.i 132; omega)) }⟩, fun b hb => ?_⟩⟩
        obtain rfl := Option.some.inj hb
        show (81 - (E.i 130 + 2)).toNat < (81 - E1.i 130).toNat
        omega
      · intro hf
        have h2 := hf (SB.lt jp0e1 (.v 1), true) (by simp)
        have h2' : E.i 130 + 1 < E.i 1 := by rw [lt_t] at h2; exact h2
        have h80 := hf (SB.lt (.v 130) (.c 80), true) (by simp)
        rw [lt_t, d_v, d_c] at h80
        obtain ⟨⟨v1, v2⟩, ⟨v3, v4⟩, ⟨v5, v6⟩, ⟨v7, v8⟩, ⟨v9, v10⟩, v11⟩ := vals h2'
        have hk := hf (SB.eq jp0e13 (.c 0), true) (by simp)
        rw [eq_t, d_c] at hk
        refine ⟨⟨_, rfl, .inr ⟨rfl, rfl⟩⟩, fun o => ⟨⟨n + 1, { ag := hJ.ag.put o, h131 := (by show E.i 131 + 1 = _; omega), h130 := (by show 0 ≤ E.i 130 + 2 ∧ E.i 130 + 2 ≤ 81; omega), le := (by show 2 * ((n + 1 : Nat) : Int) ≤ E.i 130 + 2; omega), h132 := (by show 1 ≤ (E.i 132 + 1) ∧ 2 * ((E.i 132 + 1) - 1) ≤ E.i 130 + 2; omega), S := (hJ.S.snoc (l := fun u => SL.nth E ((.i jp0e13 (.i (.v 132) (.i (.c 0) (.i (.v 132) (.i (.v 132) .nil)))))) u) (fun t => tlE b5 t) (by show 0 ≤ jp0e13.den E ∧ jp0e13.den E ≤ 3; omega) (by show 0 ≤ E.i 132 ∧ E.i 132 ≤ 25500; omega) (by show 0 ≤ 0 ∧ 0 ≤ E.i 132; omega) (by show jp0e13.den E = 0 → E.i 132 ≤ 255 ∧ E.i 132 = E.i 132 ∧ E.i 132 = E.i 132; omega)) }⟩, fun b hb => ?_⟩⟩
        obtain rfl := Option.some.inj hb
        show (81 - (E.i 130 + 2)).toNat < (81 - E1.i 130).toNat
        omega
      · intro hf
        have h2 := hf (SB.lt jp0e1 (.v 1), true) (by simp)
        have h2' : E.i 130 + 1 < E.i 1 := by rw [lt_t] at h2; exact h2
        have h80 := hf (SB.lt (.v 130) (.c 80), true) (by simp)
        rw [lt_t, d_v, d_c] at h80
        obtain ⟨⟨v1, v2⟩, ⟨v3, v4⟩, ⟨v5, v6⟩, ⟨v7, v8⟩, ⟨v9, v10⟩, v11⟩ := vals h2'
        have hk := hf (SB.eq jp0e13 (.c 0), true) (by simp)
        rw [eq_t, d_c] at hk
        refine ⟨⟨_, rfl, .inr ⟨rfl, rfl⟩⟩, fun o => ⟨⟨n + 1, { ag := hJ.ag.put o, h131 := (by show E.i 131 + 1 = _; omega), h130 := (by show 0 ≤ E.i 130 + 2 ∧ E.i 130 + 2 ≤ 81; omega), le := (by show 2 * ((n + 1 : Nat) : Int) ≤ E.i 130 + 2; omega), h132 := (by show 1 ≤ (E.i 132 + 1) ∧ 2 * ((E.i 132 + 1) - 1) ≤ E.i 130 + 2; omega), S := (hJ.S.snoc (l := fun u => SL.nth E ((.i jp0e13 (.i (.v 132) (.i (.c 0) (.i (.v 132) (.i (.v 132) .nil)))))) u) (fun t => tlE b5 t) (by show 0 ≤ jp0e13.den E ∧ jp0e13.den E ≤ 3; omega) (by show 0 ≤ E.i 132 ∧ E.i 132 ≤ 25500; omega) (by show 0 ≤ 0 ∧ 0 ≤ E.i 132; omega) (by show jp0e13.den E = 0 → E.i 132 ≤ 255 ∧ E.i 132 = E.i 132 ∧ E.i 132 = E.i 132; omega)) }⟩, fun b hb => ?_⟩⟩
        obtain rfl := Option.some.inj hb
        show (81 - (E.i 130 + 2)).toNat < (81 - E1.i 130).toNat
        omega
      · intro hf
        have h2 := hf (SB.lt jp0e1 (.v 1), true) (by simp)
        have h2' : E.i 130 + 1 < E.i 1 := by rw [lt_t] at h2; exact h2
        have h80 := hf (SB.lt (.v 130) (.c 80), true) (by simp)
        rw [lt_t, d_v, d_c] at h80
        obtain ⟨⟨v1, v2⟩, ⟨v3, v4⟩, ⟨v5, v6⟩, ⟨v7, v8⟩, ⟨v9, v10⟩, v11⟩ := vals h2'
        have hk := hf (SB.eq jp0e13 (.c 0), false) (by simp)
        have hk : ¬ jp0e13.den E = 0 := by simpa [SB.den, SE.den] using hk
        refine ⟨⟨_, rfl, .inr ⟨rfl, rfl⟩⟩, fun o => ⟨⟨n + 1, { ag := hJ.ag.put o, h131 := (by show E.i 131 + 1 = _; omega), h130 := (by show 0 ≤ E.i 130 + 2 ∧ E.i 130 + 2 ≤ 81; omega), le := (by show 2 * ((n + 1 : Nat) : Int) ≤ E.i 130 + 2; omega), h132 := (by show 1 ≤ E.i 132 ∧ 2 * (E.i 132 - 1) ≤ E.i 130 + 2; omega), S := (hJ.S.snoc (l := fun u => SL.nth E ((.i jp0e13 (.i jp0e31 (.i (.c 0) (.i (.c 0) (.i (.c 0) .nil)))))) u) (fun t => tlE b5 t) (by show 0 ≤ jp0e13.den E ∧ jp0e13.den E ≤ 3; omega) (by show 0 ≤ (jp0e3.den E * 100) ∧ (jp0e3.den E * 100) ≤ 25500; omega) (by show 0 ≤ 0 ∧ 0 ≤ (jp0e3.den E * 100); omega) (by show jp0e13.den E = 0 → (jp0e3.den E * 100) ≤ 255 ∧ 0 = (jp0e3.den E * 100) ∧ 0 = (jp0e3.den E * 100); omega)) }⟩, fun b hb => ?_⟩⟩
        obtain rfl := Option.some.inj hb
        show (81 - (E.i 130 + 2)).toNat < (81 - E1.i 130).toNat
        omega
      · intro hf
        have h2 := hf (SB.lt jp0e1 (.v 1), true) (by simp)
        have h2' : E.i 130 + 1 < E.i 1 := by rw [lt_t] at h2; exact h2
        have h80 := hf (SB.lt (.v 130) (.c 80), true) (by simp)
        rw [lt_t, d_v, d_c] at h80
        obtain ⟨⟨v1, v2⟩, ⟨v3, v4⟩, ⟨v5, v6⟩, ⟨v7, v8⟩, ⟨v9, v10⟩, v11⟩ := vals h2'
        have hk := hf (SB.eq jp0e13 (.c 0), false) (by simp)
        have hk : ¬ jp0e13.den E = 0 := by simpa [SB.den, SE.den] using hk
        refine ⟨⟨_, rfl, .inr ⟨rfl, rfl⟩⟩, fun o => ⟨⟨n + 1, { ag := hJ.ag.put o, h131 := (by show E.i 131 + 1 = _; omega), h130 := (by show 0 ≤ E.i 130 + 2 ∧ E.i 130 + 2 ≤ 81; omega), le := (by show 2 * ((n + 1 : Nat) : Int) ≤ E.i 130 + 2; omega), h132 := (by show 1 ≤ E.i 132 ∧ 2 * (E.i 132 - 1) ≤ E.i 130 + 2; omega), S := (hJ.S.snoc (l := fun u => SL.nth E ((.i jp0e13 (.i (.c 0) (.i (.c 0) (.i (.c 0) (.i (.c 0) .nil)))))) u) (fun t => tlE b5 t) (by show 0 ≤ jp0e13.den E ∧ jp0e13.den E ≤ 3; omega) (by show 0 ≤ 0 ∧ 0 ≤ 25500; omega) (by show 0 ≤ 0 ∧ 0 ≤ 0; omega) (by show jp0e13.den E = 0 → 0 ≤ 255 ∧ 0 = 0 ∧ 0 = 0; omega)) }⟩, fun b hb => ?_⟩⟩
        obtain rfl := Option.some.inj hb
        show (81 - (E.i 130 + 2)).toNat < (81 - E1.i 130).toNat
        omega
      · intro hf
        have h1 := hf (SB.le jp0e2 (.c 255), false) (by simp)
        have h2 := hf (SB.lt jp0e1 (.v 1), true) (by simp)
        have h2' : E.i 130 + 1 < E.i 1 := by rw [lt_t] at h2; exact h2
        have c0 := hb0 (by omega)
        have c1 := hb1 h2'
        rw [le_f] at h1
        simp only [d_c, d_v] at h1
        omega
      · intro hf
        have h1 := hf (SB.le (.c 0) jp0e2, false) (by simp)
        have h2 := hf (SB.lt jp0e1 (.v 1), true) (by simp)
        have h2' : E.i 130 + 1 < E.i 1 := by rw [lt_t] at h2; exact h2
        have c0 := hb0 (by omega)
        have c1 := hb1 h2'
        rw [le_f] at h1
        simp only [d_c, d_v] at h1
        omega
      · intro hf
        have h1 := hf (SB.le jp0e5 (.c 255), false) (by simp)
        have h2 := hf (SB.lt jp0e1 (.v 1), true) (by simp)
        have h2' : E.i 130 + 1 < E.i 1 := by rw [lt_t] at h2; exact h2
        have c0 := hb0 (by omega)
        have c1 := hb1 h2'
        rw [le_f] at h1
        simp only [d_c, d_v] at h1
        omega
      · intro hf
        have h1 := hf (SB.le (.c 0) jp0e5, false) (by simp)
        have h2 := hf (SB.lt jp0e1 (.v 1), true) (by simp)
        have h2' : E.i 130 + 1 < E.i 1 := by rw [lt_t] at h2; exact h2
        have c0 := hb0 (by omega)
        have c1 := hb1 h2'
        rw [le_f] at h1
        simp only [d_c, d_v] at h1
        omega
      · intro hf
        have h1 := hf (SB.lt (.v 130) (.v 1), false) (by simp)
        have h2 := hf (SB.lt jp0e1 (.v 1), true) (by simp)
        have h2' : E.i 130 + 1 < E.i 1 := by rw [lt_t] at h2; exact h2
        have c0 := hb0 (by omega)
        have c1 := hb1 h2'
        rw [lt_f] at h1
        simp only [d_c, d_v] at h1
        omega
      · intro hf
        obtain ⟨V, hV⟩ : ∃ V : Env, V = { E0 with i := fun _ => E.i 131, a := fun _ => E.a 121 } := ⟨_, rfl⟩
        have HU : AgE 500 E0 (E0.upd xb 1 V) := Env.upd_ag E0 xb 1 V
        have HJ : AgP 100 (E0.upd xb 1 V) E := ⟨fun j hj => (hJ.ag.i j hj).trans (HU.i j (by omega)).symm, fun j hj => (hJ.ag.b j hj).trans (HU.b j (by omega)).symm, fun j hj => (hJ.ag.a j hj).trans (HU.a j (by omega)).symm, hJ.ag.fn.trans HU.fn.symm⟩
        have hEU : (E0.upd xb 1 V).fn = fns := HU.fn.trans hE0
        have u500 : (E0.upd xb 1 V).a 500 = E.a 121 := by
          show (if xb ≤ 500 ∧ 500 < xb + 1 then V.a (xb + (500 - xb)) else E0.a 500) = _
          rw [if_pos ⟨by decide, by decide⟩, hV]
        have v500 : (E0.upd xb 1 V).i 500 = E.i 131 := by
          show (if xb ≤ 500 ∧ 500 < xb + 1 then V.i (xb + (500 - xb)) else E0.i 500) = _
          rw [if_pos ⟨by decide, by decide⟩, hV]
        refine ⟨rfl, V, ?_, fun a' ha' => ?_⟩
        · have r1 : (Eqn.a (.v 0) (.v 0) (.v 1) 1).ok E (E0.upd xb 1 V) := Eqn.a_ag HJ _ _ _ rfl
          have r2 : (Eqn.a (.v 121) (.v 500) (.v 500) 5).ok E (E0.upd xb 1 V) := fun j hj => by rw [d_av, d_av, u500]
          have r3 : (Eqn.i (.v 131) (.v 500)).ok E (E0.upd xb 1 V) := v500.symm
          (simp only [List.forall_mem_cons, List.not_mem_nil, false_imp_iff, implies_true, and_true]; (repeat' apply And.intro); all_goals (first | exact Eqn.i_ag (n := 100) (by assumption) _ rfl | exact Eqn.b_ag (n := 100) (by assumption) _ rfl | assumption))
        · cases ha'
          intro q hq
          simp only [bd, List.cons_append, List.nil_append, List.mem_cons, List.not_mem_nil, or_false] at hq
          rcases hq with rfl | rfl | rfl
          · show (SB.le (.c 0) (.v 500)).den (E0.upd xb 1 V) = true
            rw [le_t, d_c, d_v, v500]; omega
          · show (SB.le (.v 500) (.c 40)).den (E0.upd xb 1 V) = true
            rw [le_t, d_c, d_v, v500]; omega
          · show (E0.upd xb 1 V).fn.g 3 [.a ((AE.v 500).den (E0.upd xb 1 V)), .i ((E0.upd xb 1 V).i 500)] = true
            rw [hEU, v500, show (AE.v 500).den (E0.upd xb 1 V) = E.a 121 from by funext j; rw [d_av, u500], k1]
            show @decide (SOk (E.a 121) (n : Int).toNat) (Classical.propDecidable _) = true
            exact @decide_eq_true _ (Classical.propDecidable _) hJ.S
      · intro hf
        obtain ⟨V, hV⟩ : ∃ V : Env, V = { E0 with i := fun _ => E.i 131, a := fun _ => E.a 121 } := ⟨_, rfl⟩
        have HU : AgE 500 E0 (E0.upd xb 1 V) := Env.upd_ag E0 xb 1 V
        have HJ : AgP 100 (E0.upd xb 1 V) E := ⟨fun j hj => (hJ.ag.i j hj).trans (HU.i j (by omega)).symm, fun j hj => (hJ.ag.b j hj).trans (HU.b j (by omega)).symm, fun j hj => (hJ.ag.a j hj).trans (HU.a j (by omega)).symm, hJ.ag.fn.trans HU.fn.symm⟩
        have hEU : (E0.upd xb 1 V).fn = fns := HU.fn.trans hE0
        have u500 : (E0.upd xb 1 V).a 500 = E.a 121 := by
          show (if xb ≤ 500 ∧ 500 < xb + 1 then V.a (xb + (500 - xb)) else E0.a 500) = _
          rw [if_pos ⟨by decide, by decide⟩, hV]
        have v500 : (E0.upd xb 1 V).i 500 = E.i 131 := by
          show (if xb ≤ 500 ∧ 500 < xb + 1 then V.i (xb + (500 - xb)) else E0.i 500) = _
          rw [if_pos ⟨by decide, by decide⟩, hV]
        refine ⟨rfl, V, ?_, fun a' ha' => ?_⟩
        · have r1 : (Eqn.a (.v 0) (.v 0) (.v 1) 1).ok E (E0.upd xb 1 V) := Eqn.a_ag HJ _ _ _ rfl
          have r2 : (Eqn.a (.v 121) (.v 500) (.v 500) 5).ok E (E0.upd xb 1 V) := fun j hj => by rw [d_av, d_av, u500]
          have r3 : (Eqn.i (.v 131) (.v 500)).ok E (E0.upd xb 1 V) := v500.symm
          (simp only [List.forall_mem_cons, List.not_mem_nil, false_imp_iff, implies_true, and_true]; (repeat' apply And.intro); all_goals (first | exact Eqn.i_ag (n := 100) (by assumption) _ rfl | exact Eqn.b_ag (n := 100) (by assumption) _ rfl | assumption))
        · cases ha'
          intro q hq
          simp only [bd, List.cons_append, List.nil_append, List.mem_cons, List.not_mem_nil, or_false] at hq
          rcases hq with rfl | rfl | rfl
          · show (SB.le (.c 0) (.v 500)).den (E0.upd xb 1 V) = true
            rw [le_t, d_c, d_v, v500]; omega
          · show (SB.le (.v 500) (.c 40)).den (E0.upd xb 1 V) = true
            rw [le_t, d_c, d_v, v500]; omega
          · show (E0.upd xb 1 V).fn.g 3 [.a ((AE.v 500).den (E0.upd xb 1 V)), .i ((E0.upd xb 1 V).i 500)] = true
            rw [hEU, v500, show (AE.v 500).den (E0.upd xb 1 V) = E.a 121 from by funext j; rw [d_av, u500], k1]
            show @decide (SOk (E.a 121) (n : Int).toNat) (Classical.propDecidable _) = true
            exact @decide_eq_true _ (Classical.propDecidable _) hJ.S
end Go.Proofs.YtjanndmmhjnpcaaDoor
