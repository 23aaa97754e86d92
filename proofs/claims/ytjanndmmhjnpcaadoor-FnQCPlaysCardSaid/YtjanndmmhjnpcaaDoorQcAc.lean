/- FnQCPlays keeps its contract. -/
import Derived.Test.YtjanndmmhjnpcaaDoorQcAb
import Derived.Test.YtjanndmmhjnpcaaDoorQcY
import Derived.KernelRfl
set_option autoImplicit true
set_option relaxedAutoImplicit true
set_option linter.unusedVariables false
set_option linter.unusedSimpArgs false
set_option maxRecDepth 100000
set_option maxHeartbeats 8000000
namespace Go.Proofs.YtjanndmmhjnpcaaDoor
open Go Go.Sy Go.RowKit
noncomputable def zax0 : Vl := .out 0 [.a (.v 0) (.v 0) (.v 1) 1, .i (.v 1) (.v 1)] [((.lt (.c 2147483647) (.v 1)), true), ((.le (.c 0) (.v 30)), true), ((.le (.v 30) (.c 255)), true), ((.le (.c 0) (.v 12)), true), ((.le (.v 12) (.c 4294967295)), true), ((.le (.c 0) (.v 1)), true), ((.le (.v 1) (.v 3)), true), ((.ap 16 (.a (.v 0) (.i (.v 1) .nil))), true)]
noncomputable def zax1 : Vl := .go 0 [(131, (.c 0)), (114, (.c 0)), (113, (.c 0)), (111, (.c 0)), (110, (.c 0)), (130, (.c 0)), (140, (.v 1000))] [(100, (.c false))] [(105, (.v 1000))] [((.le (.c 0) (.v 1000)), true), ((.le (.v 1000) (.c 40)), true), ((.ap 3 (.a (.v 1000) (.i (.v 1000) .nil))), true), ((.lt (.c 2147483647) (.v 1)), false), ((.le (.c 0) (.v 30)), true), ((.le (.v 30) (.c 255)), true), ((.le (.c 0) (.v 12)), true), ((.le (.v 12) (.c 4294967295)), true), ((.le (.c 0) (.v 1)), true), ((.le (.v 1) (.v 3)), true), ((.ap 16 (.a (.v 0) (.i (.v 1) .nil))), true)] (.code (.loop (loopB (prm4 Tryd.prog).P 4 9))) (loopK (prm4 Tryd.prog).P 4 9)
noncomputable def zals : List Vl := [zax0, zax1]
theorem zarun : (run (prm4 Tryd.prog) 900 (enterD (prm4 Tryd.prog) ct4)).map (vOf (prm4 Tryd.prog) ct4 (pts4 Tryd.prog)) = zals := by kernel_rfl
-- 2 ways; terms: 
noncomputable def zp0e0 : SE := .mul (.v 130) (.c 5)
noncomputable def zp0e1 : SE := .add zp0e0 (.c 1)
noncomputable def zp0e2 : SE := .rd (.v 105) zp0e1
noncomputable def zp0e3 : SE := .add zp0e0 (.c 2)
noncomputable def zp0e4 : SE := .rd (.v 105) zp0e3
noncomputable def zp0e5 : SE := .ap 10 (.a (.v 100) (.i (.v 131) (.i (.v 110) (.i (.v 111) (.i zp0e2 (.i zp0e4 .nil))))))
noncomputable def zp0e6 : SE := .tmod (.v 12) (.c 10000)
noncomputable def zp0e7 : SE := .add (.c 5000) zp0e6
noncomputable def zp0e8 : SE := .ite (.ap 10 (.i (.v 110) (.i (.v 111) (.i zp0e2 (.i zp0e4 .nil))))) zp0e7 (.v 114)
noncomputable def zp0e9 : SE := .ite (.ap 10 (.i (.v 110) (.i (.v 111) (.i zp0e2 (.i zp0e4 .nil))))) (.c 0) (.v 113)
noncomputable def zp0e10 : SE := .ap 12 (.i (.v 110) (.i (.v 111) (.i zp0e2 (.i zp0e4 .nil))))
noncomputable def zp0e11 : SE := .ap 11 (.a (.v 100) (.i (.v 131) (.i (.v 110) (.i (.v 111) (.i zp0e2 (.i zp0e4 .nil))))))
noncomputable def zp0e12 : SE := .add (.v 130) (.c 1)
noncomputable def zp0e13 : SE := .mul (.v 130) (.c 64)
noncomputable def zp0e14 : AE := .ap 13 (.a (.v 100) (.i (.v 131) (.i (.v 110) (.i (.v 111) (.i zp0e2 (.i zp0e4 .nil))))))
noncomputable def zp0e15 : AE := .ap 1 (.a (.v 124) (.i zp0e13 (.a zp0e14 .nil)))
noncomputable def zp0e16 : AE := .tl (.v 123) (.v 130) (.i (.v 1001) .nil)
noncomputable def zp0e17 : SE := .ap 13 (.a (.v 100) (.i (.v 131) (.i (.v 110) (.i (.v 111) (.i zp0e2 (.i zp0e4 .nil))))))
noncomputable def zp0e18 : AE := .tl (.v 122) (.v 130) (.i zp0e17 .nil)
noncomputable def zp0e19 : AE := .tl (.v 121) (.v 130) (.i (.v 1000) .nil)
noncomputable def zp0e20 : AE := .tl (.v 120) (.v 130) (.i (.c 0) .nil)
noncomputable def zp0e21 : AE := .tl (.v 108) (.v 130) (.i zp0e11 .nil)
noncomputable def zp0e22 : SE := .ite (.le (.c 4) zp0e5) (.c 9) (.c 0)
noncomputable def zp0e23 : AE := .tl (.v 107) (.v 130) (.i zp0e22 .nil)
noncomputable def zp0e24 : SE := .rd (.v 105) zp0e0
noncomputable def zp0e25 : SE := .add zp0e0 (.c 3)
noncomputable def zp0e26 : SE := .rd (.v 105) zp0e25
noncomputable def zp0e27 : SE := .add zp0e0 (.c 4)
noncomputable def zp0e28 : SE := .rd (.v 105) zp0e27
noncomputable def zp0e29 : AE := .tl (.v 106) zp0e0 (.i zp0e24 (.i zp0e2 (.i zp0e4 (.i zp0e26 (.i zp0e28 .nil)))))
noncomputable def zp0e30 : AE := .ap 10 (.a (.v 100) (.i (.v 131) (.i (.v 110) (.i (.v 111) (.i zp0e2 (.i zp0e4 .nil))))))
noncomputable def zp0e31 : AE := .tl (.v 100) (.c 0) .nil
noncomputable def zp0e32 : AE := .ap 1 (.a (.v 100) (.i (.v 131) (.a zp0e31 .nil)))
noncomputable def zp0e33 : AE := .ap 1 (.a (.v 124) (.i zp0e13 (.a (.v 20) .nil)))
noncomputable def zp0e34 : AE := .tl (.v 122) (.v 130) (.i (.c 0) .nil)
noncomputable def zp0e35 : AE := .tl (.v 108) (.v 130) (.i (.v 110) .nil)
noncomputable def zp0e36 : AE := .tl (.v 107) (.v 130) (.i (.c 0) .nil)
noncomputable def zp0e37 : SE := .sub (.v 131) (.c 1)
noncomputable def zp0e38 : SE := .mx (.v 111) (.v 110)
noncomputable def zp0e39 : SE := .rd (.v 100) (.c 0)
noncomputable def zp0e40 : AE := .tl (.v 0) (.c 0) (.i (.v 110) .nil)
noncomputable def zp0e41 : AE := .ap 1 (.a (.v 124) (.i zp0e13 (.a zp0e40 .nil)))
noncomputable def zp0e42 : AE := .tl (.v 122) (.v 130) (.i (.c 1) .nil)
noncomputable def zp0e43 : AE := .tl (.v 108) (.v 130) (.i zp0e39 .nil)
noncomputable def zp0e44 : AE := .dr (.v 100) (.c 1)
noncomputable def zp0e45 : SE := .mul (.c 2) (.v 131)
noncomputable def zp0e46 : SE := .add (.v 113) zp0e2
noncomputable def zp0e47 : SE := .wrap .u64 zp0e46
noncomputable def zp0x0 : Vl := .go 0 [(131, zp0e5), (114, zp0e8), (113, zp0e9), (111, zp0e10), (110, zp0e11), (130, zp0e12)] [] [(124, zp0e15), (123, zp0e16), (122, zp0e18), (121, zp0e19), (120, zp0e20), (108, zp0e21), (107, zp0e23), (106, zp0e29), (100, zp0e30)] [((.eq zp0e22 (.c 0)), true), ((.le zp0e17 (.c 64)), true), ((.le zp0e4 zp0e2), true), ((.le zp0e4 (.c 255)), true), ((.le (.c 0) zp0e4), true), ((.le zp0e2 (.c 255)), true), ((.le (.c 0) zp0e2), true), ((.eq zp0e24 (.c 0)), true), ((.lt (.v 130) (.v 140)), true), ((.le (.c 0) (.v 30)), true), ((.le (.v 30) (.c 255)), true), ((.le (.c 0) (.v 12)), true), ((.le (.v 12) (.c 4294967295)), true), ((.le (.c 0) (.v 1)), true), ((.le (.v 1) (.v 3)), true), ((.ap 16 (.a (.v 0) (.i (.v 1) .nil))), true), ((.le (.c 0) (.v 130)), true), ((.le (.v 130) (.c 50)), true), ((.le (.c 0) (.v 140)), true), ((.le (.v 140) (.c 40)), true), ((.le (.c 0) (.v 131)), true), ((.le (.v 131) (.c 3)), true), ((.le (.c 0) (.v 110)), true), ((.le (.v 110) (.c 255)), true), ((.le (.c 0) (.v 111)), true), ((.le (.v 111) (.c 255)), true), ((.le (.c 0) (.v 113)), true), ((.le (.v 113) (.c 1000000000000000000)), true), ((.le (.c 0) (.v 114)), true), ((.le (.v 114) (.c 1000000000)), true), ((.le (.v 111) (.v 110)), true), ((.ap 2 (.a zp0e32 (.i (.v 131) (.i (.v 110) (.i (.v 111) .nil))))), true)] (.exit .normal) (.loop (loopB (prm4 Tryd.prog).P 4 9) :: loopK (prm4 Tryd.prog).P 4 9)
noncomputable def zp0x1 : Vl := .go 1 [(142, (.c 0)), (141, zp0e12)] [] [(153, (.v 1003)), (151, (.v 1002)), (124, zp0e15), (123, zp0e16), (122, zp0e18), (121, zp0e19), (120, zp0e20), (108, zp0e21), (107, zp0e23), (106, zp0e29)] [((.ap 3 (.a zp0e29 (.i zp0e12 .nil))), true), ((.le zp0e12 (.c 50)), true), ((.eq zp0e22 (.c 0)), false), ((.le zp0e17 (.c 64)), true), ((.le zp0e4 zp0e2), true), ((.le zp0e4 (.c 255)), true), ((.le (.c 0) zp0e4), true), ((.le zp0e2 (.c 255)), true), ((.le (.c 0) zp0e2), true), ((.eq zp0e24 (.c 0)), true), ((.lt (.v 130) (.v 140)), true), ((.le (.c 0) (.v 30)), true), ((.le (.v 30) (.c 255)), true), ((.le (.c 0) (.v 12)), true), ((.le (.v 12) (.c 4294967295)), true), ((.le (.c 0) (.v 1)), true), ((.le (.v 1) (.v 3)), true), ((.ap 16 (.a (.v 0) (.i (.v 1) .nil))), true), ((.le (.c 0) (.v 130)), true), ((.le (.v 130) (.c 50)), true), ((.le (.c 0) (.v 140)), true), ((.le (.v 140) (.c 40)), true), ((.le (.c 0) (.v 131)), true), ((.le (.v 131) (.c 3)), true), ((.le (.c 0) (.v 110)), true), ((.le (.v 110) (.c 255)), true), ((.le (.c 0) (.v 111)), true), ((.le (.v 111) (.c 255)), true), ((.le (.c 0) (.v 113)), true), ((.le (.v 113) (.c 1000000000000000000)), true), ((.le (.c 0) (.v 114)), true), ((.le (.v 114) (.c 1000000000)), true), ((.le (.v 111) (.v 110)), true), ((.ap 2 (.a zp0e32 (.i (.v 131) (.i (.v 110) (.i (.v 111) .nil))))), true)] (.code (.loop (loopB (prm4 Tryd.prog).P 4 19))) (loopK (prm4 Tryd.prog).P 4 19)
noncomputable def zp0x2 : Vl := .dead [((.ap 3 (.a zp0e29 (.i zp0e12 .nil))), false), ((.le zp0e12 (.c 50)), true), ((.eq zp0e22 (.c 0)), false), ((.le zp0e17 (.c 64)), true), ((.le zp0e4 zp0e2), true), ((.le zp0e4 (.c 255)), true), ((.le (.c 0) zp0e4), true), ((.le zp0e2 (.c 255)), true), ((.le (.c 0) zp0e2), true), ((.eq zp0e24 (.c 0)), true), ((.lt (.v 130) (.v 140)), true), ((.le (.c 0) (.v 30)), true), ((.le (.v 30) (.c 255)), true), ((.le (.c 0) (.v 12)), true), ((.le (.v 12) (.c 4294967295)), true), ((.le (.c 0) (.v 1)), true), ((.le (.v 1) (.v 3)), true), ((.ap 16 (.a (.v 0) (.i (.v 1) .nil))), true), ((.le (.c 0) (.v 130)), true), ((.le (.v 130) (.c 50)), true), ((.le (.c 0) (.v 140)), true), ((.le (.v 140) (.c 40)), true), ((.le (.c 0) (.v 131)), true), ((.le (.v 131) (.c 3)), true), ((.le (.c 0) (.v 110)), true), ((.le (.v 110) (.c 255)), true), ((.le (.c 0) (.v 111)), true), ((.le (.v 111) (.c 255)), true), ((.le (.c 0) (.v 113)), true), ((.le (.v 113) (.c 1000000000000000000)), true), ((.le (.c 0) (.v 114)), true), ((.le (.v 114) (.c 1000000000)), true), ((.le (.v 111) (.v 110)), true), ((.ap 2 (.a zp0e32 (.i (.v 131) (.i (.v 110) (.i (.v 111) .nil))))), true)]
noncomputable def zp0x3 : Vl := .dead [((.le zp0e12 (.c 50)), false), ((.eq zp0e22 (.c 0)), false), ((.le zp0e17 (.c 64)), true), ((.le zp0e4 zp0e2), true), ((.le zp0e4 (.c 255)), true), ((.le (.c 0) zp0e4), true), ((.le zp0e2 (.c 255)), true), ((.le (.c 0) zp0e2), true), ((.eq zp0e24 (.c 0)), true), ((.lt (.v 130) (.v 140)), true), ((.le (.c 0) (.v 30)), true), ((.le (.v 30) (.c 255)), true), ((.le (.c 0) (.v 12)), true), ((.le (.v 12) (.c 4294967295)), true), ((.le (.c 0) (.v 1)), true), ((.le (.v 1) (.v 3)), true), ((.ap 16 (.a (.v 0) (.i (.v 1) .nil))), true), ((.le (.c 0) (.v 130)), true), ((.le (.v 130) (.c 50)), true), ((.le (.c 0) (.v 140)), true), ((.le (.v 140) (.c 40)), true), ((.le (.c 0) (.v 131)), true), ((.le (.v 131) (.c 3)), true), ((.le (.c 0) (.v 110)), true), ((.le (.v 110) (.c 255)), true), ((.le (.c 0) (.v 111)), true), ((.le (.v 111) (.c 255)), true), ((.le (.c 0) (.v 113)), true), ((.le (.v 113) (.c 1000000000000000000)), true), ((.le (.c 0) (.v 114)), true), ((.le (.v 114) (.c 1000000000)), true), ((.le (.v 111) (.v 110)), true), ((.ap 2 (.a zp0e32 (.i (.v 131) (.i (.v 110) (.i (.v 111) .nil))))), true)]
noncomputable def zp0x4 : Vl := .dead [((.le zp0e17 (.c 64)), false), ((.le zp0e4 zp0e2), true), ((.le zp0e4 (.c 255)), true), ((.le (.c 0) zp0e4), true), ((.le zp0e2 (.c 255)), true), ((.le (.c 0) zp0e2), true), ((.eq zp0e24 (.c 0)), true), ((.lt (.v 130) (.v 140)), true), ((.le (.c 0) (.v 30)), true), ((.le (.v 30) (.c 255)), true), ((.le (.c 0) (.v 12)), true), ((.le (.v 12) (.c 4294967295)), true), ((.le (.c 0) (.v 1)), true), ((.le (.v 1) (.v 3)), true), ((.ap 16 (.a (.v 0) (.i (.v 1) .nil))), true), ((.le (.c 0) (.v 130)), true), ((.le (.v 130) (.c 50)), true), ((.le (.c 0) (.v 140)), true), ((.le (.v 140) (.c 40)), true), ((.le (.c 0) (.v 131)), true), ((.le (.v 131) (.c 3)), true), ((.le (.c 0) (.v 110)), true), ((.le (.v 110) (.c 255)), true), ((.le (.c 0) (.v 111)), true), ((.le (.v 111) (.c 255)), true), ((.le (.c 0) (.v 113)), true), ((.le (.v 113) (.c 1000000000000000000)), true), ((.le (.c 0) (.v 114)), true), ((.le (.v 114) (.c 1000000000)), true), ((.le (.v 111) (.v 110)), true), ((.ap 2 (.a zp0e32 (.i (.v 131) (.i (.v 110) (.i (.v 111) .nil))))), true)]
noncomputable def zp0x5 : Vl := .dead [((.le zp0e4 zp0e2), false), ((.le zp0e4 (.c 255)), true), ((.le (.c 0) zp0e4), true), ((.le zp0e2 (.c 255)), true), ((.le (.c 0) zp0e2), true), ((.eq zp0e24 (.c 0)), true), ((.lt (.v 130) (.v 140)), true), ((.le (.c 0) (.v 30)), true), ((.le (.v 30) (.c 255)), true), ((.le (.c 0) (.v 12)), true), ((.le (.v 12) (.c 4294967295)), true), ((.le (.c 0) (.v 1)), true), ((.le (.v 1) (.v 3)), true), ((.ap 16 (.a (.v 0) (.i (.v 1) .nil))), true), ((.le (.c 0) (.v 130)), true), ((.le (.v 130) (.c 50)), true), ((.le (.c 0) (.v 140)), true), ((.le (.v 140) (.c 40)), true), ((.le (.c 0) (.v 131)), true), ((.le (.v 131) (.c 3)), true), ((.le (.c 0) (.v 110)), true), ((.le (.v 110) (.c 255)), true), ((.le (.c 0) (.v 111)), true), ((.le (.v 111) (.c 255)), true), ((.le (.c 0) (.v 113)), true), ((.le (.v 113) (.c 1000000000000000000)), true), ((.le (.c 0) (.v 114)), true), ((.le (.v 114) (.c 1000000000)), true), ((.le (.v 111) (.v 110)), true), ((.ap 2 (.a zp0e32 (.i (.v 131) (.i (.v 110) (.i (.v 111) .nil))))), true)]
noncomputable def zp0x6 : Vl := .dead [((.le zp0e4 (.c 255)), false), ((.le (.c 0) zp0e4), true), ((.le zp0e2 (.c 255)), true), ((.le (.c 0) zp0e2), true), ((.eq zp0e24 (.c 0)), true), ((.lt (.v 130) (.v 140)), true), ((.le (.c 0) (.v 30)), true), ((.le (.v 30) (.c 255)), true), ((.le (.c 0) (.v 12)), true), ((.le (.v 12) (.c 4294967295)), true), ((.le (.c 0) (.v 1)), true), ((.le (.v 1) (.v 3)), true), ((.ap 16 (.a (.v 0) (.i (.v 1) .nil))), true), ((.le (.c 0) (.v 130)), true), ((.le (.v 130) (.c 50)), true), ((.le (.c 0) (.v 140)), true), ((.le (.v 140) (.c 40)), true), ((.le (.c 0) (.v 131)), true), ((.le (.v 131) (.c 3)), true), ((.le (.c 0) (.v 110)), true), ((.le (.v 110) (.c 255)), true), ((.le (.c 0) (.v 111)), true), ((.le (.v 111) (.c 255)), true), ((.le (.c 0) (.v 113)), true), ((.le (.v 113) (.c 1000000000000000000)), true), ((.le (.c 0) (.v 114)), true), ((.le (.v 114) (.c 1000000000)), true), ((.le (.v 111) (.v 110)), true), ((.ap 2 (.a zp0e32 (.i (.v 131) (.i (.v 110) (.i (.v 111) .nil))))), true)]
noncomputable def zp0x7 : Vl := .dead [((.le (.c 0) zp0e4), false), ((.le zp0e2 (.c 255)), true), ((.le (.c 0) zp0e2), true), ((.eq zp0e24 (.c 0)), true), ((.lt (.v 130) (.v 140)), true), ((.le (.c 0) (.v 30)), true), ((.le (.v 30) (.c 255)), true), ((.le (.c 0) (.v 12)), true), ((.le (.v 12) (.c 4294967295)), true), ((.le (.c 0) (.v 1)), true), ((.le (.v 1) (.v 3)), true), ((.ap 16 (.a (.v 0) (.i (.v 1) .nil))), true), ((.le (.c 0) (.v 130)), true), ((.le (.v 130) (.c 50)), true), ((.le (.c 0) (.v 140)), true), ((.le (.v 140) (.c 40)), true), ((.le (.c 0) (.v 131)), true), ((.le (.v 131) (.c 3)), true), ((.le (.c 0) (.v 110)), true), ((.le (.v 110) (.c 255)), true), ((.le (.c 0) (.v 111)), true), ((.le (.v 111) (.c 255)), true), ((.le (.c 0) (.v 113)), true), ((.le (.v 113) (.c 1000000000000000000)), true), ((.le (.c 0) (.v 114)), true), ((.le (.v 114) (.c 1000000000)), true), ((.le (.v 111) (.v 110)), true), ((.ap 2 (.a zp0e32 (.i (.v 131) (.i (.v 110) (.i (.v 111) .nil))))), true)]
noncomputable def zp0x8 : Vl := .dead [((.le zp0e2 (.c 255)), false), ((.le (.c 0) zp0e2), true), ((.eq zp0e24 (.c 0)), true), ((.lt (.v 130) (.v 140)), true), ((.le (.c 0) (.v 30)), true), ((.le (.v 30) (.c 255)), true), ((.le (.c 0) (.v 12)), true), ((.le (.v 12) (.c 4294967295)), true), ((.le (.c 0) (.v 1)), true), ((.le (.v 1) (.v 3)), true), ((.ap 16 (.a (.v 0) (.i (.v 1) .nil))), true), ((.le (.c 0) (.v 130)), true), ((.le (.v 130) (.c 50)), true), ((.le (.c 0) (.v 140)), true), ((.le (.v 140) (.c 40)), true), ((.le (.c 0) (.v 131)), true), ((.le (.v 131) (.c 3)), true), ((.le (.c 0) (.v 110)), true), ((.le (.v 110) (.c 255)), true), ((.le (.c 0) (.v 111)), true), ((.le (.v 111) (.c 255)), true), ((.le (.c 0) (.v 113)), true), ((.le (.v 113) (.c 1000000000000000000)), true), ((.le (.c 0) (.v 114)), true), ((.le (.v 114) (.c 1000000000)), true), ((.le (.v 111) (.v 110)), true), ((.ap 2 (.a zp0e32 (.i (.v 131) (.i (.v 110) (.i (.v 111) .nil))))), true)]
noncomputable def zp0x9 : Vl := .dead [((.le (.c 0) zp0e2), false), ((.eq zp0e24 (.c 0)), true), ((.lt (.v 130) (.v 140)), true), ((.le (.c 0) (.v 30)), true), ((.le (.v 30) (.c 255)), true), ((.le (.c 0) (.v 12)), true), ((.le (.v 12) (.c 4294967295)), true), ((.le (.c 0) (.v 1)), true), ((.le (.v 1) (.v 3)), true), ((.ap 16 (.a (.v 0) (.i (.v 1) .nil))), true), ((.le (.c 0) (.v 130)), true), ((.le (.v 130) (.c 50)), true), ((.le (.c 0) (.v 140)), true), ((.le (.v 140) (.c 40)), true), ((.le (.c 0) (.v 131)), true), ((.le (.v 131) (.c 3)), true), ((.le (.c 0) (.v 110)), true), ((.le (.v 110) (.c 255)), true), ((.le (.c 0) (.v 111)), true), ((.le (.v 111) (.c 255)), true), ((.le (.c 0) (.v 113)), true), ((.le (.v 113) (.c 1000000000000000000)), true), ((.le (.c 0) (.v 114)), true), ((.le (.v 114) (.c 1000000000)), true), ((.le (.v 111) (.v 110)), true), ((.ap 2 (.a zp0e32 (.i (.v 131) (.i (.v 110) (.i (.v 111) .nil))))), true)]
noncomputable def zp0x10 : Vl := .go 0 [(130, zp0e12)] [(100, (.c true))] [(124, zp0e33), (123, zp0e16), (122, zp0e34), (121, zp0e19), (120, zp0e20), (108, zp0e35), (107, zp0e36), (106, zp0e29)] [((.eq zp0e24 (.c 1)), true), ((.eq zp0e24 (.c 0)), false), ((.lt (.v 130) (.v 140)), true), ((.le (.c 0) (.v 30)), true), ((.le (.v 30) (.c 255)), true), ((.le (.c 0) (.v 12)), true), ((.le (.v 12) (.c 4294967295)), true), ((.le (.c 0) (.v 1)), true), ((.le (.v 1) (.v 3)), true), ((.ap 16 (.a (.v 0) (.i (.v 1) .nil))), true), ((.le (.c 0) (.v 130)), true), ((.le (.v 130) (.c 50)), true), ((.le (.c 0) (.v 140)), true), ((.le (.v 140) (.c 40)), true), ((.le (.c 0) (.v 131)), true), ((.le (.v 131) (.c 3)), true), ((.le (.c 0) (.v 110)), true), ((.le (.v 110) (.c 255)), true), ((.le (.c 0) (.v 111)), true), ((.le (.v 111) (.c 255)), true), ((.le (.c 0) (.v 113)), true), ((.le (.v 113) (.c 1000000000000000000)), true), ((.le (.c 0) (.v 114)), true), ((.le (.v 114) (.c 1000000000)), true), ((.le (.v 111) (.v 110)), true), ((.ap 2 (.a zp0e32 (.i (.v 131) (.i (.v 110) (.i (.v 111) .nil))))), true)] (.exit .normal) (.loop (loopB (prm4 Tryd.prog).P 4 9) :: loopK (prm4 Tryd.prog).P 4 9)
noncomputable def zp0x11 : Vl := .go 0 [(131, zp0e37), (114, zp0e7), (113, (.c 0)), (111, zp0e38), (110, zp0e39), (130, zp0e12)] [] [(124, zp0e41), (123, zp0e16), (122, zp0e42), (121, zp0e19), (120, zp0e20), (108, zp0e43), (107, zp0e36), (106, zp0e29), (100, zp0e44)] [((.eq (.v 110) (.c 0)), true), ((.lt (.c 0) (.v 131)), true), ((.v 100), true), ((.eq zp0e24 (.c 2)), true), ((.eq zp0e24 (.c 1)), false), ((.eq zp0e24 (.c 0)), false), ((.lt (.v 130) (.v 140)), true), ((.le (.c 0) (.v 30)), true), ((.le (.v 30) (.c 255)), true), ((.le (.c 0) (.v 12)), true), ((.le (.v 12) (.c 4294967295)), true), ((.le (.c 0) (.v 1)), true), ((.le (.v 1) (.v 3)), true), ((.ap 16 (.a (.v 0) (.i (.v 1) .nil))), true), ((.le (.c 0) (.v 130)), true), ((.le (.v 130) (.c 50)), true), ((.le (.c 0) (.v 140)), true), ((.le (.v 140) (.c 40)), true), ((.le (.c 0) (.v 131)), true), ((.le (.v 131) (.c 3)), true), ((.le (.c 0) (.v 110)), true), ((.le (.v 110) (.c 255)), true), ((.le (.c 0) (.v 111)), true), ((.le (.v 111) (.c 255)), true), ((.le (.c 0) (.v 113)), true), ((.le (.v 113) (.c 1000000000000000000)), true), ((.le (.c 0) (.v 114)), true), ((.le (.v 114) (.c 1000000000)), true), ((.le (.v 111) (.v 110)), true), ((.ap 2 (.a zp0e32 (.i (.v 131) (.i (.v 110) (.i (.v 111) .nil))))), true)] (.exit .normal) (.loop (loopB (prm4 Tryd.prog).P 4 9) :: loopK (prm4 Tryd.prog).P 4 9)
noncomputable def zp0x12 : Vl := .go 0 [(131, zp0e37), (114, zp0e7), (113, (.c 0)), (111, zp0e38), (110, zp0e39), (130, zp0e12)] [] [(124, zp0e41), (123, zp0e16), (122, zp0e42), (121, zp0e19), (120, zp0e20), (108, zp0e43), (107, zp0e36), (106, zp0e29), (100, zp0e44)] [((.le (.v 114) (.v 113)), true), ((.le (.c 4) zp0e45), true), ((.eq (.v 110) (.c 0)), false), ((.lt (.c 0) (.v 131)), true), ((.v 100), true), ((.eq zp0e24 (.c 2)), true), ((.eq zp0e24 (.c 1)), false), ((.eq zp0e24 (.c 0)), false), ((.lt (.v 130) (.v 140)), true), ((.le (.c 0) (.v 30)), true), ((.le (.v 30) (.c 255)), true), ((.le (.c 0) (.v 12)), true), ((.le (.v 12) (.c 4294967295)), true), ((.le (.c 0) (.v 1)), true), ((.le (.v 1) (.v 3)), true), ((.ap 16 (.a (.v 0) (.i (.v 1) .nil))), true), ((.le (.c 0) (.v 130)), true), ((.le (.v 130) (.c 50)), true), ((.le (.c 0) (.v 140)), true), ((.le (.v 140) (.c 40)), true), ((.le (.c 0) (.v 131)), true), ((.le (.v 131) (.c 3)), true), ((.le (.c 0) (.v 110)), true), ((.le (.v 110) (.c 255)), true), ((.le (.c 0) (.v 111)), true), ((.le (.v 111) (.c 255)), true), ((.le (.c 0) (.v 113)), true), ((.le (.v 113) (.c 1000000000000000000)), true), ((.le (.c 0) (.v 114)), true), ((.le (.v 114) (.c 1000000000)), true), ((.le (.v 111) (.v 110)), true), ((.ap 2 (.a zp0e32 (.i (.v 131) (.i (.v 110) (.i (.v 111) .nil))))), true)] (.exit .normal) (.loop (loopB (prm4 Tryd.prog).P 4 9) :: loopK (prm4 Tryd.prog).P 4 9)
noncomputable def zp0x13 : Vl := .go 0 [(130, zp0e12)] [] [(124, zp0e33), (123, zp0e16), (122, zp0e34), (121, zp0e19), (120, zp0e20), (108, zp0e35), (107, zp0e36), (106, zp0e29)] [((.le (.v 114) (.v 113)), false), ((.le (.c 4) zp0e45), true), ((.eq (.v 110) (.c 0)), false), ((.lt (.c 0) (.v 131)), true), ((.v 100), true), ((.eq zp0e24 (.c 2)), true), ((.eq zp0e24 (.c 1)), false), ((.eq zp0e24 (.c 0)), false), ((.lt (.v 130) (.v 140)), true), ((.le (.c 0) (.v 30)), true), ((.le (.v 30) (.c 255)), true), ((.le (.c 0) (.v 12)), true), ((.le (.v 12) (.c 4294967295)), true), ((.le (.c 0) (.v 1)), true), ((.le (.v 1) (.v 3)), true), ((.ap 16 (.a (.v 0) (.i (.v 1) .nil))), true), ((.le (.c 0) (.v 130)), true), ((.le (.v 130) (.c 50)), true), ((.le (.c 0) (.v 140)), true), ((.le (.v 140) (.c 40)), true), ((.le (.c 0) (.v 131)), true), ((.le (.v 131) (.c 3)), true), ((.le (.c 0) (.v 110)), true), ((.le (.v 110) (.c 255)), true), ((.le (.c 0) (.v 111)), true), ((.le (.v 111) (.c 255)), true), ((.le (.c 0) (.v 113)), true), ((.le (.v 113) (.c 1000000000000000000)), true), ((.le (.c 0) (.v 114)), true), ((.le (.v 114) (.c 1000000000)), true), ((.le (.v 111) (.v 110)), true), ((.ap 2 (.a zp0e32 (.i (.v 131) (.i (.v 110) (.i (.v 111) .nil))))), true)] (.exit .normal) (.loop (loopB (prm4 Tryd.prog).P 4 9) :: loopK (prm4 Tryd.prog).P 4 9)
noncomputable def zp0x14 : Vl := .go 0 [(130, zp0e12)] [] [(124, zp0e33), (123, zp0e16), (122, zp0e34), (121, zp0e19), (120, zp0e20), (108, zp0e35), (107, zp0e36), (106, zp0e29)] [((.le (.c 4) zp0e45), false), ((.eq (.v 110) (.c 0)), false), ((.lt (.c 0) (.v 131)), true), ((.v 100), true), ((.eq zp0e24 (.c 2)), true), ((.eq zp0e24 (.c 1)), false), ((.eq zp0e24 (.c 0)), false), ((.lt (.v 130) (.v 140)), true), ((.le (.c 0) (.v 30)), true), ((.le (.v 30) (.c 255)), true), ((.le (.c 0) (.v 12)), true), ((.le (.v 12) (.c 4294967295)), true), ((.le (.c 0) (.v 1)), true), ((.le (.v 1) (.v 3)), true), ((.ap 16 (.a (.v 0) (.i (.v 1) .nil))), true), ((.le (.c 0) (.v 130)), true), ((.le (.v 130) (.c 50)), true), ((.le (.c 0) (.v 140)), true), ((.le (.v 140) (.c 40)), true), ((.le (.c 0) (.v 131)), true), ((.le (.v 131) (.c 3)), true), ((.le (.c 0) (.v 110)), true), ((.le (.v 110) (.c 255)), true), ((.le (.c 0) (.v 111)), true), ((.le (.v 111) (.c 255)), true), ((.le (.c 0) (.v 113)), true), ((.le (.v 113) (.c 1000000000000000000)), true), ((.le (.c 0) (.v 114)), true), ((.le (.v 114) (.c 1000000000)), true), ((.le (.v 111) (.v 110)), true), ((.ap 2 (.a zp0e32 (.i (.v 131) (.i (.v 110) (.i (.v 111) .nil))))), true)] (.exit .normal) (.loop (loopB (prm4 Tryd.prog).P 4 9) :: loopK (prm4 Tryd.prog).P 4 9)
noncomputable def zp0x15 : Vl := .go 0 [(130, zp0e12)] [] [(124, zp0e33), (123, zp0e16), (122, zp0e34), (121, zp0e19), (120, zp0e20), (108, zp0e35), (107, zp0e36), (106, zp0e29)] [((.lt (.c 0) (.v 131)), false), ((.v 100), true), ((.eq zp0e24 (.c 2)), true), ((.eq zp0e24 (.c 1)), false), ((.eq zp0e24 (.c 0)), false), ((.lt (.v 130) (.v 140)), true), ((.le (.c 0) (.v 30)), true), ((.le (.v 30) (.c 255)), true), ((.le (.c 0) (.v 12)), true), ((.le (.v 12) (.c 4294967295)), true), ((.le (.c 0) (.v 1)), true), ((.le (.v 1) (.v 3)), true), ((.ap 16 (.a (.v 0) (.i (.v 1) .nil))), true), ((.le (.c 0) (.v 130)), true), ((.le (.v 130) (.c 50)), true), ((.le (.c 0) (.v 140)), true), ((.le (.v 140) (.c 40)), true), ((.le (.c 0) (.v 131)), true), ((.le (.v 131) (.c 3)), true), ((.le (.c 0) (.v 110)), true), ((.le (.v 110) (.c 255)), true), ((.le (.c 0) (.v 111)), true), ((.le (.v 111) (.c 255)), true), ((.le (.c 0) (.v 113)), true), ((.le (.v 113) (.c 1000000000000000000)), true), ((.le (.c 0) (.v 114)), true), ((.le (.v 114) (.c 1000000000)), true), ((.le (.v 111) (.v 110)), true), ((.ap 2 (.a zp0e32 (.i (.v 131) (.i (.v 110) (.i (.v 111) .nil))))), true)] (.exit .normal) (.loop (loopB (prm4 Tryd.prog).P 4 9) :: loopK (prm4 Tryd.prog).P 4 9)
noncomputable def zp0x16 : Vl := .go 0 [(130, zp0e12)] [] [(124, zp0e33), (123, zp0e16), (122, zp0e34), (121, zp0e19), (120, zp0e20), (108, zp0e35), (107, zp0e36), (106, zp0e29)] [((.v 100), false), ((.eq zp0e24 (.c 2)), true), ((.eq zp0e24 (.c 1)), false), ((.eq zp0e24 (.c 0)), false), ((.lt (.v 130) (.v 140)), true), ((.le (.c 0) (.v 30)), true), ((.le (.v 30) (.c 255)), true), ((.le (.c 0) (.v 12)), true), ((.le (.v 12) (.c 4294967295)), true), ((.le (.c 0) (.v 1)), true), ((.le (.v 1) (.v 3)), true), ((.ap 16 (.a (.v 0) (.i (.v 1) .nil))), true), ((.le (.c 0) (.v 130)), true), ((.le (.v 130) (.c 50)), true), ((.le (.c 0) (.v 140)), true), ((.le (.v 140) (.c 40)), true), ((.le (.c 0) (.v 131)), true), ((.le (.v 131) (.c 3)), true), ((.le (.c 0) (.v 110)), true), ((.le (.v 110) (.c 255)), true), ((.le (.c 0) (.v 111)), true), ((.le (.v 111) (.c 255)), true), ((.le (.c 0) (.v 113)), true), ((.le (.v 113) (.c 1000000000000000000)), true), ((.le (.c 0) (.v 114)), true), ((.le (.v 114) (.c 1000000000)), true), ((.le (.v 111) (.v 110)), true), ((.ap 2 (.a zp0e32 (.i (.v 131) (.i (.v 110) (.i (.v 111) .nil))))), true)] (.exit .normal) (.loop (loopB (prm4 Tryd.prog).P 4 9) :: loopK (prm4 Tryd.prog).P 4 9)
noncomputable def zp0x17 : Vl := .go 0 [(113, zp0e47), (130, zp0e12)] [] [(124, zp0e33), (123, zp0e16), (122, zp0e34), (121, zp0e19), (120, zp0e20), (108, zp0e35), (107, zp0e36), (106, zp0e29)] [((.eq zp0e24 (.c 3)), true), ((.eq zp0e24 (.c 2)), false), ((.eq zp0e24 (.c 1)), false), ((.eq zp0e24 (.c 0)), false), ((.lt (.v 130) (.v 140)), true), ((.le (.c 0) (.v 30)), true), ((.le (.v 30) (.c 255)), true), ((.le (.c 0) (.v 12)), true), ((.le (.v 12) (.c 4294967295)), true), ((.le (.c 0) (.v 1)), true), ((.le (.v 1) (.v 3)), true), ((.ap 16 (.a (.v 0) (.i (.v 1) .nil))), true), ((.le (.c 0) (.v 130)), true), ((.le (.v 130) (.c 50)), true), ((.le (.c 0) (.v 140)), true), ((.le (.v 140) (.c 40)), true), ((.le (.c 0) (.v 131)), true), ((.le (.v 131) (.c 3)), true), ((.le (.c 0) (.v 110)), true), ((.le (.v 110) (.c 255)), true), ((.le (.c 0) (.v 111)), true), ((.le (.v 111) (.c 255)), true), ((.le (.c 0) (.v 113)), true), ((.le (.v 113) (.c 1000000000000000000)), true), ((.le (.c 0) (.v 114)), true), ((.le (.v 114) (.c 1000000000)), true), ((.le (.v 111) (.v 110)), true), ((.ap 2 (.a zp0e32 (.i (.v 131) (.i (.v 110) (.i (.v 111) .nil))))), true)] (.exit .normal) (.loop (loopB (prm4 Tryd.prog).P 4 9) :: loopK (prm4 Tryd.prog).P 4 9)
noncomputable def zp0x18 : Vl := .go 0 [(130, zp0e12)] [] [(124, zp0e33), (123, zp0e16), (122, zp0e34), (121, zp0e19), (120, zp0e20), (108, zp0e35), (107, zp0e36), (106, zp0e29)] [((.eq zp0e24 (.c 3)), false), ((.eq zp0e24 (.c 2)), false), ((.eq zp0e24 (.c 1)), false), ((.eq zp0e24 (.c 0)), false), ((.lt (.v 130) (.v 140)), true), ((.le (.c 0) (.v 30)), true), ((.le (.v 30) (.c 255)), true), ((.le (.c 0) (.v 12)), true), ((.le (.v 12) (.c 4294967295)), true), ((.le (.c 0) (.v 1)), true), ((.le (.v 1) (.v 3)), true), ((.ap 16 (.a (.v 0) (.i (.v 1) .nil))), true), ((.le (.c 0) (.v 130)), true), ((.le (.v 130) (.c 50)), true), ((.le (.c 0) (.v 140)), true), ((.le (.v 140) (.c 40)), true), ((.le (.c 0) (.v 131)), true), ((.le (.v 131) (.c 3)), true), ((.le (.c 0) (.v 110)), true), ((.le (.v 110) (.c 255)), true), ((.le (.c 0) (.v 111)), true), ((.le (.v 111) (.c 255)), true), ((.le (.c 0) (.v 113)), true), ((.le (.v 113) (.c 1000000000000000000)), true), ((.le (.c 0) (.v 114)), true), ((.le (.v 114) (.c 1000000000)), true), ((.le (.v 111) (.v 110)), true), ((.ap 2 (.a zp0e32 (.i (.v 131) (.i (.v 110) (.i (.v 111) .nil))))), true)] (.exit .normal) (.loop (loopB (prm4 Tryd.prog).P 4 9) :: loopK (prm4 Tryd.prog).P 4 9)
noncomputable def zp0x19 : Vl := .go 1 [(142, (.c 0)), (141, (.v 130))] [] [(153, (.v 1001)), (151, (.v 1000))] [((.ap 3 (.a (.v 106) (.i (.v 130) .nil))), true), ((.lt (.v 130) (.v 140)), false), ((.le (.c 0) (.v 30)), true), ((.le (.v 30) (.c 255)), true), ((.le (.c 0) (.v 12)), true), ((.le (.v 12) (.c 4294967295)), true), ((.le (.c 0) (.v 1)), true), ((.le (.v 1) (.v 3)), true), ((.ap 16 (.a (.v 0) (.i (.v 1) .nil))), true), ((.le (.c 0) (.v 130)), true), ((.le (.v 130) (.c 50)), true), ((.le (.c 0) (.v 140)), true), ((.le (.v 140) (.c 40)), true), ((.le (.c 0) (.v 131)), true), ((.le (.v 131) (.c 3)), true), ((.le (.c 0) (.v 110)), true), ((.le (.v 110) (.c 255)), true), ((.le (.c 0) (.v 111)), true), ((.le (.v 111) (.c 255)), true), ((.le (.c 0) (.v 113)), true), ((.le (.v 113) (.c 1000000000000000000)), true), ((.le (.c 0) (.v 114)), true), ((.le (.v 114) (.c 1000000000)), true), ((.le (.v 111) (.v 110)), true), ((.ap 2 (.a zp0e32 (.i (.v 131) (.i (.v 110) (.i (.v 111) .nil))))), true)] (.code (.loop (loopB (prm4 Tryd.prog).P 4 19))) (loopK (prm4 Tryd.prog).P 4 19)
noncomputable def zp0x20 : Vl := .dead [((.ap 3 (.a (.v 106) (.i (.v 130) .nil))), false), ((.lt (.v 130) (.v 140)), false), ((.le (.c 0) (.v 30)), true), ((.le (.v 30) (.c 255)), true), ((.le (.c 0) (.v 12)), true), ((.le (.v 12) (.c 4294967295)), true), ((.le (.c 0) (.v 1)), true), ((.le (.v 1) (.v 3)), true), ((.ap 16 (.a (.v 0) (.i (.v 1) .nil))), true), ((.le (.c 0) (.v 130)), true), ((.le (.v 130) (.c 50)), true), ((.le (.c 0) (.v 140)), true), ((.le (.v 140) (.c 40)), true), ((.le (.c 0) (.v 131)), true), ((.le (.v 131) (.c 3)), true), ((.le (.c 0) (.v 110)), true), ((.le (.v 110) (.c 255)), true), ((.le (.c 0) (.v 111)), true), ((.le (.v 111) (.c 255)), true), ((.le (.c 0) (.v 113)), true), ((.le (.v 113) (.c 1000000000000000000)), true), ((.le (.c 0) (.v 114)), true), ((.le (.v 114) (.c 1000000000)), true), ((.le (.v 111) (.v 110)), true), ((.ap 2 (.a zp0e32 (.i (.v 131) (.i (.v 110) (.i (.v 111) .nil))))), true)]
noncomputable def zp0ls : List Vl := [zp0x0, zp0x1, zp0x2, zp0x3, zp0x4, zp0x5, zp0x6, zp0x7, zp0x8, zp0x9, zp0x10, zp0x11, zp0x12, zp0x13, zp0x14, zp0x15, zp0x16, zp0x17, zp0x18, zp0x19, zp0x20]
theorem zp0run : (run (prm4 Tryd.prog) 900 (ptD (pts4 Tryd.prog) 0 4)).map (vOf (prm4 Tryd.prog) ct4 (pts4 Tryd.prog)) = zp0ls := by kernel_rfl
-- 21 ways; terms: zp0e0, zp0e1, zp0e2, zp0e3, zp0e4, zp0e5, zp0e6, zp0e7, zp0e8, zp0e9, zp0e10, zp0e11, zp0e12, zp0e13, zp0e14, zp0e15, zp0e16, zp0e17, zp0e18, zp0e19, zp0e20, zp0e21, zp0e22, zp0e23, zp0e24, zp0e25, zp0e26, zp0e27, zp0e28, zp0e29, zp0e30, zp0e31, zp0e32, zp0e33, zp0e34, zp0e35, zp0e36, zp0e37, zp0e38, zp0e39, zp0e40, zp0e41, zp0e42, zp0e43, zp0e44, zp0e45, zp0e46, zp0e47
noncomputable def zp1e0 : SE := .add (.v 142) (.c 1)
noncomputable def zp1e1 : AE := .ap 20 (.a (.v 106) (.i (.v 12) .nil))
noncomputable def zp1e2 : SE := .mul (.v 142) (.c 6)
noncomputable def zp1e3 : SE := .add zp1e2 (.c 1)
noncomputable def zp1e4 : SE := .rd zp1e1 zp1e3
noncomputable def zp1e5 : SE := .rd (.v 108) (.v 142)
noncomputable def zp1e6 : SE := .wrap .i64 zp1e5
noncomputable def zp1e7 : SE := .mul (.v 142) (.c 5)
noncomputable def zp1e8 : SE := .rd (.v 106) zp1e7
noncomputable def zp1e9 : AE := .ap 22 (.a (.v 106) (.i (.v 12) .nil))
noncomputable def zp1e10 : SE := .mul (.v 142) (.c 3)
noncomputable def zp1e11 : SE := .mul zp1e10 (.c 64)
noncomputable def zp1e12 : AE := .ap 21 (.a (.v 106) (.i (.v 12) .nil))
noncomputable def zp1e13 : SE := .rd zp1e12 zp1e10
noncomputable def zp1e14 : SE := .mul (.v 142) (.c 64)
noncomputable def zp1e15 : SE := .rd (.v 122) (.v 142)
noncomputable def zp1e16 : SE := .rd zp1e1 zp1e2
noncomputable def zp1e17 : SE := .rd (.v 107) (.v 142)
noncomputable def zp1x0 : Vl := .go 1 [(142, zp1e0)] [] [] [((.eq zp1e4 zp1e6), true), ((.eq zp1e8 (.c 2)), true), ((.ap 15 (.a zp1e9 (.i zp1e11 (.i zp1e13 (.a (.v 124) (.i zp1e14 (.i zp1e15 .nil))))))), true), ((.le zp1e15 (.c 64)), true), ((.le (.c 0) zp1e15), true), ((.le zp1e13 (.c 64)), true), ((.le (.c 0) zp1e13), true), ((.eq zp1e16 zp1e17), true), ((.lt (.v 142) (.v 141)), true), ((.le (.c 0) (.v 30)), true), ((.le (.v 30) (.c 255)), true), ((.le (.c 0) (.v 12)), true), ((.le (.v 12) (.c 4294967295)), true), ((.le (.c 0) (.v 1)), true), ((.le (.v 1) (.v 3)), true), ((.ap 16 (.a (.v 0) (.i (.v 1) .nil))), true), ((.le (.c 0) (.v 141)), true), ((.le (.v 141) (.c 50)), true), ((.le (.c 0) (.v 142)), true), ((.le (.v 142) (.c 50)), true)] (.exit .normal) (.loop (loopB (prm4 Tryd.prog).P 4 19) :: loopK (prm4 Tryd.prog).P 4 19)
noncomputable def zp1x1 : Vl := .out 0 [.b (.c false) (.c true), .a (.v 0) (.v 0) (.v 1) 1, .i (.v 1) (.v 1)] [((.eq zp1e4 zp1e6), false), ((.eq zp1e8 (.c 2)), true), ((.ap 15 (.a zp1e9 (.i zp1e11 (.i zp1e13 (.a (.v 124) (.i zp1e14 (.i zp1e15 .nil))))))), true), ((.le zp1e15 (.c 64)), true), ((.le (.c 0) zp1e15), true), ((.le zp1e13 (.c 64)), true), ((.le (.c 0) zp1e13), true), ((.eq zp1e16 zp1e17), true), ((.lt (.v 142) (.v 141)), true), ((.le (.c 0) (.v 30)), true), ((.le (.v 30) (.c 255)), true), ((.le (.c 0) (.v 12)), true), ((.le (.v 12) (.c 4294967295)), true), ((.le (.c 0) (.v 1)), true), ((.le (.v 1) (.v 3)), true), ((.ap 16 (.a (.v 0) (.i (.v 1) .nil))), true), ((.le (.c 0) (.v 141)), true), ((.le (.v 141) (.c 50)), true), ((.le (.c 0) (.v 142)), true), ((.le (.v 142) (.c 50)), true)]
noncomputable def zp1x2 : Vl := .go 1 [(142, zp1e0)] [] [] [((.eq zp1e8 (.c 2)), false), ((.ap 15 (.a zp1e9 (.i zp1e11 (.i zp1e13 (.a (.v 124) (.i zp1e14 (.i zp1e15 .nil))))))), true), ((.le zp1e15 (.c 64)), true), ((.le (.c 0) zp1e15), true), ((.le zp1e13 (.c 64)), true), ((.le (.c 0) zp1e13), true), ((.eq zp1e16 zp1e17), true), ((.lt (.v 142) (.v 141)), true), ((.le (.c 0) (.v 30)), true), ((.le (.v 30) (.c 255)), true), ((.le (.c 0) (.v 12)), true), ((.le (.v 12) (.c 4294967295)), true), ((.le (.c 0) (.v 1)), true), ((.le (.v 1) (.v 3)), true), ((.ap 16 (.a (.v 0) (.i (.v 1) .nil))), true), ((.le (.c 0) (.v 141)), true), ((.le (.v 141) (.c 50)), true), ((.le (.c 0) (.v 142)), true), ((.le (.v 142) (.c 50)), true)] (.exit .normal) (.loop (loopB (prm4 Tryd.prog).P 4 19) :: loopK (prm4 Tryd.prog).P 4 19)
noncomputable def zp1x3 : Vl := .out 0 [.b (.c false) (.c true), .a (.v 0) (.v 0) (.v 1) 1, .i (.v 1) (.v 1)] [((.ap 15 (.a zp1e9 (.i zp1e11 (.i zp1e13 (.a (.v 124) (.i zp1e14 (.i zp1e15 .nil))))))), false), ((.le zp1e15 (.c 64)), true), ((.le (.c 0) zp1e15), true), ((.le zp1e13 (.c 64)), true), ((.le (.c 0) zp1e13), true), ((.eq zp1e16 zp1e17), true), ((.lt (.v 142) (.v 141)), true), ((.le (.c 0) (.v 30)), true), ((.le (.v 30) (.c 255)), true), ((.le (.c 0) (.v 12)), true), ((.le (.v 12) (.c 4294967295)), true), ((.le (.c 0) (.v 1)), true), ((.le (.v 1) (.v 3)), true), ((.ap 16 (.a (.v 0) (.i (.v 1) .nil))), true), ((.le (.c 0) (.v 141)), true), ((.le (.v 141) (.c 50)), true), ((.le (.c 0) (.v 142)), true), ((.le (.v 142) (.c 50)), true)]
noncomputable def zp1x4 : Vl := .dead [((.le zp1e15 (.c 64)), false), ((.le (.c 0) zp1e15), true), ((.le zp1e13 (.c 64)), true), ((.le (.c 0) zp1e13), true), ((.eq zp1e16 zp1e17), true), ((.lt (.v 142) (.v 141)), true), ((.le (.c 0) (.v 30)), true), ((.le (.v 30) (.c 255)), true), ((.le (.c 0) (.v 12)), true), ((.le (.v 12) (.c 4294967295)), true), ((.le (.c 0) (.v 1)), true), ((.le (.v 1) (.v 3)), true), ((.ap 16 (.a (.v 0) (.i (.v 1) .nil))), true), ((.le (.c 0) (.v 141)), true), ((.le (.v 141) (.c 50)), true), ((.le (.c 0) (.v 142)), true), ((.le (.v 142) (.c 50)), true)]
noncomputable def zp1x5 : Vl := .dead [((.le (.c 0) zp1e15), false), ((.le zp1e13 (.c 64)), true), ((.le (.c 0) zp1e13), true), ((.eq zp1e16 zp1e17), true), ((.lt (.v 142) (.v 141)), true), ((.le (.c 0) (.v 30)), true), ((.le (.v 30) (.c 255)), true), ((.le (.c 0) (.v 12)), true), ((.le (.v 12) (.c 4294967295)), true), ((.le (.c 0) (.v 1)), true), ((.le (.v 1) (.v 3)), true), ((.ap 16 (.a (.v 0) (.i (.v 1) .nil))), true), ((.le (.c 0) (.v 141)), true), ((.le (.v 141) (.c 50)), true), ((.le (.c 0) (.v 142)), true), ((.le (.v 142) (.c 50)), true)]
noncomputable def zp1x6 : Vl := .dead [((.le zp1e13 (.c 64)), false), ((.le (.c 0) zp1e13), true), ((.eq zp1e16 zp1e17), true), ((.lt (.v 142) (.v 141)), true), ((.le (.c 0) (.v 30)), true), ((.le (.v 30) (.c 255)), true), ((.le (.c 0) (.v 12)), true), ((.le (.v 12) (.c 4294967295)), true), ((.le (.c 0) (.v 1)), true), ((.le (.v 1) (.v 3)), true), ((.ap 16 (.a (.v 0) (.i (.v 1) .nil))), true), ((.le (.c 0) (.v 141)), true), ((.le (.v 141) (.c 50)), true), ((.le (.c 0) (.v 142)), true), ((.le (.v 142) (.c 50)), true)]
noncomputable def zp1x7 : Vl := .dead [((.le (.c 0) zp1e13), false), ((.eq zp1e16 zp1e17), true), ((.lt (.v 142) (.v 141)), true), ((.le (.c 0) (.v 30)), true), ((.le (.v 30) (.c 255)), true), ((.le (.c 0) (.v 12)), true), ((.le (.v 12) (.c 4294967295)), true), ((.le (.c 0) (.v 1)), true), ((.le (.v 1) (.v 3)), true), ((.ap 16 (.a (.v 0) (.i (.v 1) .nil))), true), ((.le (.c 0) (.v 141)), true), ((.le (.v 141) (.c 50)), true), ((.le (.c 0) (.v 142)), true), ((.le (.v 142) (.c 50)), true)]
noncomputable def zp1x8 : Vl := .out 0 [.b (.c false) (.c true), .a (.v 0) (.v 0) (.v 1) 1, .i (.v 1) (.v 1)] [((.eq zp1e16 zp1e17), false), ((.lt (.v 142) (.v 141)), true), ((.le (.c 0) (.v 30)), true), ((.le (.v 30) (.c 255)), true), ((.le (.c 0) (.v 12)), true), ((.le (.v 12) (.c 4294967295)), true), ((.le (.c 0) (.v 1)), true), ((.le (.v 1) (.v 3)), true), ((.ap 16 (.a (.v 0) (.i (.v 1) .nil))), true), ((.le (.c 0) (.v 141)), true), ((.le (.v 141) (.c 50)), true), ((.le (.c 0) (.v 142)), true), ((.le (.v 142) (.c 50)), true)]
noncomputable def zp1x9 : Vl := .out 0 [.a (.v 0) (.v 0) (.v 1) 1, .i (.v 1) (.v 1)] [((.lt (.v 142) (.v 141)), false), ((.le (.c 0) (.v 30)), true), ((.le (.v 30) (.c 255)), true), ((.le (.c 0) (.v 12)), true), ((.le (.v 12) (.c 4294967295)), true), ((.le (.c 0) (.v 1)), true), ((.le (.v 1) (.v 3)), true), ((.ap 16 (.a (.v 0) (.i (.v 1) .nil))), true), ((.le (.c 0) (.v 141)), true), ((.le (.v 141) (.c 50)), true), ((.le (.c 0) (.v 142)), true), ((.le (.v 142) (.c 50)), true)]
noncomputable def zp1ls : List Vl := [zp1x0, zp1x1, zp1x2, zp1x3, zp1x4, zp1x5, zp1x6, zp1x7, zp1x8, zp1x9]
theorem zp1run : (run (prm4 Tryd.prog) 900 (ptD (pts4 Tryd.prog) 1 4)).map (vOf (prm4 Tryd.prog) ct4 (pts4 Tryd.prog)) = zp1ls := by kernel_rfl
-- 10 ways; terms: zp1e0, zp1e1, zp1e2, zp1e3, zp1e4, zp1e5, zp1e6, zp1e7, zp1e8, zp1e9, zp1e10, zp1e11, zp1e12, zp1e13, zp1e14, zp1e15, zp1e16, zp1e17
theorem t42 : Tryd.prog.underlying 42 = some (.slice 34) := by kernel_rfl
theorem s34 : sizeT Tryd.prog 34 = some 1 := by kernel_rfl
theorem i34 : (Tryd.prog.info? 34).map (fun i => (i.zero.map (·.cells.size), i.size, i.bytes)) = some (some 1, 1, 24) := by kernel_rfl
theorem prm4_ok (E : Env) (hE : E.fn = fns) : PrmOk E (prm4 Tryd.prog) where
  bt := by
    intro b hb
    rw [hE]
    have hb' : b ∈ btR ++ btW ++ [btApp43, btRecLen 42 1001, btRecIx 42 1001 r1, btRecLd 34 1001 r1 0] := hb
    rcases List.mem_append.1 hb' with h | h
    · rcases List.mem_append.1 h with h | h
      · exact btR_ok b h
      · exact btW_ok b h
    · obtain ⟨i, z, hi, hz, hzc, his, hib⟩ := info_of i34
      simp only [List.mem_cons, List.not_mem_nil, or_false] at h
      rcases h with rfl | rfl | rfl | rfl
      · exact btRecApp_ok rok1 t42 hi hz (by rw [hzc, his]) (by rw [his]; rfl) (by omega) (by decide) (by decide)
      · exact btRecLen_ok rok1 t42
      · exact btRecIx_ok rok1 t42 s34
      · exact btRecLd_ok rok1 (by decide) (by kernel_rfl)
  ct := by
    intro c hc
    have : c = ct5 ∨ c = ct6 ∨ c = ct7 ∨ c = ct10w ∨ c = ct28 ∨ c = ct29 := by simpa [prm4] using hc
    rw [hE]
    rcases this with rfl | rfl | rfl | rfl | rfl | rfl
    · exact ct5_ok
    · exact ct6_ok
    · exact ct7_ok
    · exact ct10w_ok
    · exact ct28_ok
    · exact ct29_ok
  mix := Checked.mixed Tryd.checked
  okf := okf_call
  body := okf_body
  mts := by intro x hx; cases hx
  dfr := by intro x hx; cases hx
  dfk := by intro x hx; cases hx
structure I4 (E0 E : Env) (i n : Nat) : Prop where
  ag : AgP 100 E0 E
  S : SOk (E.a 105) n
  nn : E.i 140 = n
  n40 : n ≤ 40
  r : 0 ≤ E.i 12
  i130 : E.i 130 = i
  le : i ≤ n
  q : E.i 131 = ((stq (E.a 105) (E.i 12) i).q.length : Int)
  qa : ∀ j, j < (stq (E.a 105) (E.i 12) i).q.length → E.a 100 j = arr (stq (E.a 105) (E.i 12) i).q j
  act : E.i 110 = (stq (E.a 105) (E.i 12) i).act
  hi : E.i 111 = (stq (E.a 105) (E.i 12) i).hi
  pk : E.i 113 = (stq (E.a 105) (E.i 12) i).pk
  per : E.i 114 = (stq (E.a 105) (E.i 12) i).per
  rdy : E.b 100 = (stq (E.a 105) (E.i 12) i).ready
  q3 : (stq (E.a 105) (E.i 12) i).q.length ≤ 3
  st : ∀ j, j < i * 5 → E.a 106 j = E.a 105 j
  rows : Rows4 (E.a 105) (E.i 12) (E.a 107) (E.a 108) (E.a 122) (E.a 124) i
structure J4 (E0 E : Env) (i m : Nat) : Prop where
  ag : AgP 100 E0 E
  S : SOk (E.a 106) m
  nn : E.i 141 = m
  n40 : m ≤ 40
  r : 0 ≤ E.i 12
  i142 : E.i 142 = i
  le : i ≤ m
  rows : Rows4 (E.a 106) (E.i 12) (E.a 107) (E.a 108) (E.a 122) (E.a 124) m
theorem I4.up {E0 E E' : Env} {i n : Nat} (h : I4 E0 E i n) (H : AgE 1000 E E') : I4 E0 E' i n := by
  have a := H.a 105 (by decide); have b := H.i 12 (by decide)
  exact { ag := h.ag.trans (by omega) H.p, S := by rw [a]; exact h.S, nn := by rw [H.i 140 (by decide)]; exact h.nn, n40 := h.n40, r := by rw [b]; exact h.r, i130 := by rw [H.i 130 (by decide)]; exact h.i130, le := h.le
          q := by rw [a, b, H.i 131 (by decide)]; exact h.q, qa := by rw [a, b, H.a 100 (by decide)]; exact h.qa, act := by rw [a, b, H.i 110 (by decide)]; exact h.act, hi := by rw [a, b, H.i 111 (by decide)]; exact h.hi
          pk := by rw [a, b, H.i 113 (by decide)]; exact h.pk, per := by rw [a, b, H.i 114 (by decide)]; exact h.per, rdy := by rw [a, b, H.b 100 (by decide)]; exact h.rdy, q3 := by rw [a, b]; exact h.q3
          st := by rw [a, H.a 106 (by decide)]; exact h.st, rows := by rw [a, b, H.a 107 (by decide), H.a 108 (by decide), H.a 122 (by decide), H.a 124 (by decide)]; exact h.rows }
theorem J4.up {E0 E E' : Env} {i m : Nat} (h : J4 E0 E i m) (H : AgE 1000 E E') : J4 E0 E' i m := by
  have a := H.a 106 (by decide); have b := H.i 12 (by decide)
  exact { ag := h.ag.trans (by omega) H.p, S := by rw [a]; exact h.S, nn := by rw [H.i 141 (by decide)]; exact h.nn, n40 := h.n40, r := by rw [b]; exact h.r, i142 := by rw [H.i 142 (by decide)]; exact h.i142, le := h.le
          rows := by rw [a, b, H.a 107 (by decide), H.a 108 (by decide), H.a 122 (by decide), H.a 124 (by decide)]; exact h.rows }
theorem tl1_den {E : Env} {a : Nat} {i : Nat} {n x : SE} (hn : n.den E = i) (j : Nat) : (AE.tl (.v a) n (.i x .nil)).den E j = if j < i then E.a a j else if j = i then x.den E else 0 := by
  simp only [AE.den, hn, Int.toNat_natCast]
  split
  · rfl
  · split
    · rename_i h; subst h; rw [Nat.sub_self]; rfl
    · obtain ⟨t, ht⟩ : ∃ t, j - i = t + 1 := ⟨j - i - 1, by omega⟩
      rw [ht]; rfl
theorem ap1_den {E : Env} (hE : E.fn = fns) {a : Nat} {i : Nat} {n : SE} {X : AE} (hn : n.den E = ((i * 64 : Nat) : Int)) (j : Nat) : (AE.ap 1 (.a (.v a) (.i n (.a X .nil)))).den E j = if j < i * 64 then E.a a j else X.den E (j - i * 64) := by
  have e : (AE.ap 1 (.a (.v a) (.i n (.a X .nil)))).den E = fns.a 1 [.a ((AE.v a).den E), .i (n.den E), .a (X.den E)] := by
    funext t; simp only [AE.den, SL.den, hE]
  rw [e, hn]
  show (if j < ((i * 64 : Nat) : Int).toNat then (AE.v a).den E j else X.den E (j - ((i * 64 : Nat) : Int).toNat)) = _
  rw [Int.toNat_natCast, d_av]
theorem rows_up {E : Env} (hE : E.fn = fns) {i n : Nat} {S : Nat → Int} {r : Int} (hS : SOk S n) (hr : 0 ≤ r) (hn : n ≤ 40) (hin : i < n) (h : Rows4 S r (E.a 107) (E.a 108) (E.a 122) (E.a 124) i) (hi : E.i 130 = i) {n64 cd us le : SE} {X : AE}
    (h64 : n64.den E = ((i * 64 : Nat) : Int)) (hc : cd.den E = codeAt S r i) (hu : us.den E = (stq S r (i + 1)).act) (hl : le.den E = ((retAt S r i).length : Int)) (hX : ∀ t, t < (retAt S r i).length → X.den E t = arr (retAt S r i) t) :
    Rows4 S r ((AE.tl (.v 107) (.v 130) (.i cd .nil)).den E) ((AE.tl (.v 108) (.v 130) (.i us .nil)).den E) ((AE.tl (.v 122) (.v 130) (.i le .nil)).den E) ((AE.ap 1 (.a (.v 124) (.i n64 (.a X .nil)))).den E) (i + 1) := by
  have hi' : (SE.v 130).den E = i := by rw [d_v]; exact hi
  refine h.snoc (fun j hj => ret_le hS hr (by omega) (by omega)) (fun j hj => ?_) (fun j hj => ?_) (fun j hj => ?_) (fun t ht => ?_) ⟨?_, ?_, ?_, fun t ht => ?_⟩
  · rw [tl1_den hi', if_pos hj]
  · rw [tl1_den hi', if_pos hj]
  · rw [tl1_den hi', if_pos hj]
  · rw [ap1_den hE h64, if_pos ht]
  · rw [tl1_den hi', if_neg (by omega), if_pos rfl]; exact hc
  · rw [tl1_den hi', if_neg (by omega), if_pos rfl]; exact hu
  · rw [tl1_den hi', if_neg (by omega), if_pos rfl]; exact hl
  · rw [ap1_den hE h64, if_neg (by omega), show i * 64 + t - i * 64 = t by omega]; exact hX t ht
theorem st_up {E : Env} {i : Nat} (hi : E.i 130 = i) (h : ∀ j, j < i * 5 → E.a 106 j = E.a 105 j) : ∀ j, j < (i + 1) * 5 → zp0e29.den E j = E.a 105 j := fun j hj => by
  have hn : ((SE.mul (.v 130) (.c 5)).den E).toNat = i * 5 := by simp only [SE.den, hi]; omega
  have e : zp0e29.den E j = if j < ((SE.mul (.v 130) (.c 5)).den E).toNat then (AE.v 106).den E j else (SL.i zp0e24 (.i zp0e2 (.i zp0e4 (.i (.rd (.v 105) (.add (.mul (.v 130) (.c 5)) (.c 3))) (.i (.rd (.v 105) (.add (.mul (.v 130) (.c 5)) (.c 4))) .nil))))).nth E (j - ((SE.mul (.v 130) (.c 5)).den E).toNat) := rfl
  rw [e, hn]
  split
  · rename_i h1; rw [d_av]; exact h j h1
  · obtain ⟨t, ht, ht5⟩ : ∃ t, j = i * 5 + t ∧ t < 5 := ⟨j - i * 5, by omega, by omega⟩
    subst ht
    rw [show i * 5 + t - i * 5 = t by omega]
    rcases (by omega : t = 0 ∨ t = 1 ∨ t = 2 ∨ t = 3 ∨ t = 4) with rfl | rfl | rfl | rfl | rfl
    · show E.a 105 (E.i 130 * 5).toNat = _
      rw [hi, show ((i : Int) * 5).toNat = i * 5 + 0 by omega]
    · show E.a 105 (E.i 130 * 5 + 1).toNat = _
      rw [hi, show ((i : Int) * 5 + 1).toNat = i * 5 + 1 by omega]
    · show E.a 105 (E.i 130 * 5 + 2).toNat = _
      rw [hi, show ((i : Int) * 5 + 2).toNat = i * 5 + 2 by omega]
    · show E.a 105 (E.i 130 * 5 + 3).toNat = _
      rw [hi, show ((i : Int) * 5 + 3).toNat = i * 5 + 3 by omega]
    · show E.a 105 (E.i 130 * 5 + 4).toNat = _
      rw [hi, show ((i : Int) * 5 + 4).toNat = i * 5 + 4 by omega]
theorem I4.facts {E0 E : Env} (hE : E.fn = fns) {i n : Nat} (h : I4 E0 E i n) (hF0 : Facts E0 ct4.pre) : Facts E (ct4.pre ++ stF) := by
  have k := stq_ok h.S h.r i h.le
  have k1 := h.nn; have k2 := h.n40; have k3 := h.i130; have k4 := h.le; have k5 := h.q; have k6 := h.q3
  have k7 := k.c0; have k8 := k.c1; have k9 := k.h0; have k10 := k.ha; have k11 := k.p0; have k12 := k.p1; have k13 := k.r0; have k14 := k.r1
  refine facts_append (h.ag.facts (by decide) hF0) ?_
  show Facts E [((.le (.c 0) (.v 130)), true), ((.le (.v 130) (.c 50)), true), ((.le (.c 0) (.v 140)), true), ((.le (.v 140) (.c 40)), true), ((.le (.c 0) (.v 131)), true), ((.le (.v 131) (.c 3)), true), ((.le (.c 0) (.v 110)), true), ((.le (.v 110) (.c 255)), true), ((.le (.c 0) (.v 111)), true), ((.le (.v 111) (.c 255)), true), ((.le (.c 0) (.v 113)), true), ((.le (.v 113) (.c 1000000000000000000)), true), ((.le (.c 0) (.v 114)), true), ((.le (.v 114) (.c 1000000000)), true), ((.le (.v 111) (.v 110)), true), (qoC (.v 100) (.v 131) (.v 110) (.v 111), true)]
  simp only [facts_cons, facts_nil, le_t, d_c, d_v, and_true, h.act, h.hi, h.pk, h.per]
  refine ⟨by omega, by omega, by omega, by omega, by omega, by omega, by omega, by omega, by omega, by omega, by omega, by omega, by omega, by omega, by omega, ?_⟩
  refine (qoC_den hE _ _ _ _).2 ?_
  have kq := qok_of k
  rw [show (AE.v 100).den E = E.a 100 from by funext j; rw [d_av], d_v, d_v, d_v, h.q, h.act, h.hi, Int.toNat_natCast]
  refine ⟨⟨fun j hj => ?_, fun i j hij hj => ?_⟩, kq.2.2.1, fun j hj => ?_⟩
  · rw [h.qa j hj]; exact kq.1.1 j hj
  · rw [h.qa j hj, h.qa i (by omega)]; exact kq.1.2 i j hij hj
  · rw [h.qa j hj]; exact kq.2.2.2 j hj
theorem c20U {E : Env} (hE : E.fn = fns) : (AE.ap 20 slU).den E = colA (E.a 106) (E.i 12) := by
  funext t; simp only [AE.den, slU, SL.den, SE.den, hE]; rfl
theorem c21U {E : Env} (hE : E.fn = fns) : (AE.ap 21 slU).den E = colL (E.a 106) (E.i 12) := by
  funext t; simp only [AE.den, slU, SL.den, SE.den, hE]; rfl
theorem c22U {E : Env} (hE : E.fn = fns) : (AE.ap 22 slU).den E = colC (E.a 106) (E.i 12) := by
  funext t; simp only [AE.den, slU, SL.den, SE.den, hE]; rfl
theorem out4 {E0 E : Env} (H : AgP 100 E0 E) : ∀ q ∈ ([.a (.v 0) (.v 0) (.v 1) 1, .i (.v 1) (.v 1)] : List Eqn), q.ok E E0 := by
  have r1 : (Eqn.a (.v 0) (.v 0) (.v 1) 1).ok E E0 := Eqn.a_ag H _ _ _ rfl
  (simp only [List.forall_mem_cons, List.not_mem_nil, false_imp_iff, implies_true, and_true]; (repeat' apply And.intro); all_goals (first | exact Eqn.i_ag (n := 100) (by assumption) _ rfl | exact Eqn.b_ag (n := 100) (by assumption) _ rfl | assumption))
def mu4 (j : Nat) (E : Env) : Nat := if j = 0 then (E.i 140 - E.i 130).toNat + 100 else (E.i 141 - E.i 142).toNat
theorem sok_den {E : Env} (hE : E.fn = fns) (a : AE) (n : SE) : (SB.ap 3 (.a a (.i n .nil))).den E = true ↔ SOk (a.den E) (n.den E).toNat := by
  have e : (SB.ap 3 (.a a (.i n .nil))).den E = @decide (SOk (a.den E) (n.den E).toNat) (Classical.propDecidable _) := by
    simp only [SB.den, SL.den, SE.den, hE]; rfl
  rw [e]
  exact @decide_eq_true_iff _ (Classical.propDecidable _)
theorem ct4_ok : CtOk Tryd.prog fns ct4 := by
  refine ct_of_ptsX (p := prm4 Tryd.prog) (pts := pts4 Tryd.prog) (n := 900) (c0 := enterD (prm4 Tryd.prog) ct4) (fun E hE => prm4_ok E hE) rfl (by intro q hq; cases hq) Tryd.func4 (by kernel_rfl) ?_
    (fun E0 j E => (j = 0 ∧ ∃ i n, I4 E0 E i n) ∨ (j = 1 ∧ ∃ i m, J4 E0 E i m)) (fun E0 j E => mu4 j E) zals zarun ?_ ?_
  · intro t ht
    simp only [pts4, List.mem_cons, List.not_mem_nil, or_false] at ht
    rcases ht with rfl | rfl
    · exact ⟨by kernel_rfl, by decide⟩
    · exact ⟨by kernel_rfl, by decide⟩
  · intro E0 hE0 hF
    refine ⟨fun a ha => (by cases ha; intro q hq; cases hq), fun E H1 _ x hx => ?_⟩
    have hE : E.fn = fns := H1.fn.trans hE0
    have H : AgP 100 E0 E := AgP.trans (by omega) (AgP.refl 100 E0) H1.p
    have hr0 := hF ((.le (.c 0) (.v 12)), true) (by simp [ct4, ct3, bd])
    rw [le_t, d_c, d_v] at hr0
    have r12 := H.i 12 (by decide)
    unfold zals at hx
    simp only [List.mem_cons, List.not_mem_nil, or_false] at hx
    rcases hx with rfl | rfl
    · intro hf
      exact ⟨rfl, E0, by rw [show ct4.nx = 0 from rfl, Env.upd_zero]; exact out4 H, fun a' ha' => (by cases ha'; intro q hq; cases hq)⟩
    · intro hf
      have h1 := hf (SB.le (.c 0) (.v 1000), true) (by simp)
      have h2 := hf (SB.le (.v 1000) (.c 40), true) (by simp)
      have h3 := hf (SB.ap 3 (.a (.v 1000) (.i (.v 1000) .nil)), true) (by simp)
      rw [le_t, d_c, d_v] at h1
      rw [le_t, d_c, d_v] at h2
      have hS := (sok_den hE _ _).1 h3
      rw [show (AE.v 1000).den E = E.a 1000 from by funext j; rw [d_av], d_v] at hS
      obtain ⟨n, hn⟩ : ∃ n : Nat, E.i 1000 = n := ⟨(E.i 1000).toNat, by omega⟩
      rw [hn, Int.toNat_natCast] at hS
      refine ⟨⟨_, rfl, .inl ⟨rfl, rfl⟩⟩, fun o => ⟨.inl ⟨rfl, 0, n, { ag := H.put o, S := hS, nn := hn, n40 := (by omega), r := (by show 0 ≤ E.i 12; omega), i130 := rfl, le := Nat.zero_le _, q := rfl, qa := (fun j hj => absurd hj (Nat.not_lt_zero _)), act := rfl, hi := rfl, pk := rfl, per := rfl, rdy := rfl, q3 := Nat.zero_le _, st := (fun j hj => absurd hj (Nat.not_lt_zero _)), rows := (fun j hj => absurd hj (Nat.not_lt_zero _)) }⟩, fun b hb => by cases hb⟩⟩
  · intro k t ht
    have hk : k = 0 ∨ k = 1 := by
      have := (List.getElem?_eq_some_iff.1 ht).1
      simp [pts4] at this; omega
    rcases hk with rfl | rfl
    · refine ⟨zp0ls, by rw [← ptD_some ht ct4.g]; exact zp0run, fun E0 E1 hE0 hE1 hF0 hI0 => ?_⟩
      obtain ⟨i, n, hI⟩ : ∃ i n, I4 E0 E1 i n := by
        rcases hI0 with ⟨_, h⟩ | ⟨h, _⟩
        · exact h
        · cases h
      refine ⟨?_, fun E H1 _ x hx => ?_⟩
      · obtain rfl := Option.some.inj ht
        exact hI.facts hE1 hF0
      · have hE : E.fn = fns := H1.fn.trans hE1
        have hJ := hI.up H1
        have hi := hJ.i130; have hnn := hJ.nn; have hle := hJ.le; have hr := hJ.r; have hS := hJ.S; have hn40 := hJ.n40
        have m1 : E1.i 130 = E.i 130 := (H1.i 130 (by decide)).symm
        have m2 : E1.i 140 = E.i 140 := (H1.i 140 (by decide)).symm
        have hQ := stq_ok hJ.S hJ.r i hJ.le
        have hlt : (SB.lt (.v 130) (.v 140)).den E = true → i < n := fun h => by simp only [lt_t, d_v] at h; omega
        obtain ⟨S, hSd⟩ : ∃ S, S = E.a 105 := ⟨_, rfl⟩
        obtain ⟨r, hrd⟩ : ∃ r, r = E.i 12 := ⟨_, rfl⟩
        have xk : zp0e24.den E = S (i * 5) := by
          show E.a 105 (E.i 130 * 5).toNat = _
          rw [hi, hSd, show ((i : Int) * 5).toNat = i * 5 by omega]
        have xs : zp0e2.den E = S (i * 5 + 1) := by
          show E.a 105 (E.i 130 * 5 + 1).toNat = _
          rw [hi, hSd, show ((i : Int) * 5 + 1).toNat = i * 5 + 1 by omega]
        have xp : zp0e4.den E = S (i * 5 + 2) := by
          show E.a 105 (E.i 130 * 5 + 2).toNat = _
          rw [hi, hSd, show ((i : Int) * 5 + 2).toNat = i * 5 + 2 by omega]
        have hq := hJ.q; have hqa := hJ.qa; have hact := hJ.act; have hhi := hJ.hi; have hpk := hJ.pk; have hper := hJ.per; have hrdy := hJ.rdy; have hq3 := hJ.q3; have hst := hJ.st; have hrows := hJ.rows
        rw [← hSd, ← hrd] at hq hqa hact hhi hpk hper hrdy hq3 hrows hQ
        rw [← hSd] at hst hS
        rw [← hrd] at hr
        obtain ⟨s, hs⟩ : ∃ s, s = stq S r i := ⟨_, rfl⟩
        rw [← hs] at hq hqa hact hhi hpk hper hrdy hq3 hQ
        have hs1 : stq S r (i + 1) = s.step r (S (i * 5)) (S (i * 5 + 1)) (S (i * 5 + 2)) := by rw [hs]; rfl
        have hcode : codeAt S r i = s.code (S (i * 5)) (S (i * 5 + 1)) (S (i * 5 + 2)) := by rw [hs]; rfl
        have hret : retAt S r i = s.ret (S (i * 5)) (S (i * 5 + 1)) (S (i * 5 + 2)) := by rw [hs]; rfl
        have h64 : (SE.mul (.v 130) (.c 64)).den E = ((i * 64 : Nat) : Int) := by simp only [SE.den, hi]; omega
        have hperE : perE.den E = perOf r := by rw [hrd]; rfl
        have hq0 : lst (E.a 100) (E.i 131).toNat = s.q := by
          rw [hq, Int.toNat_natCast]
          refine Eq.trans ?_ (lst_arr s.q)
          unfold lst
          exact List.map_congr_left fun j hj => hqa j (List.mem_range.1 hj)
        -- kind 0
        have k0 : S (i * 5) = 0 → ∀ j : Nat, True := fun _ _ => trivial
        have e10 : (SE.ap 10 (.a (.v 100) (.i (.v 131) (.i (.v 110) (.i (.v 111) (.i zp0e2 (.i zp0e4 .nil))))))).den E = ((adQ s.q s.act s.hi (S (i * 5 + 1)) (S (i * 5 + 2))).length : Int) := by
          have e : (SE.ap 10 (.a (.v 100) (.i (.v 131) (.i (.v 110) (.i (.v 111) (.i zp0e2 (.i zp0e4 .nil))))))).den E = fns.f 10 [.a ((AE.v 100).den E), .i (E.i 131), .i (E.i 110), .i (E.i 111), .i (zp0e2.den E), .i (zp0e4.den E)] := by simp only [SE.den, SL.den, hE]
          rw [e, show (AE.v 100).den E = E.a 100 from by funext j; rw [d_av], xs, xp, hact, hhi]
          show ((adQ (lst (E.a 100) (E.i 131).toNat) s.act s.hi _ _).length : Int) = _
          rw [hq0]
        have a10 : (AE.ap 10 (.a (.v 100) (.i (.v 131) (.i (.v 110) (.i (.v 111) (.i zp0e2 (.i zp0e4 .nil))))))).den E = arr (adQ s.q s.act s.hi (S (i * 5 + 1)) (S (i * 5 + 2))) := by
          have e : (AE.ap 10 (.a (.v 100) (.i (.v 131) (.i (.v 110) (.i (.v 111) (.i zp0e2 (.i zp0e4 .nil))))))).den E = fns.a 10 [.a ((AE.v 100).den E), .i (E.i 131), .i (E.i 110), .i (E.i 111), .i (zp0e2.den E), .i (zp0e4.den E)] := by funext t; simp only [AE.den, SE.den, SL.den, hE]
          rw [e, show (AE.v 100).den E = E.a 100 from by funext j; rw [d_av], xs, xp, hact, hhi]
          show arr (adQ (lst (E.a 100) (E.i 131).toNat) s.act s.hi _ _) = _
          rw [hq0]
        have e13 : (SE.ap 13 (.a (.v 100) (.i (.v 131) (.i (.v 110) (.i (.v 111) (.i zp0e2 (.i zp0e4 .nil))))))).den E = ((adR s.q s.act s.hi (S (i * 5 + 1)) (S (i * 5 + 2))).length : Int) := by
          have e : (SE.ap 13 (.a (.v 100) (.i (.v 131) (.i (.v 110) (.i (.v 111) (.i zp0e2 (.i zp0e4 .nil))))))).den E = fns.f 13 [.a ((AE.v 100).den E), .i (E.i 131), .i (E.i 110), .i (E.i 111), .i (zp0e2.den E), .i (zp0e4.den E)] := by simp only [SE.den, SL.den, hE]
          rw [e, show (AE.v 100).den E = E.a 100 from by funext j; rw [d_av], xs, xp, hact, hhi]
          show ((adR (lst (E.a 100) (E.i 131).toNat) s.act s.hi _ _).length : Int) = _
          rw [hq0]
        have a13 : (AE.ap 13 (.a (.v 100) (.i (.v 131) (.i (.v 110) (.i (.v 111) (.i zp0e2 (.i zp0e4 .nil))))))).den E = arr (adR s.q s.act s.hi (S (i * 5 + 1)) (S (i * 5 + 2))) := by
          have e : (AE.ap 13 (.a (.v 100) (.i (.v 131) (.i (.v 110) (.i (.v 111) (.i zp0e2 (.i zp0e4 .nil))))))).den E = fns.a 13 [.a ((AE.v 100).den E), .i (E.i 131), .i (E.i 110), .i (E.i 111), .i (zp0e2.den E), .i (zp0e4.den E)] := by funext t; simp only [AE.den, SE.den, SL.den, hE]
          rw [e, show (AE.v 100).den E = E.a 100 from by funext j; rw [d_av], xs, xp, hact, hhi]
          show arr (adR (lst (E.a 100) (E.i 131).toNat) s.act s.hi _ _) = _
          rw [hq0]
        have e11 : (SE.ap 11 (.a (.v 100) (.i (.v 131) (.i (.v 110) (.i (.v 111) (.i zp0e2 (.i zp0e4 .nil))))))).den E = adA s.q s.act s.hi (S (i * 5 + 1)) (S (i * 5 + 2)) := by
          have e : (SE.ap 11 (.a (.v 100) (.i (.v 131) (.i (.v 110) (.i (.v 111) (.i zp0e2 (.i zp0e4 .nil))))))).den E = fns.f 11 [.a ((AE.v 100).den E), .i (E.i 131), .i (E.i 110), .i (E.i 111), .i (zp0e2.den E), .i (zp0e4.den E)] := by simp only [SE.den, SL.den, hE]
          rw [e, show (AE.v 100).den E = E.a 100 from by funext j; rw [d_av], xs, xp, hact, hhi]
          show adA (lst (E.a 100) (E.i 131).toNat) s.act s.hi _ _ = _
          rw [hq0]
        have e12 : (SE.ap 12 (.i (.v 110) (.i (.v 111) (.i zp0e2 (.i zp0e4 .nil))))).den E = adH s.act s.hi (S (i * 5 + 1)) (S (i * 5 + 2)) := by
          have e : (SE.ap 12 (.i (.v 110) (.i (.v 111) (.i zp0e2 (.i zp0e4 .nil))))).den E = fns.f 12 [.i (E.i 110), .i (E.i 111), .i (zp0e2.den E), .i (zp0e4.den E)] := by simp only [SE.den, SL.den, hE]
          rw [e, xs, xp, hact, hhi]; rfl
        have g10' : (SB.ap 10 (.i (.v 110) (.i (.v 111) (.i zp0e2 (.i zp0e4 .nil))))).den E = adU s.act s.hi (S (i * 5 + 1)) (S (i * 5 + 2)) := by
          have e : (SB.ap 10 (.i (.v 110) (.i (.v 111) (.i zp0e2 (.i zp0e4 .nil))))).den E = fns.g 10 [.i (E.i 110), .i (E.i 111), .i (zp0e2.den E), .i (zp0e4.den E)] := by simp only [SB.den, SE.den, SL.den, hE]
          rw [e, xs, xp, hact, hhi]; rfl
        have ecd : S (i * 5) = 0 → zp0e22.den E = codeAt S r i := fun h0 => by
          rw [hcode]
          show (if (decide ((4 : Int) ≤ zp0e5.den E)) = true then (9 : Int) else 0) = _
          rw [show zp0e5.den E = _ from e10]
          unfold QS.code
          by_cases h4 : 4 ≤ (adQ s.q s.act s.hi (S (i * 5 + 1)) (S (i * 5 + 2))).length
          · rw [if_pos (by rw [decide_eq_true_eq]; omega), if_pos ⟨h0, h4⟩]
          · rw [if_neg (by rw [decide_eq_true_eq]; omega), if_neg (fun h => h4 h.2)]
        have hst' := st_up hi (by rw [← hSd]; exact hst)
        have rw0 : S (i * 5) = 0 → i < n → Rows4 S r _ _ _ _ (i + 1) := fun h0 hin =>
          rows_up (n := n) hE hS hr hn40 hin hrows hi (n64 := .mul (.v 130) (.c 64)) (cd := zp0e22) (us := .ap 11 (.a (.v 100) (.i (.v 131) (.i (.v 110) (.i (.v 111) (.i zp0e2 (.i zp0e4 .nil))))))) (le := .ap 13 (.a (.v 100) (.i (.v 131) (.i (.v 110) (.i (.v 111) (.i zp0e2 (.i zp0e4 .nil)))))))
            (X := .ap 13 (.a (.v 100) (.i (.v 131) (.i (.v 110) (.i (.v 111) (.i zp0e2 (.i zp0e4 .nil))))))) h64 (ecd h0) (by rw [e11, hs1, h0]; rfl) (by rw [e13, hret, h0]; rfl) (fun t _ => by rw [a13, hret, h0]; rfl)
        have rw1 : S (i * 5) ≠ 0 → i < n → retAt S r i = [] → (stq S r (i + 1)).act = s.act → Rows4 S r _ _ _ _ (i + 1) := fun h0 hin hre hac =>
          rows_up (n := n) hE hS hr hn40 hin hrows hi (n64 := .mul (.v 130) (.c 64)) (cd := .c 0) (us := .v 110) (le := .c 0) (X := .v 20) h64 (by rw [hcode]; unfold QS.code; rw [if_neg (fun h => h0 h.1)]; rfl) (by rw [hac, d_v]; exact hact) (by rw [hre]; rfl) (fun t ht => by rw [hre] at ht; exact absurd ht (Nat.not_lt_zero _))
        have hc0 : S (i * 5) ≠ 0 → s.code (S (i * 5)) (S (i * 5 + 1)) (S (i * 5 + 2)) = 0 := fun h0 => by unfold QS.code; rw [if_neg (fun h => h0 h.1)]
        have b4 : i < n → (0 ≤ S (i * 5) ∧ S (i * 5) ≤ 3) ∧ (0 ≤ S (i * 5 + 1) ∧ S (i * 5 + 1) ≤ 25500) ∧ (0 ≤ S (i * 5 + 2) ∧ S (i * 5 + 2) ≤ S (i * 5 + 1)) ∧ (S (i * 5) = 0 → S (i * 5 + 1) ≤ 255 ∧ S (i * 5 + 3) = S (i * 5 + 1) ∧ S (i * 5 + 4) = S (i * 5 + 1)) := fun h => hS i h
        have sh_den : s.sh = true ↔ (s.ready = true ∧ ((0 < s.q.length ∧ s.act = 0) ∨ (4 ≤ 2 * s.q.length ∧ s.per ≤ s.pk))) := by
          unfold QS.sh shd
          simp only [Bool.and_eq_true, Bool.or_eq_true, decide_eq_true_eq]
        -- a step that changes nothing but what is told
        have stay : ∀ (s' : QS), i < n → stq S r (i + 1) = s' → s'.q = s.q → s'.act = s.act → s'.hi = s.hi → s'.per = s.per → S (i * 5) ≠ 0 → retAt S r i = [] → ∀ {si : List (Nat × SE)} {sb : List (Nat × SB)} {sa : List (Nat × AE)} (o : Nat → Value), True := fun _ _ _ _ _ _ _ _ _ _ _ _ _ => trivial
        unfold zp0ls at hx
        simp only [List.mem_cons, List.not_mem_nil, or_false] at hx
        have mu0 : ∀ (X Y : Int), Y = E.i 130 + 1 → X = E.i 140 → i < n → (X - Y).toNat + 100 < (E1.i 140 - E1.i 130).toNat + 100 := fun X Y h1 h2 h3 => by omega
        have mu1 : ∀ (X : Int), X ≤ 41 → X.toNat < (E1.i 140 - E1.i 130).toNat + 100 := fun X h => by omega
        have sqb : i < n → S (i * 5) = 0 → (zp0e2.den E ≤ 255 ∧ 0 ≤ zp0e2.den E) ∧ (0 ≤ zp0e4.den E ∧ zp0e4.den E ≤ zp0e2.den E) := fun h h0 => by
          obtain ⟨_, b1, b2, b3⟩ := b4 h
          have := b3 h0
          rw [xs, xp]; omega
        have kz : ∀ {c : Int}, (SB.eq zp0e24 (.c c)).den E = true → S (i * 5) = c := fun h => by rw [eq_t, xk, d_c] at h; exact h
        have kn : ∀ {c : Int}, (SB.eq zp0e24 (.c c)).den E = false → S (i * 5) ≠ c := fun {c} h => by
          have h' : ¬ zp0e24.den E = c := by simpa [SB.den, SE.den] using h
          rwa [xk] at h'
        have sh0 : ∀ s' : QS, s'.q = s.q → s'.q.length ≤ 3 := fun s' h => by rw [h]; exact hq3
        -- the state stays, but perhaps that it is ready, or packets are counted
        rcases hx with rfl | rfl | rfl | rfl | rfl | rfl | rfl | rfl | rfl | rfl | rfl | rfl | rfl | rfl | rfl | rfl | rfl | rfl | rfl | rfl | rfl
        · intro hf
          have hin := hlt (hf (SB.lt (.v 130) (.v 140), true) (by simp))
          have h0 := kz (hf (SB.eq zp0e24 (.c 0), true) (by simp))
          have hcd := hf (SB.eq zp0e22 (.c 0), true) (by simp)
          rw [eq_t, ecd h0, d_c, hcode] at hcd
          have h3 := step_lt4 (r := r) hq3 hcd
          rw [← hs1] at h3
          refine ⟨⟨_, rfl, .inr ⟨rfl, rfl⟩⟩, fun o => ⟨.inl ⟨rfl, i + 1, n, { ag := hJ.ag.put o, S := hJ.S, nn := hJ.nn, n40 := hJ.n40, r := hJ.r, i130 := (by show E.i 130 + 1 = _; omega), le := hin, q := ?_, qa := ?_, act := ?_, hi := ?_, pk := ?_, per := ?_, rdy := ?_, q3 := ?_, st := ?_, rows := ?_ }⟩, fun b hb => ?_⟩⟩
          · show zp0e5.den E = ((stq (E.a 105) (E.i 12) (i + 1)).q.length : Int)
            rw [← hSd, ← hrd, show zp0e5.den E = _ from e10, hs1, h0]; rfl
          · show ∀ j, _ → (AE.ap 10 (.a (.v 100) (.i (.v 131) (.i (.v 110) (.i (.v 111) (.i zp0e2 (.i zp0e4 .nil))))))).den E j = arr (stq (E.a 105) (E.i 12) (i + 1)).q j
            intro j _
            rw [← hSd, ← hrd, a10, hs1, h0]; rfl
          · show (SE.ap 11 (.a (.v 100) (.i (.v 131) (.i (.v 110) (.i (.v 111) (.i zp0e2 (.i zp0e4 .nil))))))).den E = (stq (E.a 105) (E.i 12) (i + 1)).act
            rw [← hSd, ← hrd, e11, hs1, h0]; rfl
          · show (SE.ap 12 (.i (.v 110) (.i (.v 111) (.i zp0e2 (.i zp0e4 .nil))))).den E = (stq (E.a 105) (E.i 12) (i + 1)).hi
            rw [← hSd, ← hrd, e12, hs1, h0]; rfl
          · show (if (SB.ap 10 (.i (.v 110) (.i (.v 111) (.i zp0e2 (.i zp0e4 .nil))))).den E = true then (0 : Int) else E.i 113) = (stq (E.a 105) (E.i 12) (i + 1)).pk
            rw [← hSd, ← hrd, g10', hpk, hs1, h0]; rfl
          · show (if (SB.ap 10 (.i (.v 110) (.i (.v 111) (.i zp0e2 (.i zp0e4 .nil))))).den E = true then perE.den E else E.i 114) = (stq (E.a 105) (E.i 12) (i + 1)).per
            rw [← hSd, ← hrd, g10', hper, hperE, hs1, h0]; rfl
          · show E.b 100 = (stq (E.a 105) (E.i 12) (i + 1)).ready
            rw [← hSd, ← hrd, hrdy, hs1, h0]; rfl
          · show (stq (E.a 105) (E.i 12) (i + 1)).q.length ≤ 3
            rw [← hSd, ← hrd]; exact h3
          · exact hst'
          · show Rows4 (E.a 105) (E.i 12) _ _ _ _ (i + 1)
            rw [← hSd, ← hrd]; exact rw0 h0 hin
          · obtain rfl := Option.some.inj hb
            exact mu0 _ _ rfl rfl hin
        · intro hf
          have hin := hlt (hf (SB.lt (.v 130) (.v 140), true) (by simp))
          have h0 := kz (hf (SB.eq zp0e24 (.c 0), true) (by simp))
          refine ⟨⟨_, rfl, .inl ⟨rfl, rfl⟩⟩, fun o => ⟨.inr ⟨rfl, 0, i + 1, { ag := hJ.ag.put o, S := ?_, nn := (by show E.i 130 + 1 = _; omega), n40 := (by omega), r := hJ.r, i142 := rfl, le := Nat.zero_le _, rows := ?_ }⟩, fun b hb => ?_⟩⟩
          · show SOk (zp0e29.den E) (i + 1)
            exact (hS.less hin).congr fun j hj => by rw [hst' j hj, hSd]
          · show Rows4 (zp0e29.den E) (E.i 12) _ _ _ _ (i + 1)
            rw [← hrd]
            exact (rw0 h0 hin).congr fun j hj => by rw [hst' j hj, hSd]
          · obtain rfl := Option.some.inj hb
            exact mu1 _ (by show E.i 130 + 1 - 0 ≤ 41; omega)
        · intro hf
          have hin := hlt (hf (SB.lt (.v 130) (.v 140), true) (by simp))
          have h1 := hf (SB.ap 3 (.a zp0e29 (.i zp0e12 .nil)), false) (by simp)
          have h2 : (SB.ap 3 (.a zp0e29 (.i zp0e12 .nil))).den E = true := (sok_den hE _ _).2 (by
            rw [show (zp0e12.den E).toNat = i + 1 by show (E.i 130 + 1).toNat = _; omega]
            exact (hS.less hin).congr fun j hj => by rw [hst' j hj, hSd])
          rw [h2] at h1; cases h1
        · intro hf
          have hin := hlt (hf (SB.lt (.v 130) (.v 140), true) (by simp))
          have h1 := hf (SB.le zp0e12 (.c 50), false) (by simp)
          rw [le_f, d_c] at h1
          have : zp0e12.den E = E.i 130 + 1 := rfl
          omega
        · intro hf
          have hin := hlt (hf (SB.lt (.v 130) (.v 140), true) (by simp))
          have h0 := kz (hf (SB.eq zp0e24 (.c 0), true) (by simp))
          have h1 := hf (SB.le zp0e17 (.c 64), false) (by simp)
          have h2 := ret_le hS hr (by omega) hin
          rw [hret, h0] at h2
          have h3 : (adR s.q s.act s.hi (S (i * 5 + 1)) (S (i * 5 + 2))).length ≤ 64 := h2
          rw [le_f, show zp0e17.den E = _ from e13, d_c] at h1
          omega
        · intro hf
          have hin := hlt (hf (SB.lt (.v 130) (.v 140), true) (by simp))
          have h0 := kz (hf (SB.eq zp0e24 (.c 0), true) (by simp))
          have h1 := hf (SB.le zp0e4 zp0e2, false) (by simp)
          have := sqb hin h0
          rw [le_f] at h1
          omega
        · intro hf
          have hin := hlt (hf (SB.lt (.v 130) (.v 140), true) (by simp))
          have h0 := kz (hf (SB.eq zp0e24 (.c 0), true) (by simp))
          have h1 := hf (SB.le zp0e4 (.c 255), false) (by simp)
          have := sqb hin h0
          rw [le_f, d_c] at h1
          omega
        · intro hf
          have hin := hlt (hf (SB.lt (.v 130) (.v 140), true) (by simp))
          have h0 := kz (hf (SB.eq zp0e24 (.c 0), true) (by simp))
          have h1 := hf (SB.le (.c 0) zp0e4, false) (by simp)
          have := sqb hin h0
          rw [le_f, d_c] at h1
          omega
        · intro hf
          have hin := hlt (hf (SB.lt (.v 130) (.v 140), true) (by simp))
          have h0 := kz (hf (SB.eq zp0e24 (.c 0), true) (by simp))
          have h1 := hf (SB.le zp0e2 (.c 255), false) (by simp)
          have := sqb hin h0
          rw [le_f, d_c] at h1
          omega
        · intro hf
          have hin := hlt (hf (SB.lt (.v 130) (.v 140), true) (by simp))
          have h0 := kz (hf (SB.eq zp0e24 (.c 0), true) (by simp))
          have h1 := hf (SB.le (.c 0) zp0e2, false) (by simp)
          have := sqb hin h0
          rw [le_f, d_c] at h1
          omega
        · intro hf
          have hin := hlt (hf (SB.lt (.v 130) (.v 140), true) (by simp))
          have hk1 := kz (hf (SB.eq zp0e24 (.c 1), true) (by simp))
          have hne : S (i * 5) ≠ 0 := by omega
          have e1 : stq S r (i + 1) = { s with ready := true } := by rw [hs1, hk1]; rfl
          have er : retAt S r i = [] := by rw [hret, hk1]; rfl
          have R := rw1 hne hin er (by rw [e1])
          refine ⟨⟨_, rfl, .inr ⟨rfl, rfl⟩⟩, fun o => ⟨.inl ⟨rfl, i + 1, n, { ag := hJ.ag.put o, S := hJ.S, nn := hJ.nn, n40 := hJ.n40, r := hJ.r, i130 := (by show E.i 130 + 1 = _; omega), le := hin, q := ?_, qa := ?_, act := ?_, hi := ?_, pk := ?_, per := ?_, rdy := ?_, q3 := ?_, st := ?_, rows := ?_ }⟩, fun b hb => ?_⟩⟩
          · show E.i 131 = ((stq (E.a 105) (E.i 12) (i + 1)).q.length : Int)
            rw [← hSd, ← hrd, e1]; exact hq
          · show ∀ j, j < (stq (E.a 105) (E.i 12) (i + 1)).q.length → E.a 100 j = arr (stq (E.a 105) (E.i 12) (i + 1)).q j
            rw [← hSd, ← hrd, e1]; exact hqa
          · show E.i 110 = (stq (E.a 105) (E.i 12) (i + 1)).act
            rw [← hSd, ← hrd, e1]; exact hact
          · show E.i 111 = (stq (E.a 105) (E.i 12) (i + 1)).hi
            rw [← hSd, ← hrd, e1]; exact hhi
          · show _ = (stq (E.a 105) (E.i 12) (i + 1)).pk
            rw [← hSd, ← hrd, e1]; exact hpk
          · show E.i 114 = (stq (E.a 105) (E.i 12) (i + 1)).per
            rw [← hSd, ← hrd, e1]; exact hper
          · show _ = (stq (E.a 105) (E.i 12) (i + 1)).ready
            rw [← hSd, ← hrd, e1]; exact rfl
          · show (stq (E.a 105) (E.i 12) (i + 1)).q.length ≤ 3
            rw [← hSd, ← hrd, e1]; exact hq3
          · exact hst'
          · show Rows4 (E.a 105) (E.i 12) _ _ _ _ (i + 1)
            rw [← hSd, ← hrd]; exact R
          · obtain rfl := Option.some.inj hb
            exact mu0 _ _ rfl rfl hin
        · intro hf
          have hin := hlt (hf (SB.lt (.v 130) (.v 140), true) (by simp))
          have hk2 := kz (hf (SB.eq zp0e24 (.c 2), true) (by simp))
          have hne : S (i * 5) ≠ 0 := by omega
          have hpos := hf (SB.lt (.c 0) (.v 131), true) (by simp)
          have hrd1 := hf (SB.v 100, true) (by simp)
          rw [lt_t, d_c, d_v, hq] at hpos
          have hrd2 : E.b 100 = true := hrd1
          rw [hrdy] at hrd2
          have f1 := hf (SB.eq (.v 110) (.c 0), true) (by simp)
          rw [eq_t, d_v, d_c, hact] at f1
          have hsh : s.sh = true := sh_den.2 ⟨hrd2, .inl ⟨by omega, f1⟩⟩
          obtain ⟨hpos', _⟩ := hQ.next hsh hr
          have e1 : stq S r (i + 1) = { q := s.q.tail, act := s.q.headD 0, hi := s.act, pk := 0, per := perOf r, ready := s.ready, tok := true } := by
            rw [hs1, hk2]
            show (if s.sh then _ else _) = _
            rw [if_pos hsh]
          have er : retAt S r i = [s.act] := by
            rw [hret, hk2]
            show (if (2 : Int) = 0 then _ else if (2 : Int) = 2 ∧ s.sh = true then [s.act] else []) = _
            rw [if_neg (by decide), if_pos ⟨rfl, hsh⟩]
          have ehd : (SE.rd (.v 100) (.c 0)).den E = s.q.headD 0 := by
            show E.a 100 0 = _
            rw [hqa 0 (by omega), headD_arr]
          have R := rows_up (n := n) hE hS hr hn40 hin hrows hi (n64 := .mul (.v 130) (.c 64)) (cd := .c 0) (us := .rd (.v 100) (.c 0)) (le := .c 1) (X := .tl (.v 0) (.c 0) (.i (.v 110) .nil)) h64 (by rw [hcode, hc0 hne]; rfl) (by rw [ehd, e1]) (by rw [er]; rfl) (fun t ht => by
            rw [er] at ht ⊢
            have : t = 0 := by simpa using ht
            subst this
            show E.i 110 = s.act
            exact hact)
          refine ⟨⟨_, rfl, .inr ⟨rfl, rfl⟩⟩, fun o => ⟨.inl ⟨rfl, i + 1, n, { ag := hJ.ag.put o, S := hJ.S, nn := hJ.nn, n40 := hJ.n40, r := hJ.r, i130 := (by show E.i 130 + 1 = _; omega), le := hin, q := ?_, qa := ?_, act := ?_, hi := ?_, pk := ?_, per := ?_, rdy := ?_, q3 := ?_, st := ?_, rows := ?_ }⟩, fun b hb => ?_⟩⟩
          · show E.i 131 - 1 = ((stq (E.a 105) (E.i 12) (i + 1)).q.length : Int)
            rw [← hSd, ← hrd, e1, hq]
            show (s.q.length : Int) - 1 = (s.q.tail.length : Int)
            rw [List.length_tail]; omega
          · show ∀ j, j < (stq (E.a 105) (E.i 12) (i + 1)).q.length → (AE.dr (.v 100) (.c 1)).den E j = arr (stq (E.a 105) (E.i 12) (i + 1)).q j
            rw [← hSd, ← hrd, e1]
            intro t ht
            have ht' : t < s.q.tail.length := ht
            rw [List.length_tail] at ht'
            show _ = arr s.q.tail t
            rw [arr_tail, ← hqa (t + 1) (by omega)]
            simp only [AE.den, SE.den]; rfl
          · show (SE.rd (.v 100) (.c 0)).den E = (stq (E.a 105) (E.i 12) (i + 1)).act
            rw [← hSd, ← hrd, e1]; exact ehd
          · show imx (E.i 111) (E.i 110) = (stq (E.a 105) (E.i 12) (i + 1)).hi
            rw [← hSd, ← hrd, e1, hhi, hact]
            show imx s.hi s.act = s.act
            have := hQ.ha
            unfold imx; split <;> omega
          · show (0 : Int) = (stq (E.a 105) (E.i 12) (i + 1)).pk
            rw [← hSd, ← hrd, e1]
          · show perE.den E = (stq (E.a 105) (E.i 12) (i + 1)).per
            rw [← hSd, ← hrd, e1]; exact hperE
          · show E.b 100 = (stq (E.a 105) (E.i 12) (i + 1)).ready
            rw [← hSd, ← hrd, e1]; exact hrdy
          · show (stq (E.a 105) (E.i 12) (i + 1)).q.length ≤ 3
            rw [← hSd, ← hrd, e1]
            show s.q.tail.length ≤ 3
            rw [List.length_tail]; omega
          · exact hst'
          · show Rows4 (E.a 105) (E.i 12) _ _ _ _ (i + 1)
            rw [← hSd, ← hrd]; exact R
          · obtain rfl := Option.some.inj hb
            exact mu0 _ _ rfl rfl hin
        · intro hf
          have hin := hlt (hf (SB.lt (.v 130) (.v 140), true) (by simp))
          have hk2 := kz (hf (SB.eq zp0e24 (.c 2), true) (by simp))
          have hne : S (i * 5) ≠ 0 := by omega
          have hpos := hf (SB.lt (.c 0) (.v 131), true) (by simp)
          have hrd1 := hf (SB.v 100, true) (by simp)
          rw [lt_t, d_c, d_v, hq] at hpos
          have hrd2 : E.b 100 = true := hrd1
          rw [hrdy] at hrd2
          have f1 := hf (SB.le (.v 114) (.v 113), true) (by simp)
          have f2 := hf (SB.le (.c 4) zp0e45, true) (by simp)
          have f3 : zp0e45.den E = 2 * E.i 131 := rfl
          rw [le_t, d_v, d_v, hper, hpk] at f1
          rw [le_t, d_c, f3, hq] at f2
          have hsh : s.sh = true := sh_den.2 ⟨hrd2, .inr ⟨by omega, f1⟩⟩
          obtain ⟨hpos', _⟩ := hQ.next hsh hr
          have e1 : stq S r (i + 1) = { q := s.q.tail, act := s.q.headD 0, hi := s.act, pk := 0, per := perOf r, ready := s.ready, tok := true } := by
            rw [hs1, hk2]
            show (if s.sh then _ else _) = _
            rw [if_pos hsh]
          have er : retAt S r i = [s.act] := by
            rw [hret, hk2]
            show (if (2 : Int) = 0 then _ else if (2 : Int) = 2 ∧ s.sh = true then [s.act] else []) = _
            rw [if_neg (by decide), if_pos ⟨rfl, hsh⟩]
          have ehd : (SE.rd (.v 100) (.c 0)).den E = s.q.headD 0 := by
            show E.a 100 0 = _
            rw [hqa 0 (by omega), headD_arr]
          have R := rows_up (n := n) hE hS hr hn40 hin hrows hi (n64 := .mul (.v 130) (.c 64)) (cd := .c 0) (us := .rd (.v 100) (.c 0)) (le := .c 1) (X := .tl (.v 0) (.c 0) (.i (.v 110) .nil)) h64 (by rw [hcode, hc0 hne]; rfl) (by rw [ehd, e1]) (by rw [er]; rfl) (fun t ht => by
            rw [er] at ht ⊢
            have : t = 0 := by simpa using ht
            subst this
            show E.i 110 = s.act
            exact hact)
          refine ⟨⟨_, rfl, .inr ⟨rfl, rfl⟩⟩, fun o => ⟨.inl ⟨rfl, i + 1, n, { ag := hJ.ag.put o, S := hJ.S, nn := hJ.nn, n40 := hJ.n40, r := hJ.r, i130 := (by show E.i 130 + 1 = _; omega), le := hin, q := ?_, qa := ?_, act := ?_, hi := ?_, pk := ?_, per := ?_, rdy := ?_, q3 := ?_, st := ?_, rows := ?_ }⟩, fun b hb => ?_⟩⟩
          · show E.i 131 - 1 = ((stq (E.a 105) (E.i 12) (i + 1)).q.length : Int)
            rw [← hSd, ← hrd, e1, hq]
            show (s.q.length : Int) - 1 = (s.q.tail.length : Int)
            rw [List.length_tail]; omega
          · show ∀ j, j < (stq (E.a 105) (E.i 12) (i + 1)).q.length → (AE.dr (.v 100) (.c 1)).den E j = arr (stq (E.a 105) (E.i 12) (i + 1)).q j
            rw [← hSd, ← hrd, e1]
            intro t ht
            have ht' : t < s.q.tail.length := ht
            rw [List.length_tail] at ht'
            show _ = arr s.q.tail t
            rw [arr_tail, ← hqa (t + 1) (by omega)]
            simp only [AE.den, SE.den]; rfl
          · show (SE.rd (.v 100) (.c 0)).den E = (stq (E.a 105) (E.i 12) (i + 1)).act
            rw [← hSd, ← hrd, e1]; exact ehd
          · show imx (E.i 111) (E.i 110) = (stq (E.a 105) (E.i 12) (i + 1)).hi
            rw [← hSd, ← hrd, e1, hhi, hact]
            show imx s.hi s.act = s.act
            have := hQ.ha
            unfold imx; split <;> omega
          · show (0 : Int) = (stq (E.a 105) (E.i 12) (i + 1)).pk
            rw [← hSd, ← hrd, e1]
          · show perE.den E = (stq (E.a 105) (E.i 12) (i + 1)).per
            rw [← hSd, ← hrd, e1]; exact hperE
          · show E.b 100 = (stq (E.a 105) (E.i 12) (i + 1)).ready
            rw [← hSd, ← hrd, e1]; exact hrdy
          · show (stq (E.a 105) (E.i 12) (i + 1)).q.length ≤ 3
            rw [← hSd, ← hrd, e1]
            show s.q.tail.length ≤ 3
            rw [List.length_tail]; omega
          · exact hst'
          · show Rows4 (E.a 105) (E.i 12) _ _ _ _ (i + 1)
            rw [← hSd, ← hrd]; exact R
          · obtain rfl := Option.some.inj hb
            exact mu0 _ _ rfl rfl hin
        · intro hf
          have hin := hlt (hf (SB.lt (.v 130) (.v 140), true) (by simp))
          have hk2 := kz (hf (SB.eq zp0e24 (.c 2), true) (by simp))
          have hne : S (i * 5) ≠ 0 := by omega
          have f1 := hf (SB.le (.v 114) (.v 113), false) (by simp)
          have f2 := hf (SB.eq (.v 110) (.c 0), false) (by simp)
          have f2 : ¬ E.i 110 = 0 := by simpa [SB.den, SE.den] using f2
          rw [le_f, d_v, d_v, hper, hpk] at f1
          rw [hact] at f2
          have hsh : ¬ s.sh = true := fun h => by
            rcases (sh_den.1 h).2 with h | h <;> omega
          have e1 : stq S r (i + 1) = s := by
            rw [hs1, hk2]
            show (if s.sh then _ else _) = _
            rw [if_neg hsh]
          have er : retAt S r i = [] := by
            rw [hret, hk2]
            show (if (2 : Int) = 0 then _ else if (2 : Int) = 2 ∧ s.sh = true then [s.act] else []) = _
            rw [if_neg (by decide), if_neg (fun h => hsh h.2)]
          have R := rw1 hne hin er (by rw [e1])
          refine ⟨⟨_, rfl, .inr ⟨rfl, rfl⟩⟩, fun o => ⟨.inl ⟨rfl, i + 1, n, { ag := hJ.ag.put o, S := hJ.S, nn := hJ.nn, n40 := hJ.n40, r := hJ.r, i130 := (by show E.i 130 + 1 = _; omega), le := hin, q := ?_, qa := ?_, act := ?_, hi := ?_, pk := ?_, per := ?_, rdy := ?_, q3 := ?_, st := ?_, rows := ?_ }⟩, fun b hb => ?_⟩⟩
          · show E.i 131 = ((stq (E.a 105) (E.i 12) (i + 1)).q.length : Int)
            rw [← hSd, ← hrd, e1]; exact hq
          · show ∀ j, j < (stq (E.a 105) (E.i 12) (i + 1)).q.length → E.a 100 j = arr (stq (E.a 105) (E.i 12) (i + 1)).q j
            rw [← hSd, ← hrd, e1]; exact hqa
          · show E.i 110 = (stq (E.a 105) (E.i 12) (i + 1)).act
            rw [← hSd, ← hrd, e1]; exact hact
          · show E.i 111 = (stq (E.a 105) (E.i 12) (i + 1)).hi
            rw [← hSd, ← hrd, e1]; exact hhi
          · show _ = (stq (E.a 105) (E.i 12) (i + 1)).pk
            rw [← hSd, ← hrd, e1]; exact hpk
          · show E.i 114 = (stq (E.a 105) (E.i 12) (i + 1)).per
            rw [← hSd, ← hrd, e1]; exact hper
          · show _ = (stq (E.a 105) (E.i 12) (i + 1)).ready
            rw [← hSd, ← hrd, e1]; exact hrdy
          · show (stq (E.a 105) (E.i 12) (i + 1)).q.length ≤ 3
            rw [← hSd, ← hrd, e1]; exact hq3
          · exact hst'
          · show Rows4 (E.a 105) (E.i 12) _ _ _ _ (i + 1)
            rw [← hSd, ← hrd]; exact R
          · obtain rfl := Option.some.inj hb
            exact mu0 _ _ rfl rfl hin
        · intro hf
          have hin := hlt (hf (SB.lt (.v 130) (.v 140), true) (by simp))
          have hk2 := kz (hf (SB.eq zp0e24 (.c 2), true) (by simp))
          have hne : S (i * 5) ≠ 0 := by omega
          have f1 := hf (SB.le (.c 4) zp0e45, false) (by simp)
          have f2 := hf (SB.eq (.v 110) (.c 0), false) (by simp)
          have f2 : ¬ E.i 110 = 0 := by simpa [SB.den, SE.den] using f2
          have f3 : zp0e45.den E = 2 * E.i 131 := rfl
          rw [le_f, d_c, f3, hq] at f1
          rw [hact] at f2
          have hsh : ¬ s.sh = true := fun h => by
            rcases (sh_den.1 h).2 with h | h <;> omega
          have e1 : stq S r (i + 1) = s := by
            rw [hs1, hk2]
            show (if s.sh then _ else _) = _
            rw [if_neg hsh]
          have er : retAt S r i = [] := by
            rw [hret, hk2]
            show (if (2 : Int) = 0 then _ else if (2 : Int) = 2 ∧ s.sh = true then [s.act] else []) = _
            rw [if_neg (by decide), if_neg (fun h => hsh h.2)]
          have R := rw1 hne hin er (by rw [e1])
          refine ⟨⟨_, rfl, .inr ⟨rfl, rfl⟩⟩, fun o => ⟨.inl ⟨rfl, i + 1, n, { ag := hJ.ag.put o, S := hJ.S, nn := hJ.nn, n40 := hJ.n40, r := hJ.r, i130 := (by show E.i 130 + 1 = _; omega), le := hin, q := ?_, qa := ?_, act := ?_, hi := ?_, pk := ?_, per := ?_, rdy := ?_, q3 := ?_, st := ?_, rows := ?_ }⟩, fun b hb => ?_⟩⟩
          · show E.i 131 = ((stq (E.a 105) (E.i 12) (i + 1)).q.length : Int)
            rw [← hSd, ← hrd, e1]; exact hq
          · show ∀ j, j < (stq (E.a 105) (E.i 12) (i + 1)).q.length → E.a 100 j = arr (stq (E.a 105) (E.i 12) (i + 1)).q j
            rw [← hSd, ← hrd, e1]; exact hqa
          · show E.i 110 = (stq (E.a 105) (E.i 12) (i + 1)).act
            rw [← hSd, ← hrd, e1]; exact hact
          · show E.i 111 = (stq (E.a 105) (E.i 12) (i + 1)).hi
            rw [← hSd, ← hrd, e1]; exact hhi
          · show _ = (stq (E.a 105) (E.i 12) (i + 1)).pk
            rw [← hSd, ← hrd, e1]; exact hpk
          · show E.i 114 = (stq (E.a 105) (E.i 12) (i + 1)).per
            rw [← hSd, ← hrd, e1]; exact hper
          · show _ = (stq (E.a 105) (E.i 12) (i + 1)).ready
            rw [← hSd, ← hrd, e1]; exact hrdy
          · show (stq (E.a 105) (E.i 12) (i + 1)).q.length ≤ 3
            rw [← hSd, ← hrd, e1]; exact hq3
          · exact hst'
          · show Rows4 (E.a 105) (E.i 12) _ _ _ _ (i + 1)
            rw [← hSd, ← hrd]; exact R
          · obtain rfl := Option.some.inj hb
            exact mu0 _ _ rfl rfl hin
        · intro hf
          have hin := hlt (hf (SB.lt (.v 130) (.v 140), true) (by simp))
          have hk2 := kz (hf (SB.eq zp0e24 (.c 2), true) (by simp))
          have hne : S (i * 5) ≠ 0 := by omega
          have f1 := hf (SB.lt (.c 0) (.v 131), false) (by simp)
          rw [lt_f, d_c, d_v, hq] at f1
          have hsh : ¬ s.sh = true := fun h => by
            rcases (sh_den.1 h).2 with h | h <;> omega
          have e1 : stq S r (i + 1) = s := by
            rw [hs1, hk2]
            show (if s.sh then _ else _) = _
            rw [if_neg hsh]
          have er : retAt S r i = [] := by
            rw [hret, hk2]
            show (if (2 : Int) = 0 then _ else if (2 : Int) = 2 ∧ s.sh = true then [s.act] else []) = _
            rw [if_neg (by decide), if_neg (fun h => hsh h.2)]
          have R := rw1 hne hin er (by rw [e1])
          refine ⟨⟨_, rfl, .inr ⟨rfl, rfl⟩⟩, fun o => ⟨.inl ⟨rfl, i + 1, n, { ag := hJ.ag.put o, S := hJ.S, nn := hJ.nn, n40 := hJ.n40, r := hJ.r, i130 := (by show E.i 130 + 1 = _; omega), le := hin, q := ?_, qa := ?_, act := ?_, hi := ?_, pk := ?_, per := ?_, rdy := ?_, q3 := ?_, st := ?_, rows := ?_ }⟩, fun b hb => ?_⟩⟩
          · show E.i 131 = ((stq (E.a 105) (E.i 12) (i + 1)).q.length : Int)
            rw [← hSd, ← hrd, e1]; exact hq
          · show ∀ j, j < (stq (E.a 105) (E.i 12) (i + 1)).q.length → E.a 100 j = arr (stq (E.a 105) (E.i 12) (i + 1)).q j
            rw [← hSd, ← hrd, e1]; exact hqa
          · show E.i 110 = (stq (E.a 105) (E.i 12) (i + 1)).act
            rw [← hSd, ← hrd, e1]; exact hact
          · show E.i 111 = (stq (E.a 105) (E.i 12) (i + 1)).hi
            rw [← hSd, ← hrd, e1]; exact hhi
          · show _ = (stq (E.a 105) (E.i 12) (i + 1)).pk
            rw [← hSd, ← hrd, e1]; exact hpk
          · show E.i 114 = (stq (E.a 105) (E.i 12) (i + 1)).per
            rw [← hSd, ← hrd, e1]; exact hper
          · show _ = (stq (E.a 105) (E.i 12) (i + 1)).ready
            rw [← hSd, ← hrd, e1]; exact hrdy
          · show (stq (E.a 105) (E.i 12) (i + 1)).q.length ≤ 3
            rw [← hSd, ← hrd, e1]; exact hq3
          · exact hst'
          · show Rows4 (E.a 105) (E.i 12) _ _ _ _ (i + 1)
            rw [← hSd, ← hrd]; exact R
          · obtain rfl := Option.some.inj hb
            exact mu0 _ _ rfl rfl hin
        · intro hf
          have hin := hlt (hf (SB.lt (.v 130) (.v 140), true) (by simp))
          have hk2 := kz (hf (SB.eq zp0e24 (.c 2), true) (by simp))
          have hne : S (i * 5) ≠ 0 := by omega
          have f1 : E.b 100 = false := hf (SB.v 100, false) (by simp)
          rw [hrdy] at f1
          have hsh : ¬ s.sh = true := fun h => by
            rw [(sh_den.1 h).1] at f1; cases f1
          have e1 : stq S r (i + 1) = s := by
            rw [hs1, hk2]
            show (if s.sh then _ else _) = _
            rw [if_neg hsh]
          have er : retAt S r i = [] := by
            rw [hret, hk2]
            show (if (2 : Int) = 0 then _ else if (2 : Int) = 2 ∧ s.sh = true then [s.act] else []) = _
            rw [if_neg (by decide), if_neg (fun h => hsh h.2)]
          have R := rw1 hne hin er (by rw [e1])
          refine ⟨⟨_, rfl, .inr ⟨rfl, rfl⟩⟩, fun o => ⟨.inl ⟨rfl, i + 1, n, { ag := hJ.ag.put o, S := hJ.S, nn := hJ.nn, n40 := hJ.n40, r := hJ.r, i130 := (by show E.i 130 + 1 = _; omega), le := hin, q := ?_, qa := ?_, act := ?_, hi := ?_, pk := ?_, per := ?_, rdy := ?_, q3 := ?_, st := ?_, rows := ?_ }⟩, fun b hb => ?_⟩⟩
          · show E.i 131 = ((stq (E.a 105) (E.i 12) (i + 1)).q.length : Int)
            rw [← hSd, ← hrd, e1]; exact hq
          · show ∀ j, j < (stq (E.a 105) (E.i 12) (i + 1)).q.length → E.a 100 j = arr (stq (E.a 105) (E.i 12) (i + 1)).q j
            rw [← hSd, ← hrd, e1]; exact hqa
          · show E.i 110 = (stq (E.a 105) (E.i 12) (i + 1)).act
            rw [← hSd, ← hrd, e1]; exact hact
          · show E.i 111 = (stq (E.a 105) (E.i 12) (i + 1)).hi
            rw [← hSd, ← hrd, e1]; exact hhi
          · show _ = (stq (E.a 105) (E.i 12) (i + 1)).pk
            rw [← hSd, ← hrd, e1]; exact hpk
          · show E.i 114 = (stq (E.a 105) (E.i 12) (i + 1)).per
            rw [← hSd, ← hrd, e1]; exact hper
          · show _ = (stq (E.a 105) (E.i 12) (i + 1)).ready
            rw [← hSd, ← hrd, e1]; exact hrdy
          · show (stq (E.a 105) (E.i 12) (i + 1)).q.length ≤ 3
            rw [← hSd, ← hrd, e1]; exact hq3
          · exact hst'
          · show Rows4 (E.a 105) (E.i 12) _ _ _ _ (i + 1)
            rw [← hSd, ← hrd]; exact R
          · obtain rfl := Option.some.inj hb
            exact mu0 _ _ rfl rfl hin
        · intro hf
          have hin := hlt (hf (SB.lt (.v 130) (.v 140), true) (by simp))
          have hk3 := kz (hf (SB.eq zp0e24 (.c 3), true) (by simp))
          have hne : S (i * 5) ≠ 0 := by omega
          obtain ⟨_, ⟨c1, c2⟩, _, _⟩ := b4 hin
          have e1 : stq S r (i + 1) = { s with pk := s.pk + S (i * 5 + 1) } := by
            rw [hs1, hk3]
            show { s with pk := s.pk + min (S (i * 5 + 1)) 100000 } = _
            rw [Int.min_eq_left (by omega)]
          have er : retAt S r i = [] := by rw [hret, hk3]; rfl
          have R := rw1 hne hin er (by rw [e1])
          have hp0 := hQ.p0; have hp1 := hQ.p1
          have e3 : (SE.wrap .u64 zp0e46).den E = s.pk + S (i * 5 + 1) := by
            show IntKind.u64.wrap (E.i 113 + zp0e2.den E) = _
            rw [xs, hpk]
            exact u64_id (by omega) (by omega)
          refine ⟨⟨_, rfl, .inr ⟨rfl, rfl⟩⟩, fun o => ⟨.inl ⟨rfl, i + 1, n, { ag := hJ.ag.put o, S := hJ.S, nn := hJ.nn, n40 := hJ.n40, r := hJ.r, i130 := (by show E.i 130 + 1 = _; omega), le := hin, q := ?_, qa := ?_, act := ?_, hi := ?_, pk := ?_, per := ?_, rdy := ?_, q3 := ?_, st := ?_, rows := ?_ }⟩, fun b hb => ?_⟩⟩
          · show E.i 131 = ((stq (E.a 105) (E.i 12) (i + 1)).q.length : Int)
            rw [← hSd, ← hrd, e1]; exact hq
          · show ∀ j, j < (stq (E.a 105) (E.i 12) (i + 1)).q.length → E.a 100 j = arr (stq (E.a 105) (E.i 12) (i + 1)).q j
            rw [← hSd, ← hrd, e1]; exact hqa
          · show E.i 110 = (stq (E.a 105) (E.i 12) (i + 1)).act
            rw [← hSd, ← hrd, e1]; exact hact
          · show E.i 111 = (stq (E.a 105) (E.i 12) (i + 1)).hi
            rw [← hSd, ← hrd, e1]; exact hhi
          · show _ = (stq (E.a 105) (E.i 12) (i + 1)).pk
            rw [← hSd, ← hrd, e1]; exact e3
          · show E.i 114 = (stq (E.a 105) (E.i 12) (i + 1)).per
            rw [← hSd, ← hrd, e1]; exact hper
          · show _ = (stq (E.a 105) (E.i 12) (i + 1)).ready
            rw [← hSd, ← hrd, e1]; exact hrdy
          · show (stq (E.a 105) (E.i 12) (i + 1)).q.length ≤ 3
            rw [← hSd, ← hrd, e1]; exact hq3
          · exact hst'
          · show Rows4 (E.a 105) (E.i 12) _ _ _ _ (i + 1)
            rw [← hSd, ← hrd]; exact R
          · obtain rfl := Option.some.inj hb
            exact mu0 _ _ rfl rfl hin
        · intro hf
          have hin := hlt (hf (SB.lt (.v 130) (.v 140), true) (by simp))
          have d0 := kn (hf (SB.eq zp0e24 (.c 0), false) (by simp))
          have d1 := kn (hf (SB.eq zp0e24 (.c 1), false) (by simp))
          have d2 := kn (hf (SB.eq zp0e24 (.c 2), false) (by simp))
          have d3 := kn (hf (SB.eq zp0e24 (.c 3), false) (by simp))
          have := (b4 hin).1
          omega
        · intro hf
          have h1 := hf (SB.lt (.v 130) (.v 140), false) (by simp)
          rw [lt_f, d_v, d_v] at h1
          have hin : i = n := by omega
          have hst0 : ∀ j, j < i * 5 → S j = E.a 106 j := fun j hj => (hst j hj).symm
          refine ⟨⟨_, rfl, .inl ⟨rfl, rfl⟩⟩, fun o => ⟨.inr ⟨rfl, 0, i, { ag := hJ.ag.put o, S := ?_, nn := hi, n40 := (by omega), r := hJ.r, i142 := rfl, le := Nat.zero_le _, rows := ?_ }⟩, fun b hb => ?_⟩⟩
          · show SOk (E.a 106) i
            exact (hS.less (by omega)).congr hst0
          · show Rows4 (E.a 106) (E.i 12) (E.a 107) (E.a 108) (E.a 122) (E.a 124) i
            rw [← hrd]; exact hrows.congr hst0
          · obtain rfl := Option.some.inj hb
            exact mu1 _ (by show E.i 130 - 0 ≤ 41; omega)
        · intro hf
          have h1 := hf (SB.ap 3 (.a (.v 106) (.i (.v 130) .nil)), false) (by simp)
          have h2 : (SB.ap 3 (.a (.v 106) (.i (.v 130) .nil))).den E = true := (sok_den hE _ _).2 (by
            rw [show (AE.v 106).den E = E.a 106 from by funext j; rw [d_av], d_v, hi, Int.toNat_natCast]
            exact (hS.less hle).congr fun j hj => (hst j hj).symm)
          rw [h2] at h1; cases h1
    · refine ⟨zp1ls, by rw [← ptD_some ht ct4.g]; exact zp1run, fun E0 E1 hE0 hE1 hF0 hI0 => ?_⟩
      obtain ⟨i, m, hI⟩ : ∃ i m, J4 E0 E1 i m := by
        rcases hI0 with ⟨h, _⟩ | ⟨_, h⟩
        · cases h
        · exact h
      refine ⟨?_, fun E H1 _ x hx => ?_⟩
      · obtain rfl := Option.some.inj ht
        have := hI.nn; have := hI.n40; have := hI.i142; have := hI.le
        refine facts_append (facts_append (hI.ag.facts (by decide) hF0) ?_) ?_
        · show Facts E1 [((.le (.c 0) (.v 141)), true), ((.le (.v 141) (.c 50)), true)]
          simp only [facts_cons, facts_nil, le_t, d_c, d_v, and_true]; omega
        · show Facts E1 [((.le (.c 0) (.v 142)), true), ((.le (.v 142) (.c 50)), true)]
          simp only [facts_cons, facts_nil, le_t, d_c, d_v, and_true]; omega
      · have hE : E.fn = fns := H1.fn.trans hE1
        have hJ := hI.up H1
        have hi := hJ.i142; have hnn := hJ.nn; have hle := hJ.le; have hr := hJ.r; have hS := hJ.S; have hn40 := hJ.n40
        have m1 : E1.i 142 = E.i 142 := (H1.i 142 (by decide)).symm
        have m2 : E1.i 141 = E.i 141 := (H1.i 141 (by decide)).symm
        have hlt : (SB.lt (.v 142) (.v 141)).den E = true → i < m := fun h => by simp only [lt_t, d_v] at h; omega
        obtain ⟨S, hSd⟩ : ∃ S, S = E.a 106 := ⟨_, rfl⟩
        obtain ⟨r, hrd⟩ : ∃ r, r = E.i 12 := ⟨_, rfl⟩
        have hrows := hJ.rows
        rw [← hSd, ← hrd] at hrows
        rw [← hSd] at hS
        rw [← hrd] at hr
        have x16 : zp1e16.den E = codeAt S r i := by
          show (AE.ap 20 slU).den E (E.i 142 * 6).toNat = _
          rw [c20U hE, hi, ← hSd, ← hrd, show ((i : Int) * 6).toNat = i * 6 by omega]
          unfold colA
          rw [if_pos (by omega), show i * 6 / 6 = i by omega]
        have x4 : zp1e4.den E = nowAt S r i := by
          show (AE.ap 20 slU).den E (E.i 142 * 6 + 1).toNat = _
          rw [c20U hE, hi, ← hSd, ← hrd, show ((i : Int) * 6 + 1).toNat = i * 6 + 1 by omega]
          unfold colA
          rw [if_neg (by omega), if_pos (by omega), show (i * 6 + 1) / 6 = i by omega]
        have x13 : zp1e13.den E = ((retAt S r i).length : Int) := by
          show (AE.ap 21 slU).den E (E.i 142 * 3).toNat = _
          rw [c21U hE, hi, ← hSd, ← hrd, show ((i : Int) * 3).toNat = i * 3 + 0 by omega, colL_at _ _ _ _ (by decide)]; rfl
        have x17 : zp1e17.den E = E.a 107 i := by
          show E.a 107 (E.i 142).toNat = _
          rw [hi]; rfl
        have x5 : zp1e5.den E = E.a 108 i := by
          show E.a 108 (E.i 142).toNat = _
          rw [hi]; rfl
        have x15 : zp1e15.den E = E.a 122 i := by
          show E.a 122 (E.i 142).toNat = _
          rw [hi]; rfl
        have x8 : zp1e8.den E = S (i * 5) := by
          show E.a 106 (E.i 142 * 5).toNat = _
          rw [hi, hSd, show ((i : Int) * 5).toNat = i * 5 by omega]
        have hout : ∃ V, (∀ q ∈ ([.a (.v 0) (.v 0) (.v 1) 1, .i (.v 1) (.v 1)] : List Eqn), q.ok E (E0.upd xb ct4.nx V)) ∧ ∀ a', ct4.alts[0]? = some a' → Facts (E0.upd xb ct4.nx V) a'.xf :=
          ⟨E0, by rw [show ct4.nx = 0 from rfl, Env.upd_zero]; exact out4 hJ.ag, fun a' ha' => (by cases ha'; intro q hq; cases hq)⟩
        have go : i < m → ∀ o, ((0 = 0 ∧ False) ∨ True) ∧ J4 E0 (E.put [(142, zp1e0)] [] [] o) (i + 1) m := fun h o => ⟨.inr trivial, { ag := hJ.ag.put o, S := hJ.S, nn := hJ.nn, n40 := hJ.n40, r := hJ.r, i142 := (by show E.i 142 + 1 = _; omega), le := h, rows := hJ.rows }⟩
        have h64 : i < m → (retAt S r i).length ≤ 64 := fun h => ret_le hS hr (by omega) h
        unfold zp1ls at hx
        simp only [List.mem_cons, List.not_mem_nil, or_false] at hx
        rcases hx with rfl | rfl | rfl | rfl | rfl | rfl | rfl | rfl | rfl | rfl
        · intro hf
          have hin := hlt (hf (SB.lt (.v 142) (.v 141), true) (by simp))
          refine ⟨⟨_, rfl, .inr ⟨rfl, rfl⟩⟩, fun o => ⟨.inr ⟨rfl, i + 1, m, (go hin o).2⟩, fun b hb => ?_⟩⟩
          obtain rfl := Option.some.inj hb
          show (E.i 141 - (E.i 142 + 1)).toNat < (E1.i 141 - E1.i 142).toNat
          omega
        · intro hf
          have hin := hlt (hf (SB.lt (.v 142) (.v 141), true) (by simp))
          have h1 := hf (SB.eq zp1e4 zp1e6, false) (by simp)
          have h1 : ¬ zp1e4.den E = zp1e6.den E := by simpa [SB.den, SE.den] using h1
          have h2 := hf (SB.eq zp1e8 (.c 2), true) (by simp)
          rw [eq_t, x8, d_c] at h2
          have hR := hrows i hin
          obtain ⟨_, _, _, l4⟩ := step_law hS hr hin
          have hq := stq_ok hS hr (i + 1) hin
          have hb0 := hq.c0; have hb1 := hq.c1
          have e6 : zp1e6.den E = (stq S r (i + 1)).act := by
            show IntKind.i64.wrap (zp1e5.den E) = _
            rw [x5, hR.u, IntKind.wrap_i64]; omega
          exact absurd (by rw [x4, e6]; exact l4 h2) h1
        · intro hf
          have hin := hlt (hf (SB.lt (.v 142) (.v 141), true) (by simp))
          refine ⟨⟨_, rfl, .inr ⟨rfl, rfl⟩⟩, fun o => ⟨.inr ⟨rfl, i + 1, m, (go hin o).2⟩, fun b hb => ?_⟩⟩
          obtain rfl := Option.some.inj hb
          show (E.i 141 - (E.i 142 + 1)).toNat < (E1.i 141 - E1.i 142).toNat
          omega
        · intro hf
          have hin := hlt (hf (SB.lt (.v 142) (.v 141), true) (by simp))
          have h1 := hf (SB.ap 15 (.a zp1e9 (.i zp1e11 (.i zp1e13 (.a (.v 124) (.i zp1e14 (.i zp1e15 .nil)))))), false) (by simp)
          have hR := hrows i hin
          have h2 : (SB.ap 15 (.a zp1e9 (.i zp1e11 (.i zp1e13 (.a (.v 124) (.i zp1e14 (.i zp1e15 .nil))))))).den E = true := by
            rw [g15 hE, x13, x15]
            refine ⟨hR.l.symm, fun j hj => ?_⟩
            have hj' : j < (retAt S r i).length := by omega
            have e11 : zp1e11.den E = ((i * 192 : Nat) : Int) := by show E.i 142 * 3 * 64 = _; omega
            have e14 : zp1e14.den E = ((i * 64 : Nat) : Int) := by show E.i 142 * 64 = _; omega
            rw [e11, e14, Int.toNat_natCast, Int.toNat_natCast, d_av, hR.k j hj']
            show (AE.ap 22 slU).den E (i * 192 + j) = _
            have := h64 hin
            rw [c22U hE, ← hSd, ← hrd, show i * 192 + j = (i * 3 + 0) * 64 + j by omega, colC_at _ _ _ _ _ (by decide) (by omega)]; rfl
          rw [h2] at h1; cases h1
        · intro hf
          have hin := hlt (hf (SB.lt (.v 142) (.v 141), true) (by simp))
          have h1 := hf (SB.le zp1e15 (.c 64), false) (by simp)
          have := h64 hin
          rw [le_f, x15, (hrows i hin).l, d_c] at h1
          omega
        · intro hf
          have hin := hlt (hf (SB.lt (.v 142) (.v 141), true) (by simp))
          have h1 := hf (SB.le (.c 0) zp1e15, false) (by simp)
          rw [le_f, x15, (hrows i hin).l, d_c] at h1
          omega
        · intro hf
          have hin := hlt (hf (SB.lt (.v 142) (.v 141), true) (by simp))
          have h1 := hf (SB.le zp1e13 (.c 64), false) (by simp)
          have := h64 hin
          rw [le_f, x13, d_c] at h1
          omega
        · intro hf
          have h1 := hf (SB.le (.c 0) zp1e13, false) (by simp)
          rw [le_f, x13, d_c] at h1
          omega
        · intro hf
          have hin := hlt (hf (SB.lt (.v 142) (.v 141), true) (by simp))
          have h1 := hf (SB.eq zp1e16 zp1e17, false) (by simp)
          have h1 : ¬ zp1e16.den E = zp1e17.den E := by simpa [SB.den, SE.den] using h1
          exact absurd (by rw [x16, x17]; exact (hrows i hin).c.symm) h1
        · intro hf
          exact ⟨rfl, hout⟩
end Go.Proofs.YtjanndmmhjnpcaaDoor
