/- QCPeer keeps its contract. -/
import Derived.Test.YtjanndmmhjnpcaaDoorQcHa
import Derived.KernelRfl
set_option autoImplicit true
set_option relaxedAutoImplicit true
set_option linter.unusedVariables false
set_option linter.unusedSimpArgs false
set_option maxRecDepth 100000
set_option maxHeartbeats 8000000
namespace Go.Proofs.YtjanndmmhjnpcaaDoor
open Go Go.Sy Go.RowKit
noncomputable def vae0 : AE := .tl (.v 0) (.c 0) .nil
noncomputable def vax0 : Vl := .go 0 [(100, (.c 0)), (114, (.c 0)), (113, (.c 0)), (111, (.c 0)), (110, (.c 0)), (130, (.c 0))] [(100, (.c false))] [(100, vae0)] [((.le (.c 4) (.v 9)), true), ((.le (.v 9) (.c 18)), true), ((.le (.c 0) (.v 12)), true), ((.le (.v 12) (.c 4294967295)), true), ((.le (.c 0) (.v 40)), true), ((.le (.v 40) (.c 50)), true), ((.ap 3 (.a (.v 5) (.i (.v 40) .nil))), true)] (.code (.loop (loopB (prm6 Tryd.prog).P 6 5))) (loopK (prm6 Tryd.prog).P 6 5)
noncomputable def vals : List Vl := [vax0]
theorem varun : (run (prm6 Tryd.prog) 900 (enterD (prm6 Tryd.prog) ct6)).map (vOf (prm6 Tryd.prog) ct6 (pts6 Tryd.prog)) = vals := by kernel_rfl
-- 1 ways; terms: vae0
noncomputable def vp0e0 : SE := .mul (.v 130) (.c 5)
noncomputable def vp0e1 : SE := .add vp0e0 (.c 1)
noncomputable def vp0e2 : SE := .rd (.v 5) vp0e1
noncomputable def vp0e3 : SE := .add vp0e0 (.c 2)
noncomputable def vp0e4 : SE := .rd (.v 5) vp0e3
noncomputable def vp0e5 : SE := .ap 10 (.a (.v 100) (.i (.v 100) (.i (.v 110) (.i (.v 111) (.i vp0e2 (.i vp0e4 .nil))))))
noncomputable def vp0e6 : SE := .tmod (.v 12) (.c 10000)
noncomputable def vp0e7 : SE := .add (.c 5000) vp0e6
noncomputable def vp0e8 : SE := .ap 12 (.i (.v 110) (.i (.v 111) (.i vp0e2 (.i vp0e4 .nil))))
noncomputable def vp0e9 : SE := .ap 11 (.a (.v 100) (.i (.v 100) (.i (.v 110) (.i (.v 111) (.i vp0e2 (.i vp0e4 .nil))))))
noncomputable def vp0e10 : SE := .add (.v 130) (.c 1)
noncomputable def vp0e11 : SE := .mul (.v 130) (.c 192)
noncomputable def vp0e12 : AE := .ap 13 (.a (.v 100) (.i (.v 100) (.i (.v 110) (.i (.v 111) (.i vp0e2 (.i vp0e4 .nil))))))
noncomputable def vp0e13 : AE := .ap 1 (.a (.v 124) (.i vp0e11 (.a vp0e12 .nil)))
noncomputable def vp0e14 : SE := .add vp0e11 (.c 64)
noncomputable def vp0e15 : AE := .tl (.v 100) (.c 0) .nil
noncomputable def vp0e16 : AE := .tl vp0e15 (.c 0) (.i vp0e9 .nil)
noncomputable def vp0e17 : AE := .ap 1 (.a vp0e13 (.i vp0e14 (.a vp0e16 .nil)))
noncomputable def vp0e18 : SE := .add vp0e11 (.c 128)
noncomputable def vp0e19 : AE := .ap 1 (.a vp0e17 (.i vp0e18 (.a (.v 22) .nil)))
noncomputable def vp0e20 : SE := .mul (.v 130) (.c 3)
noncomputable def vp0e21 : AE := .tl (.v 123) vp0e20 (.i (.v 1003) (.i (.v 1004) (.i (.v 1005) .nil)))
noncomputable def vp0e22 : SE := .ap 13 (.a (.v 100) (.i (.v 100) (.i (.v 110) (.i (.v 111) (.i vp0e2 (.i vp0e4 .nil))))))
noncomputable def vp0e23 : AE := .tl (.v 122) vp0e20 (.i vp0e22 (.i (.c 1) (.i (.c 0) .nil)))
noncomputable def vp0e24 : AE := .tl (.v 121) vp0e20 (.i (.v 1000) (.i (.v 1001) (.i (.v 1002) .nil)))
noncomputable def vp0e25 : SE := .mul (.v 130) (.c 6)
noncomputable def vp0e26 : AE := .tl (.v 120) vp0e25 (.i (.c 9) (.i (.c (-1)) (.b (.c false) (.i (.c 0) (.i (.c 0) (.i (.c 0) .nil))))))
noncomputable def vp0e27 : AE := .ap 10 (.a (.v 100) (.i (.v 100) (.i (.v 110) (.i (.v 111) (.i vp0e2 (.i vp0e4 .nil))))))
noncomputable def vp0e28 : SE := .add vp0e0 (.c 4)
noncomputable def vp0e29 : SE := .rd (.v 5) vp0e28
noncomputable def vp0e30 : SE := .add vp0e0 (.c 3)
noncomputable def vp0e31 : SE := .rd (.v 5) vp0e30
noncomputable def vp0e32 : SE := .rd (.v 5) vp0e0
noncomputable def vp0e33 : AE := .tl (.v 120) vp0e25 (.i (.c 0) (.i (.c (-1)) (.b (.c false) (.i (.c 0) (.i (.c 0) (.i (.c 0) .nil))))))
noncomputable def vp0e34 : AE := .ap 1 (.a vp0e13 (.i vp0e14 (.a (.v 21) .nil)))
noncomputable def vp0e35 : AE := .ap 1 (.a vp0e34 (.i vp0e18 (.a (.v 22) .nil)))
noncomputable def vp0e36 : AE := .tl (.v 122) vp0e20 (.i vp0e22 (.i (.c 0) (.i (.c 0) .nil)))
noncomputable def vp0e37 : AE := .ap 1 (.a (.v 124) (.i vp0e11 (.a (.v 20) .nil)))
noncomputable def vp0e38 : AE := .ap 1 (.a vp0e37 (.i vp0e14 (.a (.v 21) .nil)))
noncomputable def vp0e39 : AE := .ap 1 (.a vp0e38 (.i vp0e18 (.a (.v 22) .nil)))
noncomputable def vp0e40 : AE := .tl (.v 122) vp0e20 (.i (.c 0) (.i (.c 0) (.i (.c 0) .nil)))
noncomputable def vp0e41 : SE := .sub (.v 100) (.c 1)
noncomputable def vp0e42 : SE := .rd (.v 100) (.c 0)
noncomputable def vp0e43 : AE := .tl vp0e15 (.c 0) (.i (.v 110) .nil)
noncomputable def vp0e44 : AE := .ap 1 (.a (.v 124) (.i vp0e11 (.a vp0e43 .nil)))
noncomputable def vp0e45 : AE := .tl vp0e15 (.c 0) (.i vp0e42 .nil)
noncomputable def vp0e46 : AE := .ap 1 (.a vp0e44 (.i vp0e14 (.a vp0e45 .nil)))
noncomputable def vp0e47 : AE := .ap 1 (.a vp0e46 (.i vp0e18 (.a (.v 22) .nil)))
noncomputable def vp0e48 : AE := .tl (.v 122) vp0e20 (.i (.c 1) (.i (.c 1) (.i (.c 0) .nil)))
noncomputable def vp0e49 : SE := .wrap .i64 vp0e42
noncomputable def vp0e50 : SE := .bits .or .i64 (.c 0) vp0e49
noncomputable def vp0e51 : AE := .tl (.v 120) vp0e25 (.i (.c 0) (.i vp0e50 (.b (.c false) (.i (.c 0) (.i (.c 0) (.i (.c 0) .nil))))))
noncomputable def vp0e52 : AE := .dr (.v 100) (.c 1)
noncomputable def vp0e53 : SE := .bits .or .i64 (.c 0) (.v 110)
noncomputable def vp0e54 : AE := .tl (.v 120) vp0e25 (.i (.c 0) (.i vp0e53 (.b (.c false) (.i (.c 0) (.i (.c 0) (.i (.c 0) .nil))))))
noncomputable def vp0e55 : SE := .mn vp0e2 (.c 100000)
noncomputable def vp0e56 : SE := .add (.v 113) vp0e55
noncomputable def vp0e57 : AE := .ap 20 (.a (.v 5) (.i (.v 12) .nil))
noncomputable def vp0e58 : AE := .ap 21 (.a (.v 5) (.i (.v 12) .nil))
noncomputable def vp0e59 : AE := .ap 22 (.a (.v 5) (.i (.v 12) .nil))
noncomputable def vp0x0 : Vl := .go 1 [(100, vp0e5), (114, vp0e7), (113, (.c 0)), (111, vp0e8), (110, vp0e9), (130, vp0e10)] [] [(124, vp0e19), (123, vp0e21), (122, vp0e23), (121, vp0e24), (120, vp0e26), (100, vp0e27)] [((.le vp0e22 (.c 64)), true), ((.le (.c 4) vp0e5), true), ((.le (.c 0) vp0e5), true), ((.ap 10 (.i (.v 110) (.i (.v 111) (.i vp0e2 (.i vp0e4 .nil))))), true), ((.le vp0e29 (.c 255)), true), ((.le (.c 0) vp0e29), true), ((.le vp0e31 (.c 255)), true), ((.le (.c 0) vp0e31), true), ((.eq vp0e29 vp0e2), true), ((.eq vp0e31 vp0e2), true), ((.le vp0e4 vp0e2), true), ((.le vp0e4 (.c 255)), true), ((.le (.c 0) vp0e4), true), ((.le vp0e2 (.c 255)), true), ((.le (.c 0) vp0e2), true), ((.eq vp0e32 (.c 0)), true), ((.le vp0e32 (.c 3)), true), ((.le (.c 0) vp0e32), true), ((.lt (.v 130) (.v 40)), true), ((.le (.c 4) (.v 9)), true), ((.le (.v 9) (.c 18)), true), ((.le (.c 0) (.v 12)), true), ((.le (.v 12) (.c 4294967295)), true), ((.le (.c 0) (.v 40)), true), ((.le (.v 40) (.c 50)), true), ((.ap 3 (.a (.v 5) (.i (.v 40) .nil))), true), ((.le (.c 0) (.v 130)), true), ((.le (.v 130) (.c 50)), true), ((.le (.c 0) (.v 100)), true), ((.le (.v 100) (.c 50)), true), ((.le (.c 0) (.v 110)), true), ((.le (.v 110) (.c 255)), true), ((.le (.c 0) (.v 111)), true), ((.le (.v 111) (.c 255)), true), ((.le (.c 0) (.v 113)), true), ((.le (.v 113) (.c 1000000000)), true), ((.le (.c 0) (.v 114)), true), ((.le (.v 114) (.c 1000000000)), true), ((.ap 2 (.a (.v 100) (.i (.v 100) (.i (.v 110) (.i (.v 111) .nil))))), true)] (.exit .normal) (.loop (loopB (prm6 Tryd.prog).P 6 5) :: loopK (prm6 Tryd.prog).P 6 5)
noncomputable def vp0x1 : Vl := .dead [((.le vp0e22 (.c 64)), false), ((.le (.c 4) vp0e5), true), ((.le (.c 0) vp0e5), true), ((.ap 10 (.i (.v 110) (.i (.v 111) (.i vp0e2 (.i vp0e4 .nil))))), true), ((.le vp0e29 (.c 255)), true), ((.le (.c 0) vp0e29), true), ((.le vp0e31 (.c 255)), true), ((.le (.c 0) vp0e31), true), ((.eq vp0e29 vp0e2), true), ((.eq vp0e31 vp0e2), true), ((.le vp0e4 vp0e2), true), ((.le vp0e4 (.c 255)), true), ((.le (.c 0) vp0e4), true), ((.le vp0e2 (.c 255)), true), ((.le (.c 0) vp0e2), true), ((.eq vp0e32 (.c 0)), true), ((.le vp0e32 (.c 3)), true), ((.le (.c 0) vp0e32), true), ((.lt (.v 130) (.v 40)), true), ((.le (.c 4) (.v 9)), true), ((.le (.v 9) (.c 18)), true), ((.le (.c 0) (.v 12)), true), ((.le (.v 12) (.c 4294967295)), true), ((.le (.c 0) (.v 40)), true), ((.le (.v 40) (.c 50)), true), ((.ap 3 (.a (.v 5) (.i (.v 40) .nil))), true), ((.le (.c 0) (.v 130)), true), ((.le (.v 130) (.c 50)), true), ((.le (.c 0) (.v 100)), true), ((.le (.v 100) (.c 50)), true), ((.le (.c 0) (.v 110)), true), ((.le (.v 110) (.c 255)), true), ((.le (.c 0) (.v 111)), true), ((.le (.v 111) (.c 255)), true), ((.le (.c 0) (.v 113)), true), ((.le (.v 113) (.c 1000000000)), true), ((.le (.c 0) (.v 114)), true), ((.le (.v 114) (.c 1000000000)), true), ((.ap 2 (.a (.v 100) (.i (.v 100) (.i (.v 110) (.i (.v 111) .nil))))), true)]
noncomputable def vp0x2 : Vl := .go 1 [(100, vp0e5), (114, vp0e7), (113, (.c 0)), (111, vp0e8), (110, vp0e9), (130, vp0e10)] [] [(124, vp0e19), (123, vp0e21), (122, vp0e23), (121, vp0e24), (120, vp0e33), (100, vp0e27)] [((.le vp0e22 (.c 64)), true), ((.le (.c 4) vp0e5), false), ((.le (.c 0) vp0e5), true), ((.ap 10 (.i (.v 110) (.i (.v 111) (.i vp0e2 (.i vp0e4 .nil))))), true), ((.le vp0e29 (.c 255)), true), ((.le (.c 0) vp0e29), true), ((.le vp0e31 (.c 255)), true), ((.le (.c 0) vp0e31), true), ((.eq vp0e29 vp0e2), true), ((.eq vp0e31 vp0e2), true), ((.le vp0e4 vp0e2), true), ((.le vp0e4 (.c 255)), true), ((.le (.c 0) vp0e4), true), ((.le vp0e2 (.c 255)), true), ((.le (.c 0) vp0e2), true), ((.eq vp0e32 (.c 0)), true), ((.le vp0e32 (.c 3)), true), ((.le (.c 0) vp0e32), true), ((.lt (.v 130) (.v 40)), true), ((.le (.c 4) (.v 9)), true), ((.le (.v 9) (.c 18)), true), ((.le (.c 0) (.v 12)), true), ((.le (.v 12) (.c 4294967295)), true), ((.le (.c 0) (.v 40)), true), ((.le (.v 40) (.c 50)), true), ((.ap 3 (.a (.v 5) (.i (.v 40) .nil))), true), ((.le (.c 0) (.v 130)), true), ((.le (.v 130) (.c 50)), true), ((.le (.c 0) (.v 100)), true), ((.le (.v 100) (.c 50)), true), ((.le (.c 0) (.v 110)), true), ((.le (.v 110) (.c 255)), true), ((.le (.c 0) (.v 111)), true), ((.le (.v 111) (.c 255)), true), ((.le (.c 0) (.v 113)), true), ((.le (.v 113) (.c 1000000000)), true), ((.le (.c 0) (.v 114)), true), ((.le (.v 114) (.c 1000000000)), true), ((.ap 2 (.a (.v 100) (.i (.v 100) (.i (.v 110) (.i (.v 111) .nil))))), true)] (.exit .normal) (.loop (loopB (prm6 Tryd.prog).P 6 5) :: loopK (prm6 Tryd.prog).P 6 5)
noncomputable def vp0x3 : Vl := .dead [((.le vp0e22 (.c 64)), false), ((.le (.c 4) vp0e5), false), ((.le (.c 0) vp0e5), true), ((.ap 10 (.i (.v 110) (.i (.v 111) (.i vp0e2 (.i vp0e4 .nil))))), true), ((.le vp0e29 (.c 255)), true), ((.le (.c 0) vp0e29), true), ((.le vp0e31 (.c 255)), true), ((.le (.c 0) vp0e31), true), ((.eq vp0e29 vp0e2), true), ((.eq vp0e31 vp0e2), true), ((.le vp0e4 vp0e2), true), ((.le vp0e4 (.c 255)), true), ((.le (.c 0) vp0e4), true), ((.le vp0e2 (.c 255)), true), ((.le (.c 0) vp0e2), true), ((.eq vp0e32 (.c 0)), true), ((.le vp0e32 (.c 3)), true), ((.le (.c 0) vp0e32), true), ((.lt (.v 130) (.v 40)), true), ((.le (.c 4) (.v 9)), true), ((.le (.v 9) (.c 18)), true), ((.le (.c 0) (.v 12)), true), ((.le (.v 12) (.c 4294967295)), true), ((.le (.c 0) (.v 40)), true), ((.le (.v 40) (.c 50)), true), ((.ap 3 (.a (.v 5) (.i (.v 40) .nil))), true), ((.le (.c 0) (.v 130)), true), ((.le (.v 130) (.c 50)), true), ((.le (.c 0) (.v 100)), true), ((.le (.v 100) (.c 50)), true), ((.le (.c 0) (.v 110)), true), ((.le (.v 110) (.c 255)), true), ((.le (.c 0) (.v 111)), true), ((.le (.v 111) (.c 255)), true), ((.le (.c 0) (.v 113)), true), ((.le (.v 113) (.c 1000000000)), true), ((.le (.c 0) (.v 114)), true), ((.le (.v 114) (.c 1000000000)), true), ((.ap 2 (.a (.v 100) (.i (.v 100) (.i (.v 110) (.i (.v 111) .nil))))), true)]
noncomputable def vp0x4 : Vl := .dead [((.le (.c 0) vp0e5), false), ((.ap 10 (.i (.v 110) (.i (.v 111) (.i vp0e2 (.i vp0e4 .nil))))), true), ((.le vp0e29 (.c 255)), true), ((.le (.c 0) vp0e29), true), ((.le vp0e31 (.c 255)), true), ((.le (.c 0) vp0e31), true), ((.eq vp0e29 vp0e2), true), ((.eq vp0e31 vp0e2), true), ((.le vp0e4 vp0e2), true), ((.le vp0e4 (.c 255)), true), ((.le (.c 0) vp0e4), true), ((.le vp0e2 (.c 255)), true), ((.le (.c 0) vp0e2), true), ((.eq vp0e32 (.c 0)), true), ((.le vp0e32 (.c 3)), true), ((.le (.c 0) vp0e32), true), ((.lt (.v 130) (.v 40)), true), ((.le (.c 4) (.v 9)), true), ((.le (.v 9) (.c 18)), true), ((.le (.c 0) (.v 12)), true), ((.le (.v 12) (.c 4294967295)), true), ((.le (.c 0) (.v 40)), true), ((.le (.v 40) (.c 50)), true), ((.ap 3 (.a (.v 5) (.i (.v 40) .nil))), true), ((.le (.c 0) (.v 130)), true), ((.le (.v 130) (.c 50)), true), ((.le (.c 0) (.v 100)), true), ((.le (.v 100) (.c 50)), true), ((.le (.c 0) (.v 110)), true), ((.le (.v 110) (.c 255)), true), ((.le (.c 0) (.v 111)), true), ((.le (.v 111) (.c 255)), true), ((.le (.c 0) (.v 113)), true), ((.le (.v 113) (.c 1000000000)), true), ((.le (.c 0) (.v 114)), true), ((.le (.v 114) (.c 1000000000)), true), ((.ap 2 (.a (.v 100) (.i (.v 100) (.i (.v 110) (.i (.v 111) .nil))))), true)]
noncomputable def vp0x5 : Vl := .go 0 [(100, vp0e5), (111, vp0e8), (130, vp0e10)] [] [(124, vp0e35), (123, vp0e21), (122, vp0e36), (121, vp0e24), (120, vp0e26), (100, vp0e27)] [((.le vp0e22 (.c 64)), true), ((.le (.c 4) vp0e5), true), ((.le (.c 0) vp0e5), true), ((.ap 10 (.i (.v 110) (.i (.v 111) (.i vp0e2 (.i vp0e4 .nil))))), false), ((.le vp0e29 (.c 255)), true), ((.le (.c 0) vp0e29), true), ((.le vp0e31 (.c 255)), true), ((.le (.c 0) vp0e31), true), ((.eq vp0e29 vp0e2), true), ((.eq vp0e31 vp0e2), true), ((.le vp0e4 vp0e2), true), ((.le vp0e4 (.c 255)), true), ((.le (.c 0) vp0e4), true), ((.le vp0e2 (.c 255)), true), ((.le (.c 0) vp0e2), true), ((.eq vp0e32 (.c 0)), true), ((.le vp0e32 (.c 3)), true), ((.le (.c 0) vp0e32), true), ((.lt (.v 130) (.v 40)), true), ((.le (.c 4) (.v 9)), true), ((.le (.v 9) (.c 18)), true), ((.le (.c 0) (.v 12)), true), ((.le (.v 12) (.c 4294967295)), true), ((.le (.c 0) (.v 40)), true), ((.le (.v 40) (.c 50)), true), ((.ap 3 (.a (.v 5) (.i (.v 40) .nil))), true), ((.le (.c 0) (.v 130)), true), ((.le (.v 130) (.c 50)), true), ((.le (.c 0) (.v 100)), true), ((.le (.v 100) (.c 50)), true), ((.le (.c 0) (.v 110)), true), ((.le (.v 110) (.c 255)), true), ((.le (.c 0) (.v 111)), true), ((.le (.v 111) (.c 255)), true), ((.le (.c 0) (.v 113)), true), ((.le (.v 113) (.c 1000000000)), true), ((.le (.c 0) (.v 114)), true), ((.le (.v 114) (.c 1000000000)), true), ((.ap 2 (.a (.v 100) (.i (.v 100) (.i (.v 110) (.i (.v 111) .nil))))), true)] (.exit .normal) (.loop (loopB (prm6 Tryd.prog).P 6 5) :: loopK (prm6 Tryd.prog).P 6 5)
noncomputable def vp0x6 : Vl := .dead [((.le vp0e22 (.c 64)), false), ((.le (.c 4) vp0e5), true), ((.le (.c 0) vp0e5), true), ((.ap 10 (.i (.v 110) (.i (.v 111) (.i vp0e2 (.i vp0e4 .nil))))), false), ((.le vp0e29 (.c 255)), true), ((.le (.c 0) vp0e29), true), ((.le vp0e31 (.c 255)), true), ((.le (.c 0) vp0e31), true), ((.eq vp0e29 vp0e2), true), ((.eq vp0e31 vp0e2), true), ((.le vp0e4 vp0e2), true), ((.le vp0e4 (.c 255)), true), ((.le (.c 0) vp0e4), true), ((.le vp0e2 (.c 255)), true), ((.le (.c 0) vp0e2), true), ((.eq vp0e32 (.c 0)), true), ((.le vp0e32 (.c 3)), true), ((.le (.c 0) vp0e32), true), ((.lt (.v 130) (.v 40)), true), ((.le (.c 4) (.v 9)), true), ((.le (.v 9) (.c 18)), true), ((.le (.c 0) (.v 12)), true), ((.le (.v 12) (.c 4294967295)), true), ((.le (.c 0) (.v 40)), true), ((.le (.v 40) (.c 50)), true), ((.ap 3 (.a (.v 5) (.i (.v 40) .nil))), true), ((.le (.c 0) (.v 130)), true), ((.le (.v 130) (.c 50)), true), ((.le (.c 0) (.v 100)), true), ((.le (.v 100) (.c 50)), true), ((.le (.c 0) (.v 110)), true), ((.le (.v 110) (.c 255)), true), ((.le (.c 0) (.v 111)), true), ((.le (.v 111) (.c 255)), true), ((.le (.c 0) (.v 113)), true), ((.le (.v 113) (.c 1000000000)), true), ((.le (.c 0) (.v 114)), true), ((.le (.v 114) (.c 1000000000)), true), ((.ap 2 (.a (.v 100) (.i (.v 100) (.i (.v 110) (.i (.v 111) .nil))))), true)]
noncomputable def vp0x7 : Vl := .go 0 [(100, vp0e5), (111, vp0e8), (130, vp0e10)] [] [(124, vp0e35), (123, vp0e21), (122, vp0e36), (121, vp0e24), (120, vp0e33), (100, vp0e27)] [((.le vp0e22 (.c 64)), true), ((.le (.c 4) vp0e5), false), ((.le (.c 0) vp0e5), true), ((.ap 10 (.i (.v 110) (.i (.v 111) (.i vp0e2 (.i vp0e4 .nil))))), false), ((.le vp0e29 (.c 255)), true), ((.le (.c 0) vp0e29), true), ((.le vp0e31 (.c 255)), true), ((.le (.c 0) vp0e31), true), ((.eq vp0e29 vp0e2), true), ((.eq vp0e31 vp0e2), true), ((.le vp0e4 vp0e2), true), ((.le vp0e4 (.c 255)), true), ((.le (.c 0) vp0e4), true), ((.le vp0e2 (.c 255)), true), ((.le (.c 0) vp0e2), true), ((.eq vp0e32 (.c 0)), true), ((.le vp0e32 (.c 3)), true), ((.le (.c 0) vp0e32), true), ((.lt (.v 130) (.v 40)), true), ((.le (.c 4) (.v 9)), true), ((.le (.v 9) (.c 18)), true), ((.le (.c 0) (.v 12)), true), ((.le (.v 12) (.c 4294967295)), true), ((.le (.c 0) (.v 40)), true), ((.le (.v 40) (.c 50)), true), ((.ap 3 (.a (.v 5) (.i (.v 40) .nil))), true), ((.le (.c 0) (.v 130)), true), ((.le (.v 130) (.c 50)), true), ((.le (.c 0) (.v 100)), true), ((.le (.v 100) (.c 50)), true), ((.le (.c 0) (.v 110)), true), ((.le (.v 110) (.c 255)), true), ((.le (.c 0) (.v 111)), true), ((.le (.v 111) (.c 255)), true), ((.le (.c 0) (.v 113)), true), ((.le (.v 113) (.c 1000000000)), true), ((.le (.c 0) (.v 114)), true), ((.le (.v 114) (.c 1000000000)), true), ((.ap 2 (.a (.v 100) (.i (.v 100) (.i (.v 110) (.i (.v 111) .nil))))), true)] (.exit .normal) (.loop (loopB (prm6 Tryd.prog).P 6 5) :: loopK (prm6 Tryd.prog).P 6 5)
noncomputable def vp0x8 : Vl := .dead [((.le vp0e22 (.c 64)), false), ((.le (.c 4) vp0e5), false), ((.le (.c 0) vp0e5), true), ((.ap 10 (.i (.v 110) (.i (.v 111) (.i vp0e2 (.i vp0e4 .nil))))), false), ((.le vp0e29 (.c 255)), true), ((.le (.c 0) vp0e29), true), ((.le vp0e31 (.c 255)), true), ((.le (.c 0) vp0e31), true), ((.eq vp0e29 vp0e2), true), ((.eq vp0e31 vp0e2), true), ((.le vp0e4 vp0e2), true), ((.le vp0e4 (.c 255)), true), ((.le (.c 0) vp0e4), true), ((.le vp0e2 (.c 255)), true), ((.le (.c 0) vp0e2), true), ((.eq vp0e32 (.c 0)), true), ((.le vp0e32 (.c 3)), true), ((.le (.c 0) vp0e32), true), ((.lt (.v 130) (.v 40)), true), ((.le (.c 4) (.v 9)), true), ((.le (.v 9) (.c 18)), true), ((.le (.c 0) (.v 12)), true), ((.le (.v 12) (.c 4294967295)), true), ((.le (.c 0) (.v 40)), true), ((.le (.v 40) (.c 50)), true), ((.ap 3 (.a (.v 5) (.i (.v 40) .nil))), true), ((.le (.c 0) (.v 130)), true), ((.le (.v 130) (.c 50)), true), ((.le (.c 0) (.v 100)), true), ((.le (.v 100) (.c 50)), true), ((.le (.c 0) (.v 110)), true), ((.le (.v 110) (.c 255)), true), ((.le (.c 0) (.v 111)), true), ((.le (.v 111) (.c 255)), true), ((.le (.c 0) (.v 113)), true), ((.le (.v 113) (.c 1000000000)), true), ((.le (.c 0) (.v 114)), true), ((.le (.v 114) (.c 1000000000)), true), ((.ap 2 (.a (.v 100) (.i (.v 100) (.i (.v 110) (.i (.v 111) .nil))))), true)]
noncomputable def vp0x9 : Vl := .dead [((.le (.c 0) vp0e5), false), ((.ap 10 (.i (.v 110) (.i (.v 111) (.i vp0e2 (.i vp0e4 .nil))))), false), ((.le vp0e29 (.c 255)), true), ((.le (.c 0) vp0e29), true), ((.le vp0e31 (.c 255)), true), ((.le (.c 0) vp0e31), true), ((.eq vp0e29 vp0e2), true), ((.eq vp0e31 vp0e2), true), ((.le vp0e4 vp0e2), true), ((.le vp0e4 (.c 255)), true), ((.le (.c 0) vp0e4), true), ((.le vp0e2 (.c 255)), true), ((.le (.c 0) vp0e2), true), ((.eq vp0e32 (.c 0)), true), ((.le vp0e32 (.c 3)), true), ((.le (.c 0) vp0e32), true), ((.lt (.v 130) (.v 40)), true), ((.le (.c 4) (.v 9)), true), ((.le (.v 9) (.c 18)), true), ((.le (.c 0) (.v 12)), true), ((.le (.v 12) (.c 4294967295)), true), ((.le (.c 0) (.v 40)), true), ((.le (.v 40) (.c 50)), true), ((.ap 3 (.a (.v 5) (.i (.v 40) .nil))), true), ((.le (.c 0) (.v 130)), true), ((.le (.v 130) (.c 50)), true), ((.le (.c 0) (.v 100)), true), ((.le (.v 100) (.c 50)), true), ((.le (.c 0) (.v 110)), true), ((.le (.v 110) (.c 255)), true), ((.le (.c 0) (.v 111)), true), ((.le (.v 111) (.c 255)), true), ((.le (.c 0) (.v 113)), true), ((.le (.v 113) (.c 1000000000)), true), ((.le (.c 0) (.v 114)), true), ((.le (.v 114) (.c 1000000000)), true), ((.ap 2 (.a (.v 100) (.i (.v 100) (.i (.v 110) (.i (.v 111) .nil))))), true)]
noncomputable def vp0x10 : Vl := .dead [((.le vp0e29 (.c 255)), false), ((.le (.c 0) vp0e29), true), ((.le vp0e31 (.c 255)), true), ((.le (.c 0) vp0e31), true), ((.eq vp0e29 vp0e2), true), ((.eq vp0e31 vp0e2), true), ((.le vp0e4 vp0e2), true), ((.le vp0e4 (.c 255)), true), ((.le (.c 0) vp0e4), true), ((.le vp0e2 (.c 255)), true), ((.le (.c 0) vp0e2), true), ((.eq vp0e32 (.c 0)), true), ((.le vp0e32 (.c 3)), true), ((.le (.c 0) vp0e32), true), ((.lt (.v 130) (.v 40)), true), ((.le (.c 4) (.v 9)), true), ((.le (.v 9) (.c 18)), true), ((.le (.c 0) (.v 12)), true), ((.le (.v 12) (.c 4294967295)), true), ((.le (.c 0) (.v 40)), true), ((.le (.v 40) (.c 50)), true), ((.ap 3 (.a (.v 5) (.i (.v 40) .nil))), true), ((.le (.c 0) (.v 130)), true), ((.le (.v 130) (.c 50)), true), ((.le (.c 0) (.v 100)), true), ((.le (.v 100) (.c 50)), true), ((.le (.c 0) (.v 110)), true), ((.le (.v 110) (.c 255)), true), ((.le (.c 0) (.v 111)), true), ((.le (.v 111) (.c 255)), true), ((.le (.c 0) (.v 113)), true), ((.le (.v 113) (.c 1000000000)), true), ((.le (.c 0) (.v 114)), true), ((.le (.v 114) (.c 1000000000)), true), ((.ap 2 (.a (.v 100) (.i (.v 100) (.i (.v 110) (.i (.v 111) .nil))))), true)]
noncomputable def vp0x11 : Vl := .dead [((.le (.c 0) vp0e29), false), ((.le vp0e31 (.c 255)), true), ((.le (.c 0) vp0e31), true), ((.eq vp0e29 vp0e2), true), ((.eq vp0e31 vp0e2), true), ((.le vp0e4 vp0e2), true), ((.le vp0e4 (.c 255)), true), ((.le (.c 0) vp0e4), true), ((.le vp0e2 (.c 255)), true), ((.le (.c 0) vp0e2), true), ((.eq vp0e32 (.c 0)), true), ((.le vp0e32 (.c 3)), true), ((.le (.c 0) vp0e32), true), ((.lt (.v 130) (.v 40)), true), ((.le (.c 4) (.v 9)), true), ((.le (.v 9) (.c 18)), true), ((.le (.c 0) (.v 12)), true), ((.le (.v 12) (.c 4294967295)), true), ((.le (.c 0) (.v 40)), true), ((.le (.v 40) (.c 50)), true), ((.ap 3 (.a (.v 5) (.i (.v 40) .nil))), true), ((.le (.c 0) (.v 130)), true), ((.le (.v 130) (.c 50)), true), ((.le (.c 0) (.v 100)), true), ((.le (.v 100) (.c 50)), true), ((.le (.c 0) (.v 110)), true), ((.le (.v 110) (.c 255)), true), ((.le (.c 0) (.v 111)), true), ((.le (.v 111) (.c 255)), true), ((.le (.c 0) (.v 113)), true), ((.le (.v 113) (.c 1000000000)), true), ((.le (.c 0) (.v 114)), true), ((.le (.v 114) (.c 1000000000)), true), ((.ap 2 (.a (.v 100) (.i (.v 100) (.i (.v 110) (.i (.v 111) .nil))))), true)]
noncomputable def vp0x12 : Vl := .dead [((.le vp0e31 (.c 255)), false), ((.le (.c 0) vp0e31), true), ((.eq vp0e29 vp0e2), true), ((.eq vp0e31 vp0e2), true), ((.le vp0e4 vp0e2), true), ((.le vp0e4 (.c 255)), true), ((.le (.c 0) vp0e4), true), ((.le vp0e2 (.c 255)), true), ((.le (.c 0) vp0e2), true), ((.eq vp0e32 (.c 0)), true), ((.le vp0e32 (.c 3)), true), ((.le (.c 0) vp0e32), true), ((.lt (.v 130) (.v 40)), true), ((.le (.c 4) (.v 9)), true), ((.le (.v 9) (.c 18)), true), ((.le (.c 0) (.v 12)), true), ((.le (.v 12) (.c 4294967295)), true), ((.le (.c 0) (.v 40)), true), ((.le (.v 40) (.c 50)), true), ((.ap 3 (.a (.v 5) (.i (.v 40) .nil))), true), ((.le (.c 0) (.v 130)), true), ((.le (.v 130) (.c 50)), true), ((.le (.c 0) (.v 100)), true), ((.le (.v 100) (.c 50)), true), ((.le (.c 0) (.v 110)), true), ((.le (.v 110) (.c 255)), true), ((.le (.c 0) (.v 111)), true), ((.le (.v 111) (.c 255)), true), ((.le (.c 0) (.v 113)), true), ((.le (.v 113) (.c 1000000000)), true), ((.le (.c 0) (.v 114)), true), ((.le (.v 114) (.c 1000000000)), true), ((.ap 2 (.a (.v 100) (.i (.v 100) (.i (.v 110) (.i (.v 111) .nil))))), true)]
noncomputable def vp0x13 : Vl := .dead [((.le (.c 0) vp0e31), false), ((.eq vp0e29 vp0e2), true), ((.eq vp0e31 vp0e2), true), ((.le vp0e4 vp0e2), true), ((.le vp0e4 (.c 255)), true), ((.le (.c 0) vp0e4), true), ((.le vp0e2 (.c 255)), true), ((.le (.c 0) vp0e2), true), ((.eq vp0e32 (.c 0)), true), ((.le vp0e32 (.c 3)), true), ((.le (.c 0) vp0e32), true), ((.lt (.v 130) (.v 40)), true), ((.le (.c 4) (.v 9)), true), ((.le (.v 9) (.c 18)), true), ((.le (.c 0) (.v 12)), true), ((.le (.v 12) (.c 4294967295)), true), ((.le (.c 0) (.v 40)), true), ((.le (.v 40) (.c 50)), true), ((.ap 3 (.a (.v 5) (.i (.v 40) .nil))), true), ((.le (.c 0) (.v 130)), true), ((.le (.v 130) (.c 50)), true), ((.le (.c 0) (.v 100)), true), ((.le (.v 100) (.c 50)), true), ((.le (.c 0) (.v 110)), true), ((.le (.v 110) (.c 255)), true), ((.le (.c 0) (.v 111)), true), ((.le (.v 111) (.c 255)), true), ((.le (.c 0) (.v 113)), true), ((.le (.v 113) (.c 1000000000)), true), ((.le (.c 0) (.v 114)), true), ((.le (.v 114) (.c 1000000000)), true), ((.ap 2 (.a (.v 100) (.i (.v 100) (.i (.v 110) (.i (.v 111) .nil))))), true)]
noncomputable def vp0x14 : Vl := .dead [((.eq vp0e29 vp0e2), false), ((.eq vp0e31 vp0e2), true), ((.le vp0e4 vp0e2), true), ((.le vp0e4 (.c 255)), true), ((.le (.c 0) vp0e4), true), ((.le vp0e2 (.c 255)), true), ((.le (.c 0) vp0e2), true), ((.eq vp0e32 (.c 0)), true), ((.le vp0e32 (.c 3)), true), ((.le (.c 0) vp0e32), true), ((.lt (.v 130) (.v 40)), true), ((.le (.c 4) (.v 9)), true), ((.le (.v 9) (.c 18)), true), ((.le (.c 0) (.v 12)), true), ((.le (.v 12) (.c 4294967295)), true), ((.le (.c 0) (.v 40)), true), ((.le (.v 40) (.c 50)), true), ((.ap 3 (.a (.v 5) (.i (.v 40) .nil))), true), ((.le (.c 0) (.v 130)), true), ((.le (.v 130) (.c 50)), true), ((.le (.c 0) (.v 100)), true), ((.le (.v 100) (.c 50)), true), ((.le (.c 0) (.v 110)), true), ((.le (.v 110) (.c 255)), true), ((.le (.c 0) (.v 111)), true), ((.le (.v 111) (.c 255)), true), ((.le (.c 0) (.v 113)), true), ((.le (.v 113) (.c 1000000000)), true), ((.le (.c 0) (.v 114)), true), ((.le (.v 114) (.c 1000000000)), true), ((.ap 2 (.a (.v 100) (.i (.v 100) (.i (.v 110) (.i (.v 111) .nil))))), true)]
noncomputable def vp0x15 : Vl := .dead [((.eq vp0e31 vp0e2), false), ((.le vp0e4 vp0e2), true), ((.le vp0e4 (.c 255)), true), ((.le (.c 0) vp0e4), true), ((.le vp0e2 (.c 255)), true), ((.le (.c 0) vp0e2), true), ((.eq vp0e32 (.c 0)), true), ((.le vp0e32 (.c 3)), true), ((.le (.c 0) vp0e32), true), ((.lt (.v 130) (.v 40)), true), ((.le (.c 4) (.v 9)), true), ((.le (.v 9) (.c 18)), true), ((.le (.c 0) (.v 12)), true), ((.le (.v 12) (.c 4294967295)), true), ((.le (.c 0) (.v 40)), true), ((.le (.v 40) (.c 50)), true), ((.ap 3 (.a (.v 5) (.i (.v 40) .nil))), true), ((.le (.c 0) (.v 130)), true), ((.le (.v 130) (.c 50)), true), ((.le (.c 0) (.v 100)), true), ((.le (.v 100) (.c 50)), true), ((.le (.c 0) (.v 110)), true), ((.le (.v 110) (.c 255)), true), ((.le (.c 0) (.v 111)), true), ((.le (.v 111) (.c 255)), true), ((.le (.c 0) (.v 113)), true), ((.le (.v 113) (.c 1000000000)), true), ((.le (.c 0) (.v 114)), true), ((.le (.v 114) (.c 1000000000)), true), ((.ap 2 (.a (.v 100) (.i (.v 100) (.i (.v 110) (.i (.v 111) .nil))))), true)]
noncomputable def vp0x16 : Vl := .dead [((.le vp0e4 vp0e2), false), ((.le vp0e4 (.c 255)), true), ((.le (.c 0) vp0e4), true), ((.le vp0e2 (.c 255)), true), ((.le (.c 0) vp0e2), true), ((.eq vp0e32 (.c 0)), true), ((.le vp0e32 (.c 3)), true), ((.le (.c 0) vp0e32), true), ((.lt (.v 130) (.v 40)), true), ((.le (.c 4) (.v 9)), true), ((.le (.v 9) (.c 18)), true), ((.le (.c 0) (.v 12)), true), ((.le (.v 12) (.c 4294967295)), true), ((.le (.c 0) (.v 40)), true), ((.le (.v 40) (.c 50)), true), ((.ap 3 (.a (.v 5) (.i (.v 40) .nil))), true), ((.le (.c 0) (.v 130)), true), ((.le (.v 130) (.c 50)), true), ((.le (.c 0) (.v 100)), true), ((.le (.v 100) (.c 50)), true), ((.le (.c 0) (.v 110)), true), ((.le (.v 110) (.c 255)), true), ((.le (.c 0) (.v 111)), true), ((.le (.v 111) (.c 255)), true), ((.le (.c 0) (.v 113)), true), ((.le (.v 113) (.c 1000000000)), true), ((.le (.c 0) (.v 114)), true), ((.le (.v 114) (.c 1000000000)), true), ((.ap 2 (.a (.v 100) (.i (.v 100) (.i (.v 110) (.i (.v 111) .nil))))), true)]
noncomputable def vp0x17 : Vl := .dead [((.le vp0e4 (.c 255)), false), ((.le (.c 0) vp0e4), true), ((.le vp0e2 (.c 255)), true), ((.le (.c 0) vp0e2), true), ((.eq vp0e32 (.c 0)), true), ((.le vp0e32 (.c 3)), true), ((.le (.c 0) vp0e32), true), ((.lt (.v 130) (.v 40)), true), ((.le (.c 4) (.v 9)), true), ((.le (.v 9) (.c 18)), true), ((.le (.c 0) (.v 12)), true), ((.le (.v 12) (.c 4294967295)), true), ((.le (.c 0) (.v 40)), true), ((.le (.v 40) (.c 50)), true), ((.ap 3 (.a (.v 5) (.i (.v 40) .nil))), true), ((.le (.c 0) (.v 130)), true), ((.le (.v 130) (.c 50)), true), ((.le (.c 0) (.v 100)), true), ((.le (.v 100) (.c 50)), true), ((.le (.c 0) (.v 110)), true), ((.le (.v 110) (.c 255)), true), ((.le (.c 0) (.v 111)), true), ((.le (.v 111) (.c 255)), true), ((.le (.c 0) (.v 113)), true), ((.le (.v 113) (.c 1000000000)), true), ((.le (.c 0) (.v 114)), true), ((.le (.v 114) (.c 1000000000)), true), ((.ap 2 (.a (.v 100) (.i (.v 100) (.i (.v 110) (.i (.v 111) .nil))))), true)]
noncomputable def vp0x18 : Vl := .dead [((.le (.c 0) vp0e4), false), ((.le vp0e2 (.c 255)), true), ((.le (.c 0) vp0e2), true), ((.eq vp0e32 (.c 0)), true), ((.le vp0e32 (.c 3)), true), ((.le (.c 0) vp0e32), true), ((.lt (.v 130) (.v 40)), true), ((.le (.c 4) (.v 9)), true), ((.le (.v 9) (.c 18)), true), ((.le (.c 0) (.v 12)), true), ((.le (.v 12) (.c 4294967295)), true), ((.le (.c 0) (.v 40)), true), ((.le (.v 40) (.c 50)), true), ((.ap 3 (.a (.v 5) (.i (.v 40) .nil))), true), ((.le (.c 0) (.v 130)), true), ((.le (.v 130) (.c 50)), true), ((.le (.c 0) (.v 100)), true), ((.le (.v 100) (.c 50)), true), ((.le (.c 0) (.v 110)), true), ((.le (.v 110) (.c 255)), true), ((.le (.c 0) (.v 111)), true), ((.le (.v 111) (.c 255)), true), ((.le (.c 0) (.v 113)), true), ((.le (.v 113) (.c 1000000000)), true), ((.le (.c 0) (.v 114)), true), ((.le (.v 114) (.c 1000000000)), true), ((.ap 2 (.a (.v 100) (.i (.v 100) (.i (.v 110) (.i (.v 111) .nil))))), true)]
noncomputable def vp0x19 : Vl := .dead [((.le vp0e2 (.c 255)), false), ((.le (.c 0) vp0e2), true), ((.eq vp0e32 (.c 0)), true), ((.le vp0e32 (.c 3)), true), ((.le (.c 0) vp0e32), true), ((.lt (.v 130) (.v 40)), true), ((.le (.c 4) (.v 9)), true), ((.le (.v 9) (.c 18)), true), ((.le (.c 0) (.v 12)), true), ((.le (.v 12) (.c 4294967295)), true), ((.le (.c 0) (.v 40)), true), ((.le (.v 40) (.c 50)), true), ((.ap 3 (.a (.v 5) (.i (.v 40) .nil))), true), ((.le (.c 0) (.v 130)), true), ((.le (.v 130) (.c 50)), true), ((.le (.c 0) (.v 100)), true), ((.le (.v 100) (.c 50)), true), ((.le (.c 0) (.v 110)), true), ((.le (.v 110) (.c 255)), true), ((.le (.c 0) (.v 111)), true), ((.le (.v 111) (.c 255)), true), ((.le (.c 0) (.v 113)), true), ((.le (.v 113) (.c 1000000000)), true), ((.le (.c 0) (.v 114)), true), ((.le (.v 114) (.c 1000000000)), true), ((.ap 2 (.a (.v 100) (.i (.v 100) (.i (.v 110) (.i (.v 111) .nil))))), true)]
noncomputable def vp0x20 : Vl := .dead [((.le (.c 0) vp0e2), false), ((.eq vp0e32 (.c 0)), true), ((.le vp0e32 (.c 3)), true), ((.le (.c 0) vp0e32), true), ((.lt (.v 130) (.v 40)), true), ((.le (.c 4) (.v 9)), true), ((.le (.v 9) (.c 18)), true), ((.le (.c 0) (.v 12)), true), ((.le (.v 12) (.c 4294967295)), true), ((.le (.c 0) (.v 40)), true), ((.le (.v 40) (.c 50)), true), ((.ap 3 (.a (.v 5) (.i (.v 40) .nil))), true), ((.le (.c 0) (.v 130)), true), ((.le (.v 130) (.c 50)), true), ((.le (.c 0) (.v 100)), true), ((.le (.v 100) (.c 50)), true), ((.le (.c 0) (.v 110)), true), ((.le (.v 110) (.c 255)), true), ((.le (.c 0) (.v 111)), true), ((.le (.v 111) (.c 255)), true), ((.le (.c 0) (.v 113)), true), ((.le (.v 113) (.c 1000000000)), true), ((.le (.c 0) (.v 114)), true), ((.le (.v 114) (.c 1000000000)), true), ((.ap 2 (.a (.v 100) (.i (.v 100) (.i (.v 110) (.i (.v 111) .nil))))), true)]
noncomputable def vp0x21 : Vl := .go 0 [(130, vp0e10)] [(100, (.c true))] [(124, vp0e39), (123, vp0e21), (122, vp0e40), (121, vp0e24), (120, vp0e33)] [((.eq vp0e32 (.c 1)), true), ((.eq vp0e32 (.c 0)), false), ((.le vp0e32 (.c 3)), true), ((.le (.c 0) vp0e32), true), ((.lt (.v 130) (.v 40)), true), ((.le (.c 4) (.v 9)), true), ((.le (.v 9) (.c 18)), true), ((.le (.c 0) (.v 12)), true), ((.le (.v 12) (.c 4294967295)), true), ((.le (.c 0) (.v 40)), true), ((.le (.v 40) (.c 50)), true), ((.ap 3 (.a (.v 5) (.i (.v 40) .nil))), true), ((.le (.c 0) (.v 130)), true), ((.le (.v 130) (.c 50)), true), ((.le (.c 0) (.v 100)), true), ((.le (.v 100) (.c 50)), true), ((.le (.c 0) (.v 110)), true), ((.le (.v 110) (.c 255)), true), ((.le (.c 0) (.v 111)), true), ((.le (.v 111) (.c 255)), true), ((.le (.c 0) (.v 113)), true), ((.le (.v 113) (.c 1000000000)), true), ((.le (.c 0) (.v 114)), true), ((.le (.v 114) (.c 1000000000)), true), ((.ap 2 (.a (.v 100) (.i (.v 100) (.i (.v 110) (.i (.v 111) .nil))))), true)] (.exit .normal) (.loop (loopB (prm6 Tryd.prog).P 6 5) :: loopK (prm6 Tryd.prog).P 6 5)
noncomputable def vp0x22 : Vl := .go 1 [(100, vp0e41), (114, vp0e7), (113, (.c 0)), (111, (.v 110)), (110, vp0e42), (130, vp0e10)] [] [(124, vp0e47), (123, vp0e21), (122, vp0e48), (121, vp0e24), (120, vp0e51), (100, vp0e52)] [((.ap 11 (.b (.v 100) (.i (.v 100) (.i (.v 110) (.i (.v 113) (.i (.v 114) .nil)))))), true), ((.eq vp0e32 (.c 2)), true), ((.eq vp0e32 (.c 1)), false), ((.eq vp0e32 (.c 0)), false), ((.le vp0e32 (.c 3)), true), ((.le (.c 0) vp0e32), true), ((.lt (.v 130) (.v 40)), true), ((.le (.c 4) (.v 9)), true), ((.le (.v 9) (.c 18)), true), ((.le (.c 0) (.v 12)), true), ((.le (.v 12) (.c 4294967295)), true), ((.le (.c 0) (.v 40)), true), ((.le (.v 40) (.c 50)), true), ((.ap 3 (.a (.v 5) (.i (.v 40) .nil))), true), ((.le (.c 0) (.v 130)), true), ((.le (.v 130) (.c 50)), true), ((.le (.c 0) (.v 100)), true), ((.le (.v 100) (.c 50)), true), ((.le (.c 0) (.v 110)), true), ((.le (.v 110) (.c 255)), true), ((.le (.c 0) (.v 111)), true), ((.le (.v 111) (.c 255)), true), ((.le (.c 0) (.v 113)), true), ((.le (.v 113) (.c 1000000000)), true), ((.le (.c 0) (.v 114)), true), ((.le (.v 114) (.c 1000000000)), true), ((.ap 2 (.a (.v 100) (.i (.v 100) (.i (.v 110) (.i (.v 111) .nil))))), true)] (.exit .normal) (.loop (loopB (prm6 Tryd.prog).P 6 5) :: loopK (prm6 Tryd.prog).P 6 5)
noncomputable def vp0x23 : Vl := .go 0 [(130, vp0e10)] [] [(124, vp0e39), (123, vp0e21), (122, vp0e40), (121, vp0e24), (120, vp0e54)] [((.ap 11 (.b (.v 100) (.i (.v 100) (.i (.v 110) (.i (.v 113) (.i (.v 114) .nil)))))), false), ((.eq vp0e32 (.c 2)), true), ((.eq vp0e32 (.c 1)), false), ((.eq vp0e32 (.c 0)), false), ((.le vp0e32 (.c 3)), true), ((.le (.c 0) vp0e32), true), ((.lt (.v 130) (.v 40)), true), ((.le (.c 4) (.v 9)), true), ((.le (.v 9) (.c 18)), true), ((.le (.c 0) (.v 12)), true), ((.le (.v 12) (.c 4294967295)), true), ((.le (.c 0) (.v 40)), true), ((.le (.v 40) (.c 50)), true), ((.ap 3 (.a (.v 5) (.i (.v 40) .nil))), true), ((.le (.c 0) (.v 130)), true), ((.le (.v 130) (.c 50)), true), ((.le (.c 0) (.v 100)), true), ((.le (.v 100) (.c 50)), true), ((.le (.c 0) (.v 110)), true), ((.le (.v 110) (.c 255)), true), ((.le (.c 0) (.v 111)), true), ((.le (.v 111) (.c 255)), true), ((.le (.c 0) (.v 113)), true), ((.le (.v 113) (.c 1000000000)), true), ((.le (.c 0) (.v 114)), true), ((.le (.v 114) (.c 1000000000)), true), ((.ap 2 (.a (.v 100) (.i (.v 100) (.i (.v 110) (.i (.v 111) .nil))))), true)] (.exit .normal) (.loop (loopB (prm6 Tryd.prog).P 6 5) :: loopK (prm6 Tryd.prog).P 6 5)
noncomputable def vp0x24 : Vl := .go 0 [(113, vp0e56), (130, vp0e10)] [] [(124, vp0e39), (123, vp0e21), (122, vp0e40), (121, vp0e24), (120, vp0e33)] [((.le vp0e2 (.c 18446744073709551615)), true), ((.le (.c 0) vp0e2), true), ((.eq vp0e32 (.c 3)), true), ((.eq vp0e32 (.c 2)), false), ((.eq vp0e32 (.c 1)), false), ((.eq vp0e32 (.c 0)), false), ((.le vp0e32 (.c 3)), true), ((.le (.c 0) vp0e32), true), ((.lt (.v 130) (.v 40)), true), ((.le (.c 4) (.v 9)), true), ((.le (.v 9) (.c 18)), true), ((.le (.c 0) (.v 12)), true), ((.le (.v 12) (.c 4294967295)), true), ((.le (.c 0) (.v 40)), true), ((.le (.v 40) (.c 50)), true), ((.ap 3 (.a (.v 5) (.i (.v 40) .nil))), true), ((.le (.c 0) (.v 130)), true), ((.le (.v 130) (.c 50)), true), ((.le (.c 0) (.v 100)), true), ((.le (.v 100) (.c 50)), true), ((.le (.c 0) (.v 110)), true), ((.le (.v 110) (.c 255)), true), ((.le (.c 0) (.v 111)), true), ((.le (.v 111) (.c 255)), true), ((.le (.c 0) (.v 113)), true), ((.le (.v 113) (.c 1000000000)), true), ((.le (.c 0) (.v 114)), true), ((.le (.v 114) (.c 1000000000)), true), ((.ap 2 (.a (.v 100) (.i (.v 100) (.i (.v 110) (.i (.v 111) .nil))))), true)] (.exit .normal) (.loop (loopB (prm6 Tryd.prog).P 6 5) :: loopK (prm6 Tryd.prog).P 6 5)
noncomputable def vp0x25 : Vl := .dead [((.le vp0e2 (.c 18446744073709551615)), false), ((.le (.c 0) vp0e2), true), ((.eq vp0e32 (.c 3)), true), ((.eq vp0e32 (.c 2)), false), ((.eq vp0e32 (.c 1)), false), ((.eq vp0e32 (.c 0)), false), ((.le vp0e32 (.c 3)), true), ((.le (.c 0) vp0e32), true), ((.lt (.v 130) (.v 40)), true), ((.le (.c 4) (.v 9)), true), ((.le (.v 9) (.c 18)), true), ((.le (.c 0) (.v 12)), true), ((.le (.v 12) (.c 4294967295)), true), ((.le (.c 0) (.v 40)), true), ((.le (.v 40) (.c 50)), true), ((.ap 3 (.a (.v 5) (.i (.v 40) .nil))), true), ((.le (.c 0) (.v 130)), true), ((.le (.v 130) (.c 50)), true), ((.le (.c 0) (.v 100)), true), ((.le (.v 100) (.c 50)), true), ((.le (.c 0) (.v 110)), true), ((.le (.v 110) (.c 255)), true), ((.le (.c 0) (.v 111)), true), ((.le (.v 111) (.c 255)), true), ((.le (.c 0) (.v 113)), true), ((.le (.v 113) (.c 1000000000)), true), ((.le (.c 0) (.v 114)), true), ((.le (.v 114) (.c 1000000000)), true), ((.ap 2 (.a (.v 100) (.i (.v 100) (.i (.v 110) (.i (.v 111) .nil))))), true)]
noncomputable def vp0x26 : Vl := .dead [((.le (.c 0) vp0e2), false), ((.eq vp0e32 (.c 3)), true), ((.eq vp0e32 (.c 2)), false), ((.eq vp0e32 (.c 1)), false), ((.eq vp0e32 (.c 0)), false), ((.le vp0e32 (.c 3)), true), ((.le (.c 0) vp0e32), true), ((.lt (.v 130) (.v 40)), true), ((.le (.c 4) (.v 9)), true), ((.le (.v 9) (.c 18)), true), ((.le (.c 0) (.v 12)), true), ((.le (.v 12) (.c 4294967295)), true), ((.le (.c 0) (.v 40)), true), ((.le (.v 40) (.c 50)), true), ((.ap 3 (.a (.v 5) (.i (.v 40) .nil))), true), ((.le (.c 0) (.v 130)), true), ((.le (.v 130) (.c 50)), true), ((.le (.c 0) (.v 100)), true), ((.le (.v 100) (.c 50)), true), ((.le (.c 0) (.v 110)), true), ((.le (.v 110) (.c 255)), true), ((.le (.c 0) (.v 111)), true), ((.le (.v 111) (.c 255)), true), ((.le (.c 0) (.v 113)), true), ((.le (.v 113) (.c 1000000000)), true), ((.le (.c 0) (.v 114)), true), ((.le (.v 114) (.c 1000000000)), true), ((.ap 2 (.a (.v 100) (.i (.v 100) (.i (.v 110) (.i (.v 111) .nil))))), true)]
noncomputable def vp0x27 : Vl := .go 0 [(130, vp0e10)] [] [(124, vp0e39), (123, vp0e21), (122, vp0e40), (121, vp0e24), (120, vp0e33)] [((.eq vp0e32 (.c 3)), false), ((.eq vp0e32 (.c 2)), false), ((.eq vp0e32 (.c 1)), false), ((.eq vp0e32 (.c 0)), false), ((.le vp0e32 (.c 3)), true), ((.le (.c 0) vp0e32), true), ((.lt (.v 130) (.v 40)), true), ((.le (.c 4) (.v 9)), true), ((.le (.v 9) (.c 18)), true), ((.le (.c 0) (.v 12)), true), ((.le (.v 12) (.c 4294967295)), true), ((.le (.c 0) (.v 40)), true), ((.le (.v 40) (.c 50)), true), ((.ap 3 (.a (.v 5) (.i (.v 40) .nil))), true), ((.le (.c 0) (.v 130)), true), ((.le (.v 130) (.c 50)), true), ((.le (.c 0) (.v 100)), true), ((.le (.v 100) (.c 50)), true), ((.le (.c 0) (.v 110)), true), ((.le (.v 110) (.c 255)), true), ((.le (.c 0) (.v 111)), true), ((.le (.v 111) (.c 255)), true), ((.le (.c 0) (.v 113)), true), ((.le (.v 113) (.c 1000000000)), true), ((.le (.c 0) (.v 114)), true), ((.le (.v 114) (.c 1000000000)), true), ((.ap 2 (.a (.v 100) (.i (.v 100) (.i (.v 110) (.i (.v 111) .nil))))), true)] (.exit .normal) (.loop (loopB (prm6 Tryd.prog).P 6 5) :: loopK (prm6 Tryd.prog).P 6 5)
noncomputable def vp0x28 : Vl := .dead [((.le vp0e32 (.c 3)), false), ((.le (.c 0) vp0e32), true), ((.lt (.v 130) (.v 40)), true), ((.le (.c 4) (.v 9)), true), ((.le (.v 9) (.c 18)), true), ((.le (.c 0) (.v 12)), true), ((.le (.v 12) (.c 4294967295)), true), ((.le (.c 0) (.v 40)), true), ((.le (.v 40) (.c 50)), true), ((.ap 3 (.a (.v 5) (.i (.v 40) .nil))), true), ((.le (.c 0) (.v 130)), true), ((.le (.v 130) (.c 50)), true), ((.le (.c 0) (.v 100)), true), ((.le (.v 100) (.c 50)), true), ((.le (.c 0) (.v 110)), true), ((.le (.v 110) (.c 255)), true), ((.le (.c 0) (.v 111)), true), ((.le (.v 111) (.c 255)), true), ((.le (.c 0) (.v 113)), true), ((.le (.v 113) (.c 1000000000)), true), ((.le (.c 0) (.v 114)), true), ((.le (.v 114) (.c 1000000000)), true), ((.ap 2 (.a (.v 100) (.i (.v 100) (.i (.v 110) (.i (.v 111) .nil))))), true)]
noncomputable def vp0x29 : Vl := .dead [((.le (.c 0) vp0e32), false), ((.lt (.v 130) (.v 40)), true), ((.le (.c 4) (.v 9)), true), ((.le (.v 9) (.c 18)), true), ((.le (.c 0) (.v 12)), true), ((.le (.v 12) (.c 4294967295)), true), ((.le (.c 0) (.v 40)), true), ((.le (.v 40) (.c 50)), true), ((.ap 3 (.a (.v 5) (.i (.v 40) .nil))), true), ((.le (.c 0) (.v 130)), true), ((.le (.v 130) (.c 50)), true), ((.le (.c 0) (.v 100)), true), ((.le (.v 100) (.c 50)), true), ((.le (.c 0) (.v 110)), true), ((.le (.v 110) (.c 255)), true), ((.le (.c 0) (.v 111)), true), ((.le (.v 111) (.c 255)), true), ((.le (.c 0) (.v 113)), true), ((.le (.v 113) (.c 1000000000)), true), ((.le (.c 0) (.v 114)), true), ((.le (.v 114) (.c 1000000000)), true), ((.ap 2 (.a (.v 100) (.i (.v 100) (.i (.v 110) (.i (.v 111) .nil))))), true)]
noncomputable def vp0x30 : Vl := .out 0 [.a (.v 5) (.v 5) (.v 40) 5, .i (.v 40) (.v 40), .p 1000 (.i (.v 130) (.a (.v 120) (.a (.v 121) (.a (.v 122) (.a (.v 123) (.a (.v 124) .nil)))))) (.i (.v 40) (.a vp0e57 (.a (.v 500) (.a vp0e58 (.a (.v 501) (.a vp0e59 .nil))))))] [((.lt (.v 130) (.v 40)), false), ((.le (.c 4) (.v 9)), true), ((.le (.v 9) (.c 18)), true), ((.le (.c 0) (.v 12)), true), ((.le (.v 12) (.c 4294967295)), true), ((.le (.c 0) (.v 40)), true), ((.le (.v 40) (.c 50)), true), ((.ap 3 (.a (.v 5) (.i (.v 40) .nil))), true), ((.le (.c 0) (.v 130)), true), ((.le (.v 130) (.c 50)), true), ((.le (.c 0) (.v 100)), true), ((.le (.v 100) (.c 50)), true), ((.le (.c 0) (.v 110)), true), ((.le (.v 110) (.c 255)), true), ((.le (.c 0) (.v 111)), true), ((.le (.v 111) (.c 255)), true), ((.le (.c 0) (.v 113)), true), ((.le (.v 113) (.c 1000000000)), true), ((.le (.c 0) (.v 114)), true), ((.le (.v 114) (.c 1000000000)), true), ((.ap 2 (.a (.v 100) (.i (.v 100) (.i (.v 110) (.i (.v 111) .nil))))), true)]
noncomputable def vp0ls : List Vl := [vp0x0, vp0x1, vp0x2, vp0x3, vp0x4, vp0x5, vp0x6, vp0x7, vp0x8, vp0x9, vp0x10, vp0x11, vp0x12, vp0x13, vp0x14, vp0x15, vp0x16, vp0x17, vp0x18, vp0x19, vp0x20, vp0x21, vp0x22, vp0x23, vp0x24, vp0x25, vp0x26, vp0x27, vp0x28, vp0x29, vp0x30]
theorem vp0run : (run (prm6 Tryd.prog) 900 (ptD (pts6 Tryd.prog) 0 6)).map (vOf (prm6 Tryd.prog) ct6 (pts6 Tryd.prog)) = vp0ls := by kernel_rfl
-- 31 ways; terms: vp0e0, vp0e1, vp0e2, vp0e3, vp0e4, vp0e5, vp0e6, vp0e7, vp0e8, vp0e9, vp0e10, vp0e11, vp0e12, vp0e13, vp0e14, vp0e15, vp0e16, vp0e17, vp0e18, vp0e19, vp0e20, vp0e21, vp0e22, vp0e23, vp0e24, vp0e25, vp0e26, vp0e27, vp0e28, vp0e29, vp0e30, vp0e31, vp0e32, vp0e33, vp0e34, vp0e35, vp0e36, vp0e37, vp0e38, vp0e39, vp0e40, vp0e41, vp0e42, vp0e43, vp0e44, vp0e45, vp0e46, vp0e47, vp0e48, vp0e49, vp0e50, vp0e51, vp0e52, vp0e53, vp0e54, vp0e55, vp0e56, vp0e57, vp0e58, vp0e59
noncomputable def vp1e0 : SE := .mul (.v 130) (.c 5)
noncomputable def vp1e1 : SE := .add vp1e0 (.c 1)
noncomputable def vp1e2 : SE := .rd (.v 5) vp1e1
noncomputable def vp1e3 : SE := .add vp1e0 (.c 2)
noncomputable def vp1e4 : SE := .rd (.v 5) vp1e3
noncomputable def vp1e5 : SE := .ap 10 (.a (.v 100) (.i (.v 100) (.i (.v 110) (.i (.v 111) (.i vp1e2 (.i vp1e4 .nil))))))
noncomputable def vp1e6 : SE := .tmod (.v 12) (.c 10000)
noncomputable def vp1e7 : SE := .add (.c 5000) vp1e6
noncomputable def vp1e8 : SE := .ap 12 (.i (.v 110) (.i (.v 111) (.i vp1e2 (.i vp1e4 .nil))))
noncomputable def vp1e9 : SE := .ap 11 (.a (.v 100) (.i (.v 100) (.i (.v 110) (.i (.v 111) (.i vp1e2 (.i vp1e4 .nil))))))
noncomputable def vp1e10 : SE := .add (.v 130) (.c 1)
noncomputable def vp1e11 : SE := .mul (.v 130) (.c 192)
noncomputable def vp1e12 : AE := .ap 13 (.a (.v 100) (.i (.v 100) (.i (.v 110) (.i (.v 111) (.i vp1e2 (.i vp1e4 .nil))))))
noncomputable def vp1e13 : AE := .ap 1 (.a (.v 124) (.i vp1e11 (.a vp1e12 .nil)))
noncomputable def vp1e14 : SE := .add vp1e11 (.c 64)
noncomputable def vp1e15 : AE := .tl (.v 100) (.c 0) .nil
noncomputable def vp1e16 : AE := .tl vp1e15 (.c 0) (.i vp1e9 .nil)
noncomputable def vp1e17 : AE := .ap 1 (.a vp1e13 (.i vp1e14 (.a vp1e16 .nil)))
noncomputable def vp1e18 : SE := .add vp1e11 (.c 128)
noncomputable def vp1e19 : AE := .tl vp1e15 (.c 0) (.i (.v 110) .nil)
noncomputable def vp1e20 : AE := .ap 1 (.a vp1e17 (.i vp1e18 (.a vp1e19 .nil)))
noncomputable def vp1e21 : SE := .mul (.v 130) (.c 3)
noncomputable def vp1e22 : AE := .tl (.v 123) vp1e21 (.i (.v 1003) (.i (.v 1004) (.i (.v 1005) .nil)))
noncomputable def vp1e23 : SE := .ap 13 (.a (.v 100) (.i (.v 100) (.i (.v 110) (.i (.v 111) (.i vp1e2 (.i vp1e4 .nil))))))
noncomputable def vp1e24 : AE := .tl (.v 122) vp1e21 (.i vp1e23 (.i (.c 1) (.i (.c 1) .nil)))
noncomputable def vp1e25 : AE := .tl (.v 121) vp1e21 (.i (.v 1000) (.i (.v 1001) (.i (.v 1002) .nil)))
noncomputable def vp1e26 : SE := .mul (.v 130) (.c 6)
noncomputable def vp1e27 : AE := .tl (.v 120) vp1e26 (.i (.c 9) (.i (.c (-1)) (.b (.c false) (.i (.c 0) (.i (.c 0) (.i (.c 0) .nil))))))
noncomputable def vp1e28 : AE := .ap 10 (.a (.v 100) (.i (.v 100) (.i (.v 110) (.i (.v 111) (.i vp1e2 (.i vp1e4 .nil))))))
noncomputable def vp1e29 : SE := .add vp1e0 (.c 4)
noncomputable def vp1e30 : SE := .rd (.v 5) vp1e29
noncomputable def vp1e31 : SE := .add vp1e0 (.c 3)
noncomputable def vp1e32 : SE := .rd (.v 5) vp1e31
noncomputable def vp1e33 : SE := .rd (.v 5) vp1e0
noncomputable def vp1e34 : AE := .tl (.v 120) vp1e26 (.i (.c 0) (.i (.c (-1)) (.b (.c false) (.i (.c 0) (.i (.c 0) (.i (.c 0) .nil))))))
noncomputable def vp1e35 : AE := .ap 1 (.a vp1e13 (.i vp1e14 (.a (.v 21) .nil)))
noncomputable def vp1e36 : AE := .ap 1 (.a vp1e35 (.i vp1e18 (.a (.v 22) .nil)))
noncomputable def vp1e37 : AE := .tl (.v 122) vp1e21 (.i vp1e23 (.i (.c 0) (.i (.c 0) .nil)))
noncomputable def vp1e38 : AE := .ap 1 (.a (.v 124) (.i vp1e11 (.a (.v 20) .nil)))
noncomputable def vp1e39 : AE := .ap 1 (.a vp1e38 (.i vp1e14 (.a (.v 21) .nil)))
noncomputable def vp1e40 : AE := .ap 1 (.a vp1e39 (.i vp1e18 (.a (.v 22) .nil)))
noncomputable def vp1e41 : AE := .tl (.v 122) vp1e21 (.i (.c 0) (.i (.c 0) (.i (.c 0) .nil)))
noncomputable def vp1e42 : SE := .sub (.v 100) (.c 1)
noncomputable def vp1e43 : SE := .rd (.v 100) (.c 0)
noncomputable def vp1e44 : AE := .ap 1 (.a (.v 124) (.i vp1e11 (.a vp1e19 .nil)))
noncomputable def vp1e45 : AE := .tl vp1e15 (.c 0) (.i vp1e43 .nil)
noncomputable def vp1e46 : AE := .ap 1 (.a vp1e44 (.i vp1e14 (.a vp1e45 .nil)))
noncomputable def vp1e47 : AE := .ap 1 (.a vp1e46 (.i vp1e18 (.a vp1e19 .nil)))
noncomputable def vp1e48 : AE := .tl (.v 122) vp1e21 (.i (.c 1) (.i (.c 1) (.i (.c 1) .nil)))
noncomputable def vp1e49 : SE := .wrap .i64 vp1e43
noncomputable def vp1e50 : SE := .bits .or .i64 (.c 0) vp1e49
noncomputable def vp1e51 : AE := .tl (.v 120) vp1e26 (.i (.c 0) (.i vp1e50 (.b (.c false) (.i (.c 0) (.i (.c 0) (.i (.c 0) .nil))))))
noncomputable def vp1e52 : AE := .dr (.v 100) (.c 1)
noncomputable def vp1e53 : SE := .bits .or .i64 (.c 0) (.v 110)
noncomputable def vp1e54 : AE := .tl (.v 120) vp1e26 (.i (.c 0) (.i vp1e53 (.b (.c false) (.i (.c 0) (.i (.c 0) (.i (.c 0) .nil))))))
noncomputable def vp1e55 : SE := .mn vp1e2 (.c 100000)
noncomputable def vp1e56 : SE := .add (.v 113) vp1e55
noncomputable def vp1e57 : AE := .ap 20 (.a (.v 5) (.i (.v 12) .nil))
noncomputable def vp1e58 : AE := .ap 21 (.a (.v 5) (.i (.v 12) .nil))
noncomputable def vp1e59 : AE := .ap 22 (.a (.v 5) (.i (.v 12) .nil))
noncomputable def vp1x0 : Vl := .go 1 [(100, vp1e5), (114, vp1e7), (113, (.c 0)), (111, vp1e8), (110, vp1e9), (130, vp1e10)] [] [(124, vp1e20), (123, vp1e22), (122, vp1e24), (121, vp1e25), (120, vp1e27), (100, vp1e28)] [((.le vp1e23 (.c 64)), true), ((.le (.c 4) vp1e5), true), ((.le (.c 0) vp1e5), true), ((.ap 10 (.i (.v 110) (.i (.v 111) (.i vp1e2 (.i vp1e4 .nil))))), true), ((.le vp1e30 (.c 255)), true), ((.le (.c 0) vp1e30), true), ((.le vp1e32 (.c 255)), true), ((.le (.c 0) vp1e32), true), ((.eq vp1e30 vp1e2), true), ((.eq vp1e32 vp1e2), true), ((.le vp1e4 vp1e2), true), ((.le vp1e4 (.c 255)), true), ((.le (.c 0) vp1e4), true), ((.le vp1e2 (.c 255)), true), ((.le (.c 0) vp1e2), true), ((.eq vp1e33 (.c 0)), true), ((.le vp1e33 (.c 3)), true), ((.le (.c 0) vp1e33), true), ((.lt (.v 130) (.v 40)), true), ((.le (.c 4) (.v 9)), true), ((.le (.v 9) (.c 18)), true), ((.le (.c 0) (.v 12)), true), ((.le (.v 12) (.c 4294967295)), true), ((.le (.c 0) (.v 40)), true), ((.le (.v 40) (.c 50)), true), ((.ap 3 (.a (.v 5) (.i (.v 40) .nil))), true), ((.le (.c 0) (.v 130)), true), ((.le (.v 130) (.c 50)), true), ((.le (.c 0) (.v 100)), true), ((.le (.v 100) (.c 50)), true), ((.le (.c 0) (.v 110)), true), ((.le (.v 110) (.c 255)), true), ((.le (.c 0) (.v 111)), true), ((.le (.v 111) (.c 255)), true), ((.le (.c 0) (.v 113)), true), ((.le (.v 113) (.c 1000000000)), true), ((.le (.c 0) (.v 114)), true), ((.le (.v 114) (.c 1000000000)), true), ((.ap 2 (.a (.v 100) (.i (.v 100) (.i (.v 110) (.i (.v 111) .nil))))), true)] (.exit .normal) (.loop (loopB (prm6 Tryd.prog).P 6 5) :: loopK (prm6 Tryd.prog).P 6 5)
noncomputable def vp1x1 : Vl := .dead [((.le vp1e23 (.c 64)), false), ((.le (.c 4) vp1e5), true), ((.le (.c 0) vp1e5), true), ((.ap 10 (.i (.v 110) (.i (.v 111) (.i vp1e2 (.i vp1e4 .nil))))), true), ((.le vp1e30 (.c 255)), true), ((.le (.c 0) vp1e30), true), ((.le vp1e32 (.c 255)), true), ((.le (.c 0) vp1e32), true), ((.eq vp1e30 vp1e2), true), ((.eq vp1e32 vp1e2), true), ((.le vp1e4 vp1e2), true), ((.le vp1e4 (.c 255)), true), ((.le (.c 0) vp1e4), true), ((.le vp1e2 (.c 255)), true), ((.le (.c 0) vp1e2), true), ((.eq vp1e33 (.c 0)), true), ((.le vp1e33 (.c 3)), true), ((.le (.c 0) vp1e33), true), ((.lt (.v 130) (.v 40)), true), ((.le (.c 4) (.v 9)), true), ((.le (.v 9) (.c 18)), true), ((.le (.c 0) (.v 12)), true), ((.le (.v 12) (.c 4294967295)), true), ((.le (.c 0) (.v 40)), true), ((.le (.v 40) (.c 50)), true), ((.ap 3 (.a (.v 5) (.i (.v 40) .nil))), true), ((.le (.c 0) (.v 130)), true), ((.le (.v 130) (.c 50)), true), ((.le (.c 0) (.v 100)), true), ((.le (.v 100) (.c 50)), true), ((.le (.c 0) (.v 110)), true), ((.le (.v 110) (.c 255)), true), ((.le (.c 0) (.v 111)), true), ((.le (.v 111) (.c 255)), true), ((.le (.c 0) (.v 113)), true), ((.le (.v 113) (.c 1000000000)), true), ((.le (.c 0) (.v 114)), true), ((.le (.v 114) (.c 1000000000)), true), ((.ap 2 (.a (.v 100) (.i (.v 100) (.i (.v 110) (.i (.v 111) .nil))))), true)]
noncomputable def vp1x2 : Vl := .go 1 [(100, vp1e5), (114, vp1e7), (113, (.c 0)), (111, vp1e8), (110, vp1e9), (130, vp1e10)] [] [(124, vp1e20), (123, vp1e22), (122, vp1e24), (121, vp1e25), (120, vp1e34), (100, vp1e28)] [((.le vp1e23 (.c 64)), true), ((.le (.c 4) vp1e5), false), ((.le (.c 0) vp1e5), true), ((.ap 10 (.i (.v 110) (.i (.v 111) (.i vp1e2 (.i vp1e4 .nil))))), true), ((.le vp1e30 (.c 255)), true), ((.le (.c 0) vp1e30), true), ((.le vp1e32 (.c 255)), true), ((.le (.c 0) vp1e32), true), ((.eq vp1e30 vp1e2), true), ((.eq vp1e32 vp1e2), true), ((.le vp1e4 vp1e2), true), ((.le vp1e4 (.c 255)), true), ((.le (.c 0) vp1e4), true), ((.le vp1e2 (.c 255)), true), ((.le (.c 0) vp1e2), true), ((.eq vp1e33 (.c 0)), true), ((.le vp1e33 (.c 3)), true), ((.le (.c 0) vp1e33), true), ((.lt (.v 130) (.v 40)), true), ((.le (.c 4) (.v 9)), true), ((.le (.v 9) (.c 18)), true), ((.le (.c 0) (.v 12)), true), ((.le (.v 12) (.c 4294967295)), true), ((.le (.c 0) (.v 40)), true), ((.le (.v 40) (.c 50)), true), ((.ap 3 (.a (.v 5) (.i (.v 40) .nil))), true), ((.le (.c 0) (.v 130)), true), ((.le (.v 130) (.c 50)), true), ((.le (.c 0) (.v 100)), true), ((.le (.v 100) (.c 50)), true), ((.le (.c 0) (.v 110)), true), ((.le (.v 110) (.c 255)), true), ((.le (.c 0) (.v 111)), true), ((.le (.v 111) (.c 255)), true), ((.le (.c 0) (.v 113)), true), ((.le (.v 113) (.c 1000000000)), true), ((.le (.c 0) (.v 114)), true), ((.le (.v 114) (.c 1000000000)), true), ((.ap 2 (.a (.v 100) (.i (.v 100) (.i (.v 110) (.i (.v 111) .nil))))), true)] (.exit .normal) (.loop (loopB (prm6 Tryd.prog).P 6 5) :: loopK (prm6 Tryd.prog).P 6 5)
noncomputable def vp1x3 : Vl := .dead [((.le vp1e23 (.c 64)), false), ((.le (.c 4) vp1e5), false), ((.le (.c 0) vp1e5), true), ((.ap 10 (.i (.v 110) (.i (.v 111) (.i vp1e2 (.i vp1e4 .nil))))), true), ((.le vp1e30 (.c 255)), true), ((.le (.c 0) vp1e30), true), ((.le vp1e32 (.c 255)), true), ((.le (.c 0) vp1e32), true), ((.eq vp1e30 vp1e2), true), ((.eq vp1e32 vp1e2), true), ((.le vp1e4 vp1e2), true), ((.le vp1e4 (.c 255)), true), ((.le (.c 0) vp1e4), true), ((.le vp1e2 (.c 255)), true), ((.le (.c 0) vp1e2), true), ((.eq vp1e33 (.c 0)), true), ((.le vp1e33 (.c 3)), true), ((.le (.c 0) vp1e33), true), ((.lt (.v 130) (.v 40)), true), ((.le (.c 4) (.v 9)), true), ((.le (.v 9) (.c 18)), true), ((.le (.c 0) (.v 12)), true), ((.le (.v 12) (.c 4294967295)), true), ((.le (.c 0) (.v 40)), true), ((.le (.v 40) (.c 50)), true), ((.ap 3 (.a (.v 5) (.i (.v 40) .nil))), true), ((.le (.c 0) (.v 130)), true), ((.le (.v 130) (.c 50)), true), ((.le (.c 0) (.v 100)), true), ((.le (.v 100) (.c 50)), true), ((.le (.c 0) (.v 110)), true), ((.le (.v 110) (.c 255)), true), ((.le (.c 0) (.v 111)), true), ((.le (.v 111) (.c 255)), true), ((.le (.c 0) (.v 113)), true), ((.le (.v 113) (.c 1000000000)), true), ((.le (.c 0) (.v 114)), true), ((.le (.v 114) (.c 1000000000)), true), ((.ap 2 (.a (.v 100) (.i (.v 100) (.i (.v 110) (.i (.v 111) .nil))))), true)]
noncomputable def vp1x4 : Vl := .dead [((.le (.c 0) vp1e5), false), ((.ap 10 (.i (.v 110) (.i (.v 111) (.i vp1e2 (.i vp1e4 .nil))))), true), ((.le vp1e30 (.c 255)), true), ((.le (.c 0) vp1e30), true), ((.le vp1e32 (.c 255)), true), ((.le (.c 0) vp1e32), true), ((.eq vp1e30 vp1e2), true), ((.eq vp1e32 vp1e2), true), ((.le vp1e4 vp1e2), true), ((.le vp1e4 (.c 255)), true), ((.le (.c 0) vp1e4), true), ((.le vp1e2 (.c 255)), true), ((.le (.c 0) vp1e2), true), ((.eq vp1e33 (.c 0)), true), ((.le vp1e33 (.c 3)), true), ((.le (.c 0) vp1e33), true), ((.lt (.v 130) (.v 40)), true), ((.le (.c 4) (.v 9)), true), ((.le (.v 9) (.c 18)), true), ((.le (.c 0) (.v 12)), true), ((.le (.v 12) (.c 4294967295)), true), ((.le (.c 0) (.v 40)), true), ((.le (.v 40) (.c 50)), true), ((.ap 3 (.a (.v 5) (.i (.v 40) .nil))), true), ((.le (.c 0) (.v 130)), true), ((.le (.v 130) (.c 50)), true), ((.le (.c 0) (.v 100)), true), ((.le (.v 100) (.c 50)), true), ((.le (.c 0) (.v 110)), true), ((.le (.v 110) (.c 255)), true), ((.le (.c 0) (.v 111)), true), ((.le (.v 111) (.c 255)), true), ((.le (.c 0) (.v 113)), true), ((.le (.v 113) (.c 1000000000)), true), ((.le (.c 0) (.v 114)), true), ((.le (.v 114) (.c 1000000000)), true), ((.ap 2 (.a (.v 100) (.i (.v 100) (.i (.v 110) (.i (.v 111) .nil))))), true)]
noncomputable def vp1x5 : Vl := .go 1 [(100, vp1e5), (111, vp1e8), (130, vp1e10)] [] [(124, vp1e36), (123, vp1e22), (122, vp1e37), (121, vp1e25), (120, vp1e27), (100, vp1e28)] [((.le vp1e23 (.c 64)), true), ((.le (.c 4) vp1e5), true), ((.le (.c 0) vp1e5), true), ((.ap 10 (.i (.v 110) (.i (.v 111) (.i vp1e2 (.i vp1e4 .nil))))), false), ((.le vp1e30 (.c 255)), true), ((.le (.c 0) vp1e30), true), ((.le vp1e32 (.c 255)), true), ((.le (.c 0) vp1e32), true), ((.eq vp1e30 vp1e2), true), ((.eq vp1e32 vp1e2), true), ((.le vp1e4 vp1e2), true), ((.le vp1e4 (.c 255)), true), ((.le (.c 0) vp1e4), true), ((.le vp1e2 (.c 255)), true), ((.le (.c 0) vp1e2), true), ((.eq vp1e33 (.c 0)), true), ((.le vp1e33 (.c 3)), true), ((.le (.c 0) vp1e33), true), ((.lt (.v 130) (.v 40)), true), ((.le (.c 4) (.v 9)), true), ((.le (.v 9) (.c 18)), true), ((.le (.c 0) (.v 12)), true), ((.le (.v 12) (.c 4294967295)), true), ((.le (.c 0) (.v 40)), true), ((.le (.v 40) (.c 50)), true), ((.ap 3 (.a (.v 5) (.i (.v 40) .nil))), true), ((.le (.c 0) (.v 130)), true), ((.le (.v 130) (.c 50)), true), ((.le (.c 0) (.v 100)), true), ((.le (.v 100) (.c 50)), true), ((.le (.c 0) (.v 110)), true), ((.le (.v 110) (.c 255)), true), ((.le (.c 0) (.v 111)), true), ((.le (.v 111) (.c 255)), true), ((.le (.c 0) (.v 113)), true), ((.le (.v 113) (.c 1000000000)), true), ((.le (.c 0) (.v 114)), true), ((.le (.v 114) (.c 1000000000)), true), ((.ap 2 (.a (.v 100) (.i (.v 100) (.i (.v 110) (.i (.v 111) .nil))))), true)] (.exit .normal) (.loop (loopB (prm6 Tryd.prog).P 6 5) :: loopK (prm6 Tryd.prog).P 6 5)
noncomputable def vp1x6 : Vl := .dead [((.le vp1e23 (.c 64)), false), ((.le (.c 4) vp1e5), true), ((.le (.c 0) vp1e5), true), ((.ap 10 (.i (.v 110) (.i (.v 111) (.i vp1e2 (.i vp1e4 .nil))))), false), ((.le vp1e30 (.c 255)), true), ((.le (.c 0) vp1e30), true), ((.le vp1e32 (.c 255)), true), ((.le (.c 0) vp1e32), true), ((.eq vp1e30 vp1e2), true), ((.eq vp1e32 vp1e2), true), ((.le vp1e4 vp1e2), true), ((.le vp1e4 (.c 255)), true), ((.le (.c 0) vp1e4), true), ((.le vp1e2 (.c 255)), true), ((.le (.c 0) vp1e2), true), ((.eq vp1e33 (.c 0)), true), ((.le vp1e33 (.c 3)), true), ((.le (.c 0) vp1e33), true), ((.lt (.v 130) (.v 40)), true), ((.le (.c 4) (.v 9)), true), ((.le (.v 9) (.c 18)), true), ((.le (.c 0) (.v 12)), true), ((.le (.v 12) (.c 4294967295)), true), ((.le (.c 0) (.v 40)), true), ((.le (.v 40) (.c 50)), true), ((.ap 3 (.a (.v 5) (.i (.v 40) .nil))), true), ((.le (.c 0) (.v 130)), true), ((.le (.v 130) (.c 50)), true), ((.le (.c 0) (.v 100)), true), ((.le (.v 100) (.c 50)), true), ((.le (.c 0) (.v 110)), true), ((.le (.v 110) (.c 255)), true), ((.le (.c 0) (.v 111)), true), ((.le (.v 111) (.c 255)), true), ((.le (.c 0) (.v 113)), true), ((.le (.v 113) (.c 1000000000)), true), ((.le (.c 0) (.v 114)), true), ((.le (.v 114) (.c 1000000000)), true), ((.ap 2 (.a (.v 100) (.i (.v 100) (.i (.v 110) (.i (.v 111) .nil))))), true)]
noncomputable def vp1x7 : Vl := .go 1 [(100, vp1e5), (111, vp1e8), (130, vp1e10)] [] [(124, vp1e36), (123, vp1e22), (122, vp1e37), (121, vp1e25), (120, vp1e34), (100, vp1e28)] [((.le vp1e23 (.c 64)), true), ((.le (.c 4) vp1e5), false), ((.le (.c 0) vp1e5), true), ((.ap 10 (.i (.v 110) (.i (.v 111) (.i vp1e2 (.i vp1e4 .nil))))), false), ((.le vp1e30 (.c 255)), true), ((.le (.c 0) vp1e30), true), ((.le vp1e32 (.c 255)), true), ((.le (.c 0) vp1e32), true), ((.eq vp1e30 vp1e2), true), ((.eq vp1e32 vp1e2), true), ((.le vp1e4 vp1e2), true), ((.le vp1e4 (.c 255)), true), ((.le (.c 0) vp1e4), true), ((.le vp1e2 (.c 255)), true), ((.le (.c 0) vp1e2), true), ((.eq vp1e33 (.c 0)), true), ((.le vp1e33 (.c 3)), true), ((.le (.c 0) vp1e33), true), ((.lt (.v 130) (.v 40)), true), ((.le (.c 4) (.v 9)), true), ((.le (.v 9) (.c 18)), true), ((.le (.c 0) (.v 12)), true), ((.le (.v 12) (.c 4294967295)), true), ((.le (.c 0) (.v 40)), true), ((.le (.v 40) (.c 50)), true), ((.ap 3 (.a (.v 5) (.i (.v 40) .nil))), true), ((.le (.c 0) (.v 130)), true), ((.le (.v 130) (.c 50)), true), ((.le (.c 0) (.v 100)), true), ((.le (.v 100) (.c 50)), true), ((.le (.c 0) (.v 110)), true), ((.le (.v 110) (.c 255)), true), ((.le (.c 0) (.v 111)), true), ((.le (.v 111) (.c 255)), true), ((.le (.c 0) (.v 113)), true), ((.le (.v 113) (.c 1000000000)), true), ((.le (.c 0) (.v 114)), true), ((.le (.v 114) (.c 1000000000)), true), ((.ap 2 (.a (.v 100) (.i (.v 100) (.i (.v 110) (.i (.v 111) .nil))))), true)] (.exit .normal) (.loop (loopB (prm6 Tryd.prog).P 6 5) :: loopK (prm6 Tryd.prog).P 6 5)
noncomputable def vp1x8 : Vl := .dead [((.le vp1e23 (.c 64)), false), ((.le (.c 4) vp1e5), false), ((.le (.c 0) vp1e5), true), ((.ap 10 (.i (.v 110) (.i (.v 111) (.i vp1e2 (.i vp1e4 .nil))))), false), ((.le vp1e30 (.c 255)), true), ((.le (.c 0) vp1e30), true), ((.le vp1e32 (.c 255)), true), ((.le (.c 0) vp1e32), true), ((.eq vp1e30 vp1e2), true), ((.eq vp1e32 vp1e2), true), ((.le vp1e4 vp1e2), true), ((.le vp1e4 (.c 255)), true), ((.le (.c 0) vp1e4), true), ((.le vp1e2 (.c 255)), true), ((.le (.c 0) vp1e2), true), ((.eq vp1e33 (.c 0)), true), ((.le vp1e33 (.c 3)), true), ((.le (.c 0) vp1e33), true), ((.lt (.v 130) (.v 40)), true), ((.le (.c 4) (.v 9)), true), ((.le (.v 9) (.c 18)), true), ((.le (.c 0) (.v 12)), true), ((.le (.v 12) (.c 4294967295)), true), ((.le (.c 0) (.v 40)), true), ((.le (.v 40) (.c 50)), true), ((.ap 3 (.a (.v 5) (.i (.v 40) .nil))), true), ((.le (.c 0) (.v 130)), true), ((.le (.v 130) (.c 50)), true), ((.le (.c 0) (.v 100)), true), ((.le (.v 100) (.c 50)), true), ((.le (.c 0) (.v 110)), true), ((.le (.v 110) (.c 255)), true), ((.le (.c 0) (.v 111)), true), ((.le (.v 111) (.c 255)), true), ((.le (.c 0) (.v 113)), true), ((.le (.v 113) (.c 1000000000)), true), ((.le (.c 0) (.v 114)), true), ((.le (.v 114) (.c 1000000000)), true), ((.ap 2 (.a (.v 100) (.i (.v 100) (.i (.v 110) (.i (.v 111) .nil))))), true)]
noncomputable def vp1x9 : Vl := .dead [((.le (.c 0) vp1e5), false), ((.ap 10 (.i (.v 110) (.i (.v 111) (.i vp1e2 (.i vp1e4 .nil))))), false), ((.le vp1e30 (.c 255)), true), ((.le (.c 0) vp1e30), true), ((.le vp1e32 (.c 255)), true), ((.le (.c 0) vp1e32), true), ((.eq vp1e30 vp1e2), true), ((.eq vp1e32 vp1e2), true), ((.le vp1e4 vp1e2), true), ((.le vp1e4 (.c 255)), true), ((.le (.c 0) vp1e4), true), ((.le vp1e2 (.c 255)), true), ((.le (.c 0) vp1e2), true), ((.eq vp1e33 (.c 0)), true), ((.le vp1e33 (.c 3)), true), ((.le (.c 0) vp1e33), true), ((.lt (.v 130) (.v 40)), true), ((.le (.c 4) (.v 9)), true), ((.le (.v 9) (.c 18)), true), ((.le (.c 0) (.v 12)), true), ((.le (.v 12) (.c 4294967295)), true), ((.le (.c 0) (.v 40)), true), ((.le (.v 40) (.c 50)), true), ((.ap 3 (.a (.v 5) (.i (.v 40) .nil))), true), ((.le (.c 0) (.v 130)), true), ((.le (.v 130) (.c 50)), true), ((.le (.c 0) (.v 100)), true), ((.le (.v 100) (.c 50)), true), ((.le (.c 0) (.v 110)), true), ((.le (.v 110) (.c 255)), true), ((.le (.c 0) (.v 111)), true), ((.le (.v 111) (.c 255)), true), ((.le (.c 0) (.v 113)), true), ((.le (.v 113) (.c 1000000000)), true), ((.le (.c 0) (.v 114)), true), ((.le (.v 114) (.c 1000000000)), true), ((.ap 2 (.a (.v 100) (.i (.v 100) (.i (.v 110) (.i (.v 111) .nil))))), true)]
noncomputable def vp1x10 : Vl := .dead [((.le vp1e30 (.c 255)), false), ((.le (.c 0) vp1e30), true), ((.le vp1e32 (.c 255)), true), ((.le (.c 0) vp1e32), true), ((.eq vp1e30 vp1e2), true), ((.eq vp1e32 vp1e2), true), ((.le vp1e4 vp1e2), true), ((.le vp1e4 (.c 255)), true), ((.le (.c 0) vp1e4), true), ((.le vp1e2 (.c 255)), true), ((.le (.c 0) vp1e2), true), ((.eq vp1e33 (.c 0)), true), ((.le vp1e33 (.c 3)), true), ((.le (.c 0) vp1e33), true), ((.lt (.v 130) (.v 40)), true), ((.le (.c 4) (.v 9)), true), ((.le (.v 9) (.c 18)), true), ((.le (.c 0) (.v 12)), true), ((.le (.v 12) (.c 4294967295)), true), ((.le (.c 0) (.v 40)), true), ((.le (.v 40) (.c 50)), true), ((.ap 3 (.a (.v 5) (.i (.v 40) .nil))), true), ((.le (.c 0) (.v 130)), true), ((.le (.v 130) (.c 50)), true), ((.le (.c 0) (.v 100)), true), ((.le (.v 100) (.c 50)), true), ((.le (.c 0) (.v 110)), true), ((.le (.v 110) (.c 255)), true), ((.le (.c 0) (.v 111)), true), ((.le (.v 111) (.c 255)), true), ((.le (.c 0) (.v 113)), true), ((.le (.v 113) (.c 1000000000)), true), ((.le (.c 0) (.v 114)), true), ((.le (.v 114) (.c 1000000000)), true), ((.ap 2 (.a (.v 100) (.i (.v 100) (.i (.v 110) (.i (.v 111) .nil))))), true)]
noncomputable def vp1x11 : Vl := .dead [((.le (.c 0) vp1e30), false), ((.le vp1e32 (.c 255)), true), ((.le (.c 0) vp1e32), true), ((.eq vp1e30 vp1e2), true), ((.eq vp1e32 vp1e2), true), ((.le vp1e4 vp1e2), true), ((.le vp1e4 (.c 255)), true), ((.le (.c 0) vp1e4), true), ((.le vp1e2 (.c 255)), true), ((.le (.c 0) vp1e2), true), ((.eq vp1e33 (.c 0)), true), ((.le vp1e33 (.c 3)), true), ((.le (.c 0) vp1e33), true), ((.lt (.v 130) (.v 40)), true), ((.le (.c 4) (.v 9)), true), ((.le (.v 9) (.c 18)), true), ((.le (.c 0) (.v 12)), true), ((.le (.v 12) (.c 4294967295)), true), ((.le (.c 0) (.v 40)), true), ((.le (.v 40) (.c 50)), true), ((.ap 3 (.a (.v 5) (.i (.v 40) .nil))), true), ((.le (.c 0) (.v 130)), true), ((.le (.v 130) (.c 50)), true), ((.le (.c 0) (.v 100)), true), ((.le (.v 100) (.c 50)), true), ((.le (.c 0) (.v 110)), true), ((.le (.v 110) (.c 255)), true), ((.le (.c 0) (.v 111)), true), ((.le (.v 111) (.c 255)), true), ((.le (.c 0) (.v 113)), true), ((.le (.v 113) (.c 1000000000)), true), ((.le (.c 0) (.v 114)), true), ((.le (.v 114) (.c 1000000000)), true), ((.ap 2 (.a (.v 100) (.i (.v 100) (.i (.v 110) (.i (.v 111) .nil))))), true)]
noncomputable def vp1x12 : Vl := .dead [((.le vp1e32 (.c 255)), false), ((.le (.c 0) vp1e32), true), ((.eq vp1e30 vp1e2), true), ((.eq vp1e32 vp1e2), true), ((.le vp1e4 vp1e2), true), ((.le vp1e4 (.c 255)), true), ((.le (.c 0) vp1e4), true), ((.le vp1e2 (.c 255)), true), ((.le (.c 0) vp1e2), true), ((.eq vp1e33 (.c 0)), true), ((.le vp1e33 (.c 3)), true), ((.le (.c 0) vp1e33), true), ((.lt (.v 130) (.v 40)), true), ((.le (.c 4) (.v 9)), true), ((.le (.v 9) (.c 18)), true), ((.le (.c 0) (.v 12)), true), ((.le (.v 12) (.c 4294967295)), true), ((.le (.c 0) (.v 40)), true), ((.le (.v 40) (.c 50)), true), ((.ap 3 (.a (.v 5) (.i (.v 40) .nil))), true), ((.le (.c 0) (.v 130)), true), ((.le (.v 130) (.c 50)), true), ((.le (.c 0) (.v 100)), true), ((.le (.v 100) (.c 50)), true), ((.le (.c 0) (.v 110)), true), ((.le (.v 110) (.c 255)), true), ((.le (.c 0) (.v 111)), true), ((.le (.v 111) (.c 255)), true), ((.le (.c 0) (.v 113)), true), ((.le (.v 113) (.c 1000000000)), true), ((.le (.c 0) (.v 114)), true), ((.le (.v 114) (.c 1000000000)), true), ((.ap 2 (.a (.v 100) (.i (.v 100) (.i (.v 110) (.i (.v 111) .nil))))), true)]
noncomputable def vp1x13 : Vl := .dead [((.le (.c 0) vp1e32), false), ((.eq vp1e30 vp1e2), true), ((.eq vp1e32 vp1e2), true), ((.le vp1e4 vp1e2), true), ((.le vp1e4 (.c 255)), true), ((.le (.c 0) vp1e4), true), ((.le vp1e2 (.c 255)), true), ((.le (.c 0) vp1e2), true), ((.eq vp1e33 (.c 0)), true), ((.le vp1e33 (.c 3)), true), ((.le (.c 0) vp1e33), true), ((.lt (.v 130) (.v 40)), true), ((.le (.c 4) (.v 9)), true), ((.le (.v 9) (.c 18)), true), ((.le (.c 0) (.v 12)), true), ((.le (.v 12) (.c 4294967295)), true), ((.le (.c 0) (.v 40)), true), ((.le (.v 40) (.c 50)), true), ((.ap 3 (.a (.v 5) (.i (.v 40) .nil))), true), ((.le (.c 0) (.v 130)), true), ((.le (.v 130) (.c 50)), true), ((.le (.c 0) (.v 100)), true), ((.le (.v 100) (.c 50)), true), ((.le (.c 0) (.v 110)), true), ((.le (.v 110) (.c 255)), true), ((.le (.c 0) (.v 111)), true), ((.le (.v 111) (.c 255)), true), ((.le (.c 0) (.v 113)), true), ((.le (.v 113) (.c 1000000000)), true), ((.le (.c 0) (.v 114)), true), ((.le (.v 114) (.c 1000000000)), true), ((.ap 2 (.a (.v 100) (.i (.v 100) (.i (.v 110) (.i (.v 111) .nil))))), true)]
noncomputable def vp1x14 : Vl := .dead [((.eq vp1e30 vp1e2), false), ((.eq vp1e32 vp1e2), true), ((.le vp1e4 vp1e2), true), ((.le vp1e4 (.c 255)), true), ((.le (.c 0) vp1e4), true), ((.le vp1e2 (.c 255)), true), ((.le (.c 0) vp1e2), true), ((.eq vp1e33 (.c 0)), true), ((.le vp1e33 (.c 3)), true), ((.le (.c 0) vp1e33), true), ((.lt (.v 130) (.v 40)), true), ((.le (.c 4) (.v 9)), true), ((.le (.v 9) (.c 18)), true), ((.le (.c 0) (.v 12)), true), ((.le (.v 12) (.c 4294967295)), true), ((.le (.c 0) (.v 40)), true), ((.le (.v 40) (.c 50)), true), ((.ap 3 (.a (.v 5) (.i (.v 40) .nil))), true), ((.le (.c 0) (.v 130)), true), ((.le (.v 130) (.c 50)), true), ((.le (.c 0) (.v 100)), true), ((.le (.v 100) (.c 50)), true), ((.le (.c 0) (.v 110)), true), ((.le (.v 110) (.c 255)), true), ((.le (.c 0) (.v 111)), true), ((.le (.v 111) (.c 255)), true), ((.le (.c 0) (.v 113)), true), ((.le (.v 113) (.c 1000000000)), true), ((.le (.c 0) (.v 114)), true), ((.le (.v 114) (.c 1000000000)), true), ((.ap 2 (.a (.v 100) (.i (.v 100) (.i (.v 110) (.i (.v 111) .nil))))), true)]
noncomputable def vp1x15 : Vl := .dead [((.eq vp1e32 vp1e2), false), ((.le vp1e4 vp1e2), true), ((.le vp1e4 (.c 255)), true), ((.le (.c 0) vp1e4), true), ((.le vp1e2 (.c 255)), true), ((.le (.c 0) vp1e2), true), ((.eq vp1e33 (.c 0)), true), ((.le vp1e33 (.c 3)), true), ((.le (.c 0) vp1e33), true), ((.lt (.v 130) (.v 40)), true), ((.le (.c 4) (.v 9)), true), ((.le (.v 9) (.c 18)), true), ((.le (.c 0) (.v 12)), true), ((.le (.v 12) (.c 4294967295)), true), ((.le (.c 0) (.v 40)), true), ((.le (.v 40) (.c 50)), true), ((.ap 3 (.a (.v 5) (.i (.v 40) .nil))), true), ((.le (.c 0) (.v 130)), true), ((.le (.v 130) (.c 50)), true), ((.le (.c 0) (.v 100)), true), ((.le (.v 100) (.c 50)), true), ((.le (.c 0) (.v 110)), true), ((.le (.v 110) (.c 255)), true), ((.le (.c 0) (.v 111)), true), ((.le (.v 111) (.c 255)), true), ((.le (.c 0) (.v 113)), true), ((.le (.v 113) (.c 1000000000)), true), ((.le (.c 0) (.v 114)), true), ((.le (.v 114) (.c 1000000000)), true), ((.ap 2 (.a (.v 100) (.i (.v 100) (.i (.v 110) (.i (.v 111) .nil))))), true)]
noncomputable def vp1x16 : Vl := .dead [((.le vp1e4 vp1e2), false), ((.le vp1e4 (.c 255)), true), ((.le (.c 0) vp1e4), true), ((.le vp1e2 (.c 255)), true), ((.le (.c 0) vp1e2), true), ((.eq vp1e33 (.c 0)), true), ((.le vp1e33 (.c 3)), true), ((.le (.c 0) vp1e33), true), ((.lt (.v 130) (.v 40)), true), ((.le (.c 4) (.v 9)), true), ((.le (.v 9) (.c 18)), true), ((.le (.c 0) (.v 12)), true), ((.le (.v 12) (.c 4294967295)), true), ((.le (.c 0) (.v 40)), true), ((.le (.v 40) (.c 50)), true), ((.ap 3 (.a (.v 5) (.i (.v 40) .nil))), true), ((.le (.c 0) (.v 130)), true), ((.le (.v 130) (.c 50)), true), ((.le (.c 0) (.v 100)), true), ((.le (.v 100) (.c 50)), true), ((.le (.c 0) (.v 110)), true), ((.le (.v 110) (.c 255)), true), ((.le (.c 0) (.v 111)), true), ((.le (.v 111) (.c 255)), true), ((.le (.c 0) (.v 113)), true), ((.le (.v 113) (.c 1000000000)), true), ((.le (.c 0) (.v 114)), true), ((.le (.v 114) (.c 1000000000)), true), ((.ap 2 (.a (.v 100) (.i (.v 100) (.i (.v 110) (.i (.v 111) .nil))))), true)]
noncomputable def vp1x17 : Vl := .dead [((.le vp1e4 (.c 255)), false), ((.le (.c 0) vp1e4), true), ((.le vp1e2 (.c 255)), true), ((.le (.c 0) vp1e2), true), ((.eq vp1e33 (.c 0)), true), ((.le vp1e33 (.c 3)), true), ((.le (.c 0) vp1e33), true), ((.lt (.v 130) (.v 40)), true), ((.le (.c 4) (.v 9)), true), ((.le (.v 9) (.c 18)), true), ((.le (.c 0) (.v 12)), true), ((.le (.v 12) (.c 4294967295)), true), ((.le (.c 0) (.v 40)), true), ((.le (.v 40) (.c 50)), true), ((.ap 3 (.a (.v 5) (.i (.v 40) .nil))), true), ((.le (.c 0) (.v 130)), true), ((.le (.v 130) (.c 50)), true), ((.le (.c 0) (.v 100)), true), ((.le (.v 100) (.c 50)), true), ((.le (.c 0) (.v 110)), true), ((.le (.v 110) (.c 255)), true), ((.le (.c 0) (.v 111)), true), ((.le (.v 111) (.c 255)), true), ((.le (.c 0) (.v 113)), true), ((.le (.v 113) (.c 1000000000)), true), ((.le (.c 0) (.v 114)), true), ((.le (.v 114) (.c 1000000000)), true), ((.ap 2 (.a (.v 100) (.i (.v 100) (.i (.v 110) (.i (.v 111) .nil))))), true)]
noncomputable def vp1x18 : Vl := .dead [((.le (.c 0) vp1e4), false), ((.le vp1e2 (.c 255)), true), ((.le (.c 0) vp1e2), true), ((.eq vp1e33 (.c 0)), true), ((.le vp1e33 (.c 3)), true), ((.le (.c 0) vp1e33), true), ((.lt (.v 130) (.v 40)), true), ((.le (.c 4) (.v 9)), true), ((.le (.v 9) (.c 18)), true), ((.le (.c 0) (.v 12)), true), ((.le (.v 12) (.c 4294967295)), true), ((.le (.c 0) (.v 40)), true), ((.le (.v 40) (.c 50)), true), ((.ap 3 (.a (.v 5) (.i (.v 40) .nil))), true), ((.le (.c 0) (.v 130)), true), ((.le (.v 130) (.c 50)), true), ((.le (.c 0) (.v 100)), true), ((.le (.v 100) (.c 50)), true), ((.le (.c 0) (.v 110)), true), ((.le (.v 110) (.c 255)), true), ((.le (.c 0) (.v 111)), true), ((.le (.v 111) (.c 255)), true), ((.le (.c 0) (.v 113)), true), ((.le (.v 113) (.c 1000000000)), true), ((.le (.c 0) (.v 114)), true), ((.le (.v 114) (.c 1000000000)), true), ((.ap 2 (.a (.v 100) (.i (.v 100) (.i (.v 110) (.i (.v 111) .nil))))), true)]
noncomputable def vp1x19 : Vl := .dead [((.le vp1e2 (.c 255)), false), ((.le (.c 0) vp1e2), true), ((.eq vp1e33 (.c 0)), true), ((.le vp1e33 (.c 3)), true), ((.le (.c 0) vp1e33), true), ((.lt (.v 130) (.v 40)), true), ((.le (.c 4) (.v 9)), true), ((.le (.v 9) (.c 18)), true), ((.le (.c 0) (.v 12)), true), ((.le (.v 12) (.c 4294967295)), true), ((.le (.c 0) (.v 40)), true), ((.le (.v 40) (.c 50)), true), ((.ap 3 (.a (.v 5) (.i (.v 40) .nil))), true), ((.le (.c 0) (.v 130)), true), ((.le (.v 130) (.c 50)), true), ((.le (.c 0) (.v 100)), true), ((.le (.v 100) (.c 50)), true), ((.le (.c 0) (.v 110)), true), ((.le (.v 110) (.c 255)), true), ((.le (.c 0) (.v 111)), true), ((.le (.v 111) (.c 255)), true), ((.le (.c 0) (.v 113)), true), ((.le (.v 113) (.c 1000000000)), true), ((.le (.c 0) (.v 114)), true), ((.le (.v 114) (.c 1000000000)), true), ((.ap 2 (.a (.v 100) (.i (.v 100) (.i (.v 110) (.i (.v 111) .nil))))), true)]
noncomputable def vp1x20 : Vl := .dead [((.le (.c 0) vp1e2), false), ((.eq vp1e33 (.c 0)), true), ((.le vp1e33 (.c 3)), true), ((.le (.c 0) vp1e33), true), ((.lt (.v 130) (.v 40)), true), ((.le (.c 4) (.v 9)), true), ((.le (.v 9) (.c 18)), true), ((.le (.c 0) (.v 12)), true), ((.le (.v 12) (.c 4294967295)), true), ((.le (.c 0) (.v 40)), true), ((.le (.v 40) (.c 50)), true), ((.ap 3 (.a (.v 5) (.i (.v 40) .nil))), true), ((.le (.c 0) (.v 130)), true), ((.le (.v 130) (.c 50)), true), ((.le (.c 0) (.v 100)), true), ((.le (.v 100) (.c 50)), true), ((.le (.c 0) (.v 110)), true), ((.le (.v 110) (.c 255)), true), ((.le (.c 0) (.v 111)), true), ((.le (.v 111) (.c 255)), true), ((.le (.c 0) (.v 113)), true), ((.le (.v 113) (.c 1000000000)), true), ((.le (.c 0) (.v 114)), true), ((.le (.v 114) (.c 1000000000)), true), ((.ap 2 (.a (.v 100) (.i (.v 100) (.i (.v 110) (.i (.v 111) .nil))))), true)]
noncomputable def vp1x21 : Vl := .go 1 [(130, vp1e10)] [(100, (.c true))] [(124, vp1e40), (123, vp1e22), (122, vp1e41), (121, vp1e25), (120, vp1e34)] [((.eq vp1e33 (.c 1)), true), ((.eq vp1e33 (.c 0)), false), ((.le vp1e33 (.c 3)), true), ((.le (.c 0) vp1e33), true), ((.lt (.v 130) (.v 40)), true), ((.le (.c 4) (.v 9)), true), ((.le (.v 9) (.c 18)), true), ((.le (.c 0) (.v 12)), true), ((.le (.v 12) (.c 4294967295)), true), ((.le (.c 0) (.v 40)), true), ((.le (.v 40) (.c 50)), true), ((.ap 3 (.a (.v 5) (.i (.v 40) .nil))), true), ((.le (.c 0) (.v 130)), true), ((.le (.v 130) (.c 50)), true), ((.le (.c 0) (.v 100)), true), ((.le (.v 100) (.c 50)), true), ((.le (.c 0) (.v 110)), true), ((.le (.v 110) (.c 255)), true), ((.le (.c 0) (.v 111)), true), ((.le (.v 111) (.c 255)), true), ((.le (.c 0) (.v 113)), true), ((.le (.v 113) (.c 1000000000)), true), ((.le (.c 0) (.v 114)), true), ((.le (.v 114) (.c 1000000000)), true), ((.ap 2 (.a (.v 100) (.i (.v 100) (.i (.v 110) (.i (.v 111) .nil))))), true)] (.exit .normal) (.loop (loopB (prm6 Tryd.prog).P 6 5) :: loopK (prm6 Tryd.prog).P 6 5)
noncomputable def vp1x22 : Vl := .go 1 [(100, vp1e42), (114, vp1e7), (113, (.c 0)), (111, (.v 110)), (110, vp1e43), (130, vp1e10)] [] [(124, vp1e47), (123, vp1e22), (122, vp1e48), (121, vp1e25), (120, vp1e51), (100, vp1e52)] [((.ap 11 (.b (.v 100) (.i (.v 100) (.i (.v 110) (.i (.v 113) (.i (.v 114) .nil)))))), true), ((.eq vp1e33 (.c 2)), true), ((.eq vp1e33 (.c 1)), false), ((.eq vp1e33 (.c 0)), false), ((.le vp1e33 (.c 3)), true), ((.le (.c 0) vp1e33), true), ((.lt (.v 130) (.v 40)), true), ((.le (.c 4) (.v 9)), true), ((.le (.v 9) (.c 18)), true), ((.le (.c 0) (.v 12)), true), ((.le (.v 12) (.c 4294967295)), true), ((.le (.c 0) (.v 40)), true), ((.le (.v 40) (.c 50)), true), ((.ap 3 (.a (.v 5) (.i (.v 40) .nil))), true), ((.le (.c 0) (.v 130)), true), ((.le (.v 130) (.c 50)), true), ((.le (.c 0) (.v 100)), true), ((.le (.v 100) (.c 50)), true), ((.le (.c 0) (.v 110)), true), ((.le (.v 110) (.c 255)), true), ((.le (.c 0) (.v 111)), true), ((.le (.v 111) (.c 255)), true), ((.le (.c 0) (.v 113)), true), ((.le (.v 113) (.c 1000000000)), true), ((.le (.c 0) (.v 114)), true), ((.le (.v 114) (.c 1000000000)), true), ((.ap 2 (.a (.v 100) (.i (.v 100) (.i (.v 110) (.i (.v 111) .nil))))), true)] (.exit .normal) (.loop (loopB (prm6 Tryd.prog).P 6 5) :: loopK (prm6 Tryd.prog).P 6 5)
noncomputable def vp1x23 : Vl := .go 1 [(130, vp1e10)] [] [(124, vp1e40), (123, vp1e22), (122, vp1e41), (121, vp1e25), (120, vp1e54)] [((.ap 11 (.b (.v 100) (.i (.v 100) (.i (.v 110) (.i (.v 113) (.i (.v 114) .nil)))))), false), ((.eq vp1e33 (.c 2)), true), ((.eq vp1e33 (.c 1)), false), ((.eq vp1e33 (.c 0)), false), ((.le vp1e33 (.c 3)), true), ((.le (.c 0) vp1e33), true), ((.lt (.v 130) (.v 40)), true), ((.le (.c 4) (.v 9)), true), ((.le (.v 9) (.c 18)), true), ((.le (.c 0) (.v 12)), true), ((.le (.v 12) (.c 4294967295)), true), ((.le (.c 0) (.v 40)), true), ((.le (.v 40) (.c 50)), true), ((.ap 3 (.a (.v 5) (.i (.v 40) .nil))), true), ((.le (.c 0) (.v 130)), true), ((.le (.v 130) (.c 50)), true), ((.le (.c 0) (.v 100)), true), ((.le (.v 100) (.c 50)), true), ((.le (.c 0) (.v 110)), true), ((.le (.v 110) (.c 255)), true), ((.le (.c 0) (.v 111)), true), ((.le (.v 111) (.c 255)), true), ((.le (.c 0) (.v 113)), true), ((.le (.v 113) (.c 1000000000)), true), ((.le (.c 0) (.v 114)), true), ((.le (.v 114) (.c 1000000000)), true), ((.ap 2 (.a (.v 100) (.i (.v 100) (.i (.v 110) (.i (.v 111) .nil))))), true)] (.exit .normal) (.loop (loopB (prm6 Tryd.prog).P 6 5) :: loopK (prm6 Tryd.prog).P 6 5)
noncomputable def vp1x24 : Vl := .go 1 [(113, vp1e56), (130, vp1e10)] [] [(124, vp1e40), (123, vp1e22), (122, vp1e41), (121, vp1e25), (120, vp1e34)] [((.le vp1e2 (.c 18446744073709551615)), true), ((.le (.c 0) vp1e2), true), ((.eq vp1e33 (.c 3)), true), ((.eq vp1e33 (.c 2)), false), ((.eq vp1e33 (.c 1)), false), ((.eq vp1e33 (.c 0)), false), ((.le vp1e33 (.c 3)), true), ((.le (.c 0) vp1e33), true), ((.lt (.v 130) (.v 40)), true), ((.le (.c 4) (.v 9)), true), ((.le (.v 9) (.c 18)), true), ((.le (.c 0) (.v 12)), true), ((.le (.v 12) (.c 4294967295)), true), ((.le (.c 0) (.v 40)), true), ((.le (.v 40) (.c 50)), true), ((.ap 3 (.a (.v 5) (.i (.v 40) .nil))), true), ((.le (.c 0) (.v 130)), true), ((.le (.v 130) (.c 50)), true), ((.le (.c 0) (.v 100)), true), ((.le (.v 100) (.c 50)), true), ((.le (.c 0) (.v 110)), true), ((.le (.v 110) (.c 255)), true), ((.le (.c 0) (.v 111)), true), ((.le (.v 111) (.c 255)), true), ((.le (.c 0) (.v 113)), true), ((.le (.v 113) (.c 1000000000)), true), ((.le (.c 0) (.v 114)), true), ((.le (.v 114) (.c 1000000000)), true), ((.ap 2 (.a (.v 100) (.i (.v 100) (.i (.v 110) (.i (.v 111) .nil))))), true)] (.exit .normal) (.loop (loopB (prm6 Tryd.prog).P 6 5) :: loopK (prm6 Tryd.prog).P 6 5)
noncomputable def vp1x25 : Vl := .dead [((.le vp1e2 (.c 18446744073709551615)), false), ((.le (.c 0) vp1e2), true), ((.eq vp1e33 (.c 3)), true), ((.eq vp1e33 (.c 2)), false), ((.eq vp1e33 (.c 1)), false), ((.eq vp1e33 (.c 0)), false), ((.le vp1e33 (.c 3)), true), ((.le (.c 0) vp1e33), true), ((.lt (.v 130) (.v 40)), true), ((.le (.c 4) (.v 9)), true), ((.le (.v 9) (.c 18)), true), ((.le (.c 0) (.v 12)), true), ((.le (.v 12) (.c 4294967295)), true), ((.le (.c 0) (.v 40)), true), ((.le (.v 40) (.c 50)), true), ((.ap 3 (.a (.v 5) (.i (.v 40) .nil))), true), ((.le (.c 0) (.v 130)), true), ((.le (.v 130) (.c 50)), true), ((.le (.c 0) (.v 100)), true), ((.le (.v 100) (.c 50)), true), ((.le (.c 0) (.v 110)), true), ((.le (.v 110) (.c 255)), true), ((.le (.c 0) (.v 111)), true), ((.le (.v 111) (.c 255)), true), ((.le (.c 0) (.v 113)), true), ((.le (.v 113) (.c 1000000000)), true), ((.le (.c 0) (.v 114)), true), ((.le (.v 114) (.c 1000000000)), true), ((.ap 2 (.a (.v 100) (.i (.v 100) (.i (.v 110) (.i (.v 111) .nil))))), true)]
noncomputable def vp1x26 : Vl := .dead [((.le (.c 0) vp1e2), false), ((.eq vp1e33 (.c 3)), true), ((.eq vp1e33 (.c 2)), false), ((.eq vp1e33 (.c 1)), false), ((.eq vp1e33 (.c 0)), false), ((.le vp1e33 (.c 3)), true), ((.le (.c 0) vp1e33), true), ((.lt (.v 130) (.v 40)), true), ((.le (.c 4) (.v 9)), true), ((.le (.v 9) (.c 18)), true), ((.le (.c 0) (.v 12)), true), ((.le (.v 12) (.c 4294967295)), true), ((.le (.c 0) (.v 40)), true), ((.le (.v 40) (.c 50)), true), ((.ap 3 (.a (.v 5) (.i (.v 40) .nil))), true), ((.le (.c 0) (.v 130)), true), ((.le (.v 130) (.c 50)), true), ((.le (.c 0) (.v 100)), true), ((.le (.v 100) (.c 50)), true), ((.le (.c 0) (.v 110)), true), ((.le (.v 110) (.c 255)), true), ((.le (.c 0) (.v 111)), true), ((.le (.v 111) (.c 255)), true), ((.le (.c 0) (.v 113)), true), ((.le (.v 113) (.c 1000000000)), true), ((.le (.c 0) (.v 114)), true), ((.le (.v 114) (.c 1000000000)), true), ((.ap 2 (.a (.v 100) (.i (.v 100) (.i (.v 110) (.i (.v 111) .nil))))), true)]
noncomputable def vp1x27 : Vl := .go 1 [(130, vp1e10)] [] [(124, vp1e40), (123, vp1e22), (122, vp1e41), (121, vp1e25), (120, vp1e34)] [((.eq vp1e33 (.c 3)), false), ((.eq vp1e33 (.c 2)), false), ((.eq vp1e33 (.c 1)), false), ((.eq vp1e33 (.c 0)), false), ((.le vp1e33 (.c 3)), true), ((.le (.c 0) vp1e33), true), ((.lt (.v 130) (.v 40)), true), ((.le (.c 4) (.v 9)), true), ((.le (.v 9) (.c 18)), true), ((.le (.c 0) (.v 12)), true), ((.le (.v 12) (.c 4294967295)), true), ((.le (.c 0) (.v 40)), true), ((.le (.v 40) (.c 50)), true), ((.ap 3 (.a (.v 5) (.i (.v 40) .nil))), true), ((.le (.c 0) (.v 130)), true), ((.le (.v 130) (.c 50)), true), ((.le (.c 0) (.v 100)), true), ((.le (.v 100) (.c 50)), true), ((.le (.c 0) (.v 110)), true), ((.le (.v 110) (.c 255)), true), ((.le (.c 0) (.v 111)), true), ((.le (.v 111) (.c 255)), true), ((.le (.c 0) (.v 113)), true), ((.le (.v 113) (.c 1000000000)), true), ((.le (.c 0) (.v 114)), true), ((.le (.v 114) (.c 1000000000)), true), ((.ap 2 (.a (.v 100) (.i (.v 100) (.i (.v 110) (.i (.v 111) .nil))))), true)] (.exit .normal) (.loop (loopB (prm6 Tryd.prog).P 6 5) :: loopK (prm6 Tryd.prog).P 6 5)
noncomputable def vp1x28 : Vl := .dead [((.le vp1e33 (.c 3)), false), ((.le (.c 0) vp1e33), true), ((.lt (.v 130) (.v 40)), true), ((.le (.c 4) (.v 9)), true), ((.le (.v 9) (.c 18)), true), ((.le (.c 0) (.v 12)), true), ((.le (.v 12) (.c 4294967295)), true), ((.le (.c 0) (.v 40)), true), ((.le (.v 40) (.c 50)), true), ((.ap 3 (.a (.v 5) (.i (.v 40) .nil))), true), ((.le (.c 0) (.v 130)), true), ((.le (.v 130) (.c 50)), true), ((.le (.c 0) (.v 100)), true), ((.le (.v 100) (.c 50)), true), ((.le (.c 0) (.v 110)), true), ((.le (.v 110) (.c 255)), true), ((.le (.c 0) (.v 111)), true), ((.le (.v 111) (.c 255)), true), ((.le (.c 0) (.v 113)), true), ((.le (.v 113) (.c 1000000000)), true), ((.le (.c 0) (.v 114)), true), ((.le (.v 114) (.c 1000000000)), true), ((.ap 2 (.a (.v 100) (.i (.v 100) (.i (.v 110) (.i (.v 111) .nil))))), true)]
noncomputable def vp1x29 : Vl := .dead [((.le (.c 0) vp1e33), false), ((.lt (.v 130) (.v 40)), true), ((.le (.c 4) (.v 9)), true), ((.le (.v 9) (.c 18)), true), ((.le (.c 0) (.v 12)), true), ((.le (.v 12) (.c 4294967295)), true), ((.le (.c 0) (.v 40)), true), ((.le (.v 40) (.c 50)), true), ((.ap 3 (.a (.v 5) (.i (.v 40) .nil))), true), ((.le (.c 0) (.v 130)), true), ((.le (.v 130) (.c 50)), true), ((.le (.c 0) (.v 100)), true), ((.le (.v 100) (.c 50)), true), ((.le (.c 0) (.v 110)), true), ((.le (.v 110) (.c 255)), true), ((.le (.c 0) (.v 111)), true), ((.le (.v 111) (.c 255)), true), ((.le (.c 0) (.v 113)), true), ((.le (.v 113) (.c 1000000000)), true), ((.le (.c 0) (.v 114)), true), ((.le (.v 114) (.c 1000000000)), true), ((.ap 2 (.a (.v 100) (.i (.v 100) (.i (.v 110) (.i (.v 111) .nil))))), true)]
noncomputable def vp1x30 : Vl := .out 0 [.a (.v 5) (.v 5) (.v 40) 5, .i (.v 40) (.v 40), .p 1000 (.i (.v 130) (.a (.v 120) (.a (.v 121) (.a (.v 122) (.a (.v 123) (.a (.v 124) .nil)))))) (.i (.v 40) (.a vp1e57 (.a (.v 500) (.a vp1e58 (.a (.v 501) (.a vp1e59 .nil))))))] [((.lt (.v 130) (.v 40)), false), ((.le (.c 4) (.v 9)), true), ((.le (.v 9) (.c 18)), true), ((.le (.c 0) (.v 12)), true), ((.le (.v 12) (.c 4294967295)), true), ((.le (.c 0) (.v 40)), true), ((.le (.v 40) (.c 50)), true), ((.ap 3 (.a (.v 5) (.i (.v 40) .nil))), true), ((.le (.c 0) (.v 130)), true), ((.le (.v 130) (.c 50)), true), ((.le (.c 0) (.v 100)), true), ((.le (.v 100) (.c 50)), true), ((.le (.c 0) (.v 110)), true), ((.le (.v 110) (.c 255)), true), ((.le (.c 0) (.v 111)), true), ((.le (.v 111) (.c 255)), true), ((.le (.c 0) (.v 113)), true), ((.le (.v 113) (.c 1000000000)), true), ((.le (.c 0) (.v 114)), true), ((.le (.v 114) (.c 1000000000)), true), ((.ap 2 (.a (.v 100) (.i (.v 100) (.i (.v 110) (.i (.v 111) .nil))))), true)]
noncomputable def vp1ls : List Vl := [vp1x0, vp1x1, vp1x2, vp1x3, vp1x4, vp1x5, vp1x6, vp1x7, vp1x8, vp1x9, vp1x10, vp1x11, vp1x12, vp1x13, vp1x14, vp1x15, vp1x16, vp1x17, vp1x18, vp1x19, vp1x20, vp1x21, vp1x22, vp1x23, vp1x24, vp1x25, vp1x26, vp1x27, vp1x28, vp1x29, vp1x30]
theorem vp1run : (run (prm6 Tryd.prog) 900 (ptD (pts6 Tryd.prog) 1 6)).map (vOf (prm6 Tryd.prog) ct6 (pts6 Tryd.prog)) = vp1ls := by kernel_rfl
-- 31 ways; terms: vp1e0, vp1e1, vp1e2, vp1e3, vp1e4, vp1e5, vp1e6, vp1e7, vp1e8, vp1e9, vp1e10, vp1e11, vp1e12, vp1e13, vp1e14, vp1e15, vp1e16, vp1e17, vp1e18, vp1e19, vp1e20, vp1e21, vp1e22, vp1e23, vp1e24, vp1e25, vp1e26, vp1e27, vp1e28, vp1e29, vp1e30, vp1e31, vp1e32, vp1e33, vp1e34, vp1e35, vp1e36, vp1e37, vp1e38, vp1e39, vp1e40, vp1e41, vp1e42, vp1e43, vp1e44, vp1e45, vp1e46, vp1e47, vp1e48, vp1e49, vp1e50, vp1e51, vp1e52, vp1e53, vp1e54, vp1e55, vp1e56, vp1e57, vp1e58, vp1e59
structure P6 (E : Env) : Prop where
  r0 : 0 ≤ E.i 12
  n0 : 0 ≤ E.i 40
  n1 : E.i 40 ≤ 50
  S : SOk (E.a 5) (E.i 40).toNat
theorem pre6 {E : Env} (hE : E.fn = fns) (hF : Facts E ct6.pre) : P6 E := by
  have hF' : Facts E [((.le (.c 4) (.v 9)), true), ((.le (.v 9) (.c 18)), true), ((.le (.c 0) (.v 12)), true), ((.le (.v 12) (.c 4294967295)), true), ((.le (.c 0) (.v 40)), true), ((.le (.v 40) (.c 50)), true), ((.ap 3 (.a (.v 5) (.i (.v 40) .nil))), true)] := hF
  simp only [facts_cons, facts_nil, le_t, eq_t, d_c, d_v, and_true] at hF'
  obtain ⟨a1, a2, a3, a4, a5, a6, a7⟩ := hF'
  refine ⟨a3, a5, a6, ?_⟩
  have e' : E.fn.g 3 [.a ((AE.v 5).den E), .i (E.i 40)] = true := a7
  rw [hE] at e'
  have e2 : @decide (SOk ((AE.v 5).den E) (E.i 40).toNat) (Classical.propDecidable _) = true := e'
  exact @of_decide_eq_true _ (Classical.propDecidable _) e2
theorem ct6_ok : CtOk Tryd.prog fns ct6 := by
  refine ct_of_ptsX (p := prm6 Tryd.prog) (pts := pts6 Tryd.prog) (n := 900) (c0 := enterD (prm6 Tryd.prog) ct6) (fun E hE => prm6_ok E hE) rfl (by intro q hq; cases hq) Tryd.func6 (by kernel_rfl) ?_ (fun E0 j E => ∃ i, I6 E0 E i (decide (j = 1))) (fun E0 _ E => (E0.i 40 - E.i 130).toNat) vals varun ?_ ?_
  · intro t ht
    simp only [pts6, List.mem_cons, List.not_mem_nil, or_false] at ht
    rcases ht with rfl | rfl
    · exact ⟨by kernel_rfl, by decide⟩
    · exact ⟨by kernel_rfl, by decide⟩
  · intro E0 hE0 hF
    refine ⟨fun a ha => (by cases ha; intro q hq; cases hq), fun E H1 _ x hx => ?_⟩
    unfold vals at hx
    simp only [List.mem_cons, List.not_mem_nil, or_false] at hx
    subst hx
    intro hf
    have H : AgP 100 E0 E := AgP.trans (by omega) (AgP.refl 100 E0) H1.p
    exact ⟨⟨_, rfl, .inl ⟨rfl, rfl⟩⟩, fun o => ⟨⟨0, { ag := H.put o, i130 := rfl, le := Nat.zero_le _, q0 := rfl, q1 := rfl, c := rfl, h := rfl, p := rfl, r := rfl, b := rfl, t := rfl, A := fun t ht => absurd ht (Nat.not_lt_zero _), L := fun t ht => absurd ht (Nat.not_lt_zero _), C := fun k hk => absurd hk (Nat.not_lt_zero _) }⟩, fun b hb => by cases hb⟩⟩
  · intro k t ht
    have hk : k = 0 ∨ k = 1 := by
      have := (List.getElem?_eq_some_iff.1 ht).1
      simp [pts6] at this; omega
    rcases hk with rfl | rfl
    · -- point 0
      refine ⟨vp0ls, by rw [← ptD_some ht ct6.g]; exact vp0run, fun E0 E1 hE0 hE1 hF0 ⟨i, hI⟩ => ?_⟩
      have P := pre6 hE0 hF0
      obtain ⟨n, hn⟩ : ∃ n : Nat, E0.i 40 = n := ⟨(E0.i 40).toNat, by have := P.n0; omega⟩
      have hnt : (E0.i 40).toNat = n := by omega
      have hn50 : n ≤ 50 := by have := P.n1; omega
      have hle := hI.le
      rw [hnt] at hle
      have hSo := P.S
      rw [hnt] at hSo
      have hQ := stq_ok hSo P.r0 i hle
      refine ⟨?_, fun E H1 _ x hx => ?_⟩
      · obtain rfl := Option.some.inj ht
        have hq := hQ.n; have hpk := hQ.p1
        have hp0 := hQ.p0; have hc0 := hQ.c0; have hc1 := hQ.c1; have hh0 := hQ.h0; have hha := hQ.ha; have hr0 := hQ.r0; have hr1 := hQ.r1
        have k0 := hI.i130; have k1 := hI.q0; have k2 := hI.c; have k3 := hI.h; have k4 := hI.p; have k5 := hI.r
        refine facts_append (facts_append (facts_append (facts_append (facts_append (facts_append (facts_append (hI.ag.facts (by decide) hF0) ?_) ?_) ?_) ?_) ?_) ?_) ?_
        · show Facts E1 [((.le (.c 0) (.v 130)), true), ((.le (.v 130) (.c 50)), true)]
          simp only [facts_cons, facts_nil, le_t, d_c, d_v, and_true]; omega
        · show Facts E1 [((.le (.c 0) (.v 100)), true), ((.le (.v 100) (.c 50)), true)]
          simp only [facts_cons, facts_nil, le_t, d_c, d_v, and_true]; omega
        · show Facts E1 [((.le (.c 0) (.v 110)), true), ((.le (.v 110) (.c 255)), true)]
          simp only [facts_cons, facts_nil, le_t, d_c, d_v, and_true]; omega
        · show Facts E1 [((.le (.c 0) (.v 111)), true), ((.le (.v 111) (.c 255)), true)]
          simp only [facts_cons, facts_nil, le_t, d_c, d_v, and_true]; omega
        · show Facts E1 [((.le (.c 0) (.v 113)), true), ((.le (.v 113) (.c 1000000000)), true)]
          simp only [facts_cons, facts_nil, le_t, d_c, d_v, and_true]; omega
        · show Facts E1 [((.le (.c 0) (.v 114)), true), ((.le (.v 114) (.c 1000000000)), true)]
          simp only [facts_cons, facts_nil, le_t, d_c, d_v, and_true]; omega
        · show Facts E1 [((.ap 2 (.a (.v 100) (.i (.v 100) (.i (.v 110) (.i (.v 111) .nil))))), true)]
          intro q hq
          have : q = ((.ap 2 (.a (.v 100) (.i (.v 100) (.i (.v 110) (.i (.v 111) .nil))))), true) := by simpa using hq
          subst this
          show E1.fn.g 2 [.a ((AE.v 100).den E1), .i (E1.i 100), .i (E1.i 110), .i (E1.i 111)] = true
          rw [hE1]
          show @decide (QOk ((AE.v 100).den E1) (E1.i 100).toNat (E1.i 110) (E1.i 111)) (Classical.propDecidable _) = true
          rw [show (AE.v 100).den E1 = E1.a 100 from by funext j; simp only [AE.den], hI.q1, hI.q0, Int.toNat_natCast, hI.c, hI.h]
          exact @decide_eq_true _ (Classical.propDecidable _) (qok_of hQ)
      · have hE : E.fn = fns := H1.fn.trans hE1
        have hJ := hI.up H1
        have hi := hJ.i130
        have S5 : E.a 5 = E0.a 5 := hJ.ag.a 5 (by decide)
        have r12 : E.i 12 = E0.i 12 := hJ.ag.i 12 (by decide)
        have x0 : vp0e32.den E = E0.a 5 (i * 5) := by
          show E.a 5 (E.i 130 * 5).toNat = _
          rw [S5, hi, show ((i : Int) * 5).toNat = i * 5 by omega]
        have x1 : vp0e2.den E = E0.a 5 (i * 5 + 1) := by
          show E.a 5 (E.i 130 * 5 + 1).toNat = _
          rw [S5, hi, show ((i : Int) * 5 + 1).toNat = i * 5 + 1 by omega]
        have x2 : vp0e4.den E = E0.a 5 (i * 5 + 2) := by
          show E.a 5 (E.i 130 * 5 + 2).toNat = _
          rw [S5, hi, show ((i : Int) * 5 + 2).toNat = i * 5 + 2 by omega]
        have x3 : vp0e31.den E = E0.a 5 (i * 5 + 3) := by
          show E.a 5 (E.i 130 * 5 + 3).toNat = _
          rw [S5, hi, show ((i : Int) * 5 + 3).toNat = i * 5 + 3 by omega]
        have x4 : vp0e29.den E = E0.a 5 (i * 5 + 4) := by
          show E.a 5 (E.i 130 * 5 + 4).toNat = _
          rw [S5, hi, show ((i : Int) * 5 + 4).toNat = i * 5 + 4 by omega]
        have n10 := e10 hE hJ vp0e2 vp0e4
        have n10a := ea10 hE hJ vp0e2 vp0e4
        have n11 := e11 hE hJ vp0e2 vp0e4
        have n12 := e12 hE hJ vp0e2 vp0e4
        have n13 := e13 hE hJ vp0e2 vp0e4
        have n13a := ea13 hE hJ vp0e2 vp0e4
        have gu := eg10 hE hJ vp0e2 vp0e4
        have gs := eg11 hE hJ
        rw [x1, x2] at n10 n10a n11 n12 n13 n13a gu
        have b192 : (vp0e11.den E).toNat = i * 192 := by
          show (E.i 130 * 192).toNat = _
          omega
        have b6 : (vp0e25.den E).toNat = i * 6 := by
          show (E.i 130 * 6).toNat = _
          omega
        have b3 : (vp0e20.den E).toNat = i * 3 := by
          show (E.i 130 * 3).toNat = _
          omega
        have b1 : ∀ e : SE, e = .add vp0e11 (.c 64) → (e.den E).toNat = i * 192 + 64 := fun e he => by
          rw [he]
          show (E.i 130 * 192 + 64).toNat = _
          omega
        have b2 : ∀ e : SE, e = .add vp0e11 (.c 128) → (e.den E).toNat = i * 192 + 128 := fun e he => by
          rw [he]
          show (E.i 130 * 192 + 128).toNat = _
          omega
        have hlt : (SB.lt (.v 130) (.v 40)).den E = true → i < n := fun h => by
          have q40 := hJ.ag.i 40 (by decide)
          simp only [lt_t, d_v] at h; omega
        have hrl := adR_len (stq (E0.a 5) (E0.i 12) i).q (stq (E0.a 5) (E0.i 12) i).act (stq (E0.a 5) (E0.i 12) i).hi (E0.a 5 (i * 5 + 1)) (E0.a 5 (i * 5 + 2))
        have hqn := hQ.n
        have htok := hJ.t
        have hhd : vp0e42.den E = (stq (E0.a 5) (E0.i 12) i).q.headD 0 := by
          show E.a 100 0 = _
          rw [hJ.q1, headD_arr]
        have hbnd : ∀ b : Nat, (∀ o : Nat → Value, True) → True := fun _ _ => trivial
        unfold vp0ls at hx
        simp only [List.mem_cons, List.not_mem_nil, or_false] at hx
        rcases hx with rfl | rfl | rfl | rfl | rfl | rfl | rfl | rfl | rfl | rfl | rfl | rfl | rfl | rfl | rfl | rfl | rfl | rfl | rfl | rfl | rfl | rfl | rfl | rfl | rfl | rfl | rfl | rfl | rfl | rfl | rfl
        · intro hf
          have hl := hlt (hf (SB.lt (.v 130) (.v 40), true) (by simp))
          obtain ⟨⟨k0, k1⟩, ⟨s0, s1⟩, ⟨p0, p1⟩, hz⟩ := hSo i hl
          have hk := hf (SB.eq vp0e32 (.c 0), true) (by simp)
          rw [eq_t, x0, d_c] at hk
          have hu := hf (SB.ap 10 (.i (.v 110) (.i (.v 111) (.i vp0e2 (.i vp0e4 .nil)))), true) (by simp)
          rw [gu] at hu
          obtain ⟨w1, w2, w3, w4, w5, w6⟩ := way0u hk hu
          have hc := hf (SB.le (.c 4) vp0e5, true) (by simp)
          rw [le_t, d_c, (show vp0e5.den E = _ from n10)] at hc
          rw [if_pos (by omega)] at w1
          obtain ⟨z1, z2, z3⟩ := hz hk
          rw [htok] at w5
          change offAt (E0.a 5) (E0.i 12) i = [] at w5
          refine ⟨⟨_, rfl, .inr ⟨rfl, rfl⟩⟩, fun o => ⟨⟨i + 1, hJ.step (tk' := true) (by rw [hnt]; exact hl) (by rw [hnt]; exact hn50) P.S P.r0 (hJ.ag.put o) rfl w6 (n10) (n10a) (n11) (n12) (rfl) (by show 5000 + (E.i 12).tmod 10000 = _; rw [r12]; rfl) (hJ.b) (rfl)
            (lA := fun u => SL.nth E ((.i (.c 9) (.i (.c (-1)) (.b (.c false) (.i (.c 0) (.i (.c 0) (.i (.c 0) .nil))))))) u) (lL := fun u => SL.nth E ((.i vp0e22 (.i (.c 1) (.i (.c 0) .nil)))) u) (R := (AE.den E vp0e12)) (Ad := (AE.den E vp0e16)) (Of := (AE.den E (.v 22)))
            (fun t => tlE b6 t) (by rw [w1]; rfl) (by rw [w2]; rfl) (fun c h1 h2 => by
              have : c = 2 ∨ c = 3 ∨ c = 4 ∨ c = 5 := by omega
              rcases this with rfl | rfl | rfl | rfl <;> rfl)
            (fun t => tlE b3 t) (by rw [w3]; exact n13) (by rw [w4]; rfl) (by rw [w5]; rfl)
            (fun t => catE hE b192 (b1 vp0e14 rfl) (b2 vp0e18 rfl) t) (by rw [w3]; intro u hu; exact congrFun n13a u) (by rw [w4]; exact oneE n11) (by rw [w5]; intro u hu; cases hu)⟩, fun b hb => ?_⟩⟩
          obtain rfl := Option.some.inj hb
          show (E0.i 40 - (E.i 130 + 1)).toNat < (E0.i 40 - E1.i 130).toNat
          have := hI.i130
          omega
        · intro hf
          have h1 := hf (SB.le vp0e22 (.c 64), false) (by simp)
          have hl := hlt (hf (SB.lt (.v 130) (.v 40), true) (by simp))
          obtain ⟨⟨k0, k1⟩, ⟨s0, s1⟩, ⟨p0, p1⟩, hz⟩ := hSo i hl
          have h2 := hf (SB.eq vp0e32 (.c 0), true) (by simp)
          rw [eq_t, x0, d_c] at h2
          obtain ⟨z1, z2, z3⟩ := hz h2
          rw [le_f] at h1
          rw [(show vp0e22.den E = _ from n13), d_c] at h1
          omega
        · intro hf
          have hl := hlt (hf (SB.lt (.v 130) (.v 40), true) (by simp))
          obtain ⟨⟨k0, k1⟩, ⟨s0, s1⟩, ⟨p0, p1⟩, hz⟩ := hSo i hl
          have hk := hf (SB.eq vp0e32 (.c 0), true) (by simp)
          rw [eq_t, x0, d_c] at hk
          have hu := hf (SB.ap 10 (.i (.v 110) (.i (.v 111) (.i vp0e2 (.i vp0e4 .nil)))), true) (by simp)
          rw [gu] at hu
          obtain ⟨w1, w2, w3, w4, w5, w6⟩ := way0u hk hu
          have hc := hf (SB.le (.c 4) vp0e5, false) (by simp)
          rw [le_f, d_c, (show vp0e5.den E = _ from n10)] at hc
          rw [if_neg (by omega)] at w1
          obtain ⟨z1, z2, z3⟩ := hz hk
          rw [htok] at w5
          change offAt (E0.a 5) (E0.i 12) i = [] at w5
          refine ⟨⟨_, rfl, .inr ⟨rfl, rfl⟩⟩, fun o => ⟨⟨i + 1, hJ.step (tk' := true) (by rw [hnt]; exact hl) (by rw [hnt]; exact hn50) P.S P.r0 (hJ.ag.put o) rfl w6 (n10) (n10a) (n11) (n12) (rfl) (by show 5000 + (E.i 12).tmod 10000 = _; rw [r12]; rfl) (hJ.b) (rfl)
            (lA := fun u => SL.nth E ((.i (.c 0) (.i (.c (-1)) (.b (.c false) (.i (.c 0) (.i (.c 0) (.i (.c 0) .nil))))))) u) (lL := fun u => SL.nth E ((.i vp0e22 (.i (.c 1) (.i (.c 0) .nil)))) u) (R := (AE.den E vp0e12)) (Ad := (AE.den E vp0e16)) (Of := (AE.den E (.v 22)))
            (fun t => tlE b6 t) (by rw [w1]; rfl) (by rw [w2]; rfl) (fun c h1 h2 => by
              have : c = 2 ∨ c = 3 ∨ c = 4 ∨ c = 5 := by omega
              rcases this with rfl | rfl | rfl | rfl <;> rfl)
            (fun t => tlE b3 t) (by rw [w3]; exact n13) (by rw [w4]; rfl) (by rw [w5]; rfl)
            (fun t => catE hE b192 (b1 vp0e14 rfl) (b2 vp0e18 rfl) t) (by rw [w3]; intro u hu; exact congrFun n13a u) (by rw [w4]; exact oneE n11) (by rw [w5]; intro u hu; cases hu)⟩, fun b hb => ?_⟩⟩
          obtain rfl := Option.some.inj hb
          show (E0.i 40 - (E.i 130 + 1)).toNat < (E0.i 40 - E1.i 130).toNat
          have := hI.i130
          omega
        · intro hf
          have h1 := hf (SB.le vp0e22 (.c 64), false) (by simp)
          have hl := hlt (hf (SB.lt (.v 130) (.v 40), true) (by simp))
          obtain ⟨⟨k0, k1⟩, ⟨s0, s1⟩, ⟨p0, p1⟩, hz⟩ := hSo i hl
          have h2 := hf (SB.eq vp0e32 (.c 0), true) (by simp)
          rw [eq_t, x0, d_c] at h2
          obtain ⟨z1, z2, z3⟩ := hz h2
          rw [le_f] at h1
          rw [(show vp0e22.den E = _ from n13), d_c] at h1
          omega
        · intro hf
          have h1 := hf (SB.le (.c 0) vp0e5, false) (by simp)
          have hl := hlt (hf (SB.lt (.v 130) (.v 40), true) (by simp))
          obtain ⟨⟨k0, k1⟩, ⟨s0, s1⟩, ⟨p0, p1⟩, hz⟩ := hSo i hl
          have h2 := hf (SB.eq vp0e32 (.c 0), true) (by simp)
          rw [eq_t, x0, d_c] at h2
          obtain ⟨z1, z2, z3⟩ := hz h2
          rw [le_f] at h1
          rw [d_c, (show vp0e5.den E = _ from n10)] at h1
          omega
        · intro hf
          have hl := hlt (hf (SB.lt (.v 130) (.v 40), true) (by simp))
          obtain ⟨⟨k0, k1⟩, ⟨s0, s1⟩, ⟨p0, p1⟩, hz⟩ := hSo i hl
          have hk := hf (SB.eq vp0e32 (.c 0), true) (by simp)
          rw [eq_t, x0, d_c] at hk
          have hu := hf (SB.ap 10 (.i (.v 110) (.i (.v 111) (.i vp0e2 (.i vp0e4 .nil)))), false) (by simp)
          rw [gu] at hu
          obtain ⟨w1, w2, w3, w4, w5, w6⟩ := way0n hk hu
          have hc := hf (SB.le (.c 4) vp0e5, true) (by simp)
          rw [le_t, d_c, (show vp0e5.den E = _ from n10)] at hc
          rw [if_pos (by omega)] at w1
          obtain ⟨z1, z2, z3⟩ := hz hk
          refine ⟨⟨_, rfl, .inr ⟨rfl, rfl⟩⟩, fun o => ⟨⟨i + 1, hJ.step (tk' := false) (by rw [hnt]; exact hl) (by rw [hnt]; exact hn50) P.S P.r0 (hJ.ag.put o) rfl w6 (n10) (n10a) (hJ.c) (n12) (hJ.p) (hJ.r) (hJ.b) (htok)
            (lA := fun u => SL.nth E ((.i (.c 9) (.i (.c (-1)) (.b (.c false) (.i (.c 0) (.i (.c 0) (.i (.c 0) .nil))))))) u) (lL := fun u => SL.nth E ((.i vp0e22 (.i (.c 0) (.i (.c 0) .nil)))) u) (R := (AE.den E vp0e12)) (Ad := (AE.den E (.v 21))) (Of := (AE.den E (.v 22)))
            (fun t => tlE b6 t) (by rw [w1]; rfl) (by rw [w2]; rfl) (fun c h1 h2 => by
              have : c = 2 ∨ c = 3 ∨ c = 4 ∨ c = 5 := by omega
              rcases this with rfl | rfl | rfl | rfl <;> rfl)
            (fun t => tlE b3 t) (by rw [w3]; exact n13) (by rw [w4]; rfl) (by rw [w5]; rfl)
            (fun t => catE hE b192 (b1 vp0e14 rfl) (b2 vp0e18 rfl) t) (by rw [w3]; intro u hu; exact congrFun n13a u) (by rw [w4]; intro u hu; cases hu) (by rw [w5]; intro u hu; cases hu)⟩, fun b hb => ?_⟩⟩
          obtain rfl := Option.some.inj hb
          show (E0.i 40 - (E.i 130 + 1)).toNat < (E0.i 40 - E1.i 130).toNat
          have := hI.i130
          omega
        · intro hf
          have h1 := hf (SB.le vp0e22 (.c 64), false) (by simp)
          have hl := hlt (hf (SB.lt (.v 130) (.v 40), true) (by simp))
          obtain ⟨⟨k0, k1⟩, ⟨s0, s1⟩, ⟨p0, p1⟩, hz⟩ := hSo i hl
          have h2 := hf (SB.eq vp0e32 (.c 0), true) (by simp)
          rw [eq_t, x0, d_c] at h2
          obtain ⟨z1, z2, z3⟩ := hz h2
          rw [le_f] at h1
          rw [(show vp0e22.den E = _ from n13), d_c] at h1
          omega
        · intro hf
          have hl := hlt (hf (SB.lt (.v 130) (.v 40), true) (by simp))
          obtain ⟨⟨k0, k1⟩, ⟨s0, s1⟩, ⟨p0, p1⟩, hz⟩ := hSo i hl
          have hk := hf (SB.eq vp0e32 (.c 0), true) (by simp)
          rw [eq_t, x0, d_c] at hk
          have hu := hf (SB.ap 10 (.i (.v 110) (.i (.v 111) (.i vp0e2 (.i vp0e4 .nil)))), false) (by simp)
          rw [gu] at hu
          obtain ⟨w1, w2, w3, w4, w5, w6⟩ := way0n hk hu
          have hc := hf (SB.le (.c 4) vp0e5, false) (by simp)
          rw [le_f, d_c, (show vp0e5.den E = _ from n10)] at hc
          rw [if_neg (by omega)] at w1
          obtain ⟨z1, z2, z3⟩ := hz hk
          refine ⟨⟨_, rfl, .inr ⟨rfl, rfl⟩⟩, fun o => ⟨⟨i + 1, hJ.step (tk' := false) (by rw [hnt]; exact hl) (by rw [hnt]; exact hn50) P.S P.r0 (hJ.ag.put o) rfl w6 (n10) (n10a) (hJ.c) (n12) (hJ.p) (hJ.r) (hJ.b) (htok)
            (lA := fun u => SL.nth E ((.i (.c 0) (.i (.c (-1)) (.b (.c false) (.i (.c 0) (.i (.c 0) (.i (.c 0) .nil))))))) u) (lL := fun u => SL.nth E ((.i vp0e22 (.i (.c 0) (.i (.c 0) .nil)))) u) (R := (AE.den E vp0e12)) (Ad := (AE.den E (.v 21))) (Of := (AE.den E (.v 22)))
            (fun t => tlE b6 t) (by rw [w1]; rfl) (by rw [w2]; rfl) (fun c h1 h2 => by
              have : c = 2 ∨ c = 3 ∨ c = 4 ∨ c = 5 := by omega
              rcases this with rfl | rfl | rfl | rfl <;> rfl)
            (fun t => tlE b3 t) (by rw [w3]; exact n13) (by rw [w4]; rfl) (by rw [w5]; rfl)
            (fun t => catE hE b192 (b1 vp0e14 rfl) (b2 vp0e18 rfl) t) (by rw [w3]; intro u hu; exact congrFun n13a u) (by rw [w4]; intro u hu; cases hu) (by rw [w5]; intro u hu; cases hu)⟩, fun b hb => ?_⟩⟩
          obtain rfl := Option.some.inj hb
          show (E0.i 40 - (E.i 130 + 1)).toNat < (E0.i 40 - E1.i 130).toNat
          have := hI.i130
          omega
        · intro hf
          have h1 := hf (SB.le vp0e22 (.c 64), false) (by simp)
          have hl := hlt (hf (SB.lt (.v 130) (.v 40), true) (by simp))
          obtain ⟨⟨k0, k1⟩, ⟨s0, s1⟩, ⟨p0, p1⟩, hz⟩ := hSo i hl
          have h2 := hf (SB.eq vp0e32 (.c 0), true) (by simp)
          rw [eq_t, x0, d_c] at h2
          obtain ⟨z1, z2, z3⟩ := hz h2
          rw [le_f] at h1
          rw [(show vp0e22.den E = _ from n13), d_c] at h1
          omega
        · intro hf
          have h1 := hf (SB.le (.c 0) vp0e5, false) (by simp)
          have hl := hlt (hf (SB.lt (.v 130) (.v 40), true) (by simp))
          obtain ⟨⟨k0, k1⟩, ⟨s0, s1⟩, ⟨p0, p1⟩, hz⟩ := hSo i hl
          have h2 := hf (SB.eq vp0e32 (.c 0), true) (by simp)
          rw [eq_t, x0, d_c] at h2
          obtain ⟨z1, z2, z3⟩ := hz h2
          rw [le_f] at h1
          rw [d_c, (show vp0e5.den E = _ from n10)] at h1
          omega
        · intro hf
          have h1 := hf (SB.le vp0e29 (.c 255), false) (by simp)
          have hl := hlt (hf (SB.lt (.v 130) (.v 40), true) (by simp))
          obtain ⟨⟨k0, k1⟩, ⟨s0, s1⟩, ⟨p0, p1⟩, hz⟩ := hSo i hl
          have h2 := hf (SB.eq vp0e32 (.c 0), true) (by simp)
          rw [eq_t, x0, d_c] at h2
          obtain ⟨z1, z2, z3⟩ := hz h2
          rw [le_f] at h1
          rw [x4, d_c] at h1
          omega
        · intro hf
          have h1 := hf (SB.le (.c 0) vp0e29, false) (by simp)
          have hl := hlt (hf (SB.lt (.v 130) (.v 40), true) (by simp))
          obtain ⟨⟨k0, k1⟩, ⟨s0, s1⟩, ⟨p0, p1⟩, hz⟩ := hSo i hl
          have h2 := hf (SB.eq vp0e32 (.c 0), true) (by simp)
          rw [eq_t, x0, d_c] at h2
          obtain ⟨z1, z2, z3⟩ := hz h2
          rw [le_f] at h1
          rw [d_c, x4] at h1
          omega
        · intro hf
          have h1 := hf (SB.le vp0e31 (.c 255), false) (by simp)
          have hl := hlt (hf (SB.lt (.v 130) (.v 40), true) (by simp))
          obtain ⟨⟨k0, k1⟩, ⟨s0, s1⟩, ⟨p0, p1⟩, hz⟩ := hSo i hl
          have h2 := hf (SB.eq vp0e32 (.c 0), true) (by simp)
          rw [eq_t, x0, d_c] at h2
          obtain ⟨z1, z2, z3⟩ := hz h2
          rw [le_f] at h1
          rw [x3, d_c] at h1
          omega
        · intro hf
          have h1 := hf (SB.le (.c 0) vp0e31, false) (by simp)
          have hl := hlt (hf (SB.lt (.v 130) (.v 40), true) (by simp))
          obtain ⟨⟨k0, k1⟩, ⟨s0, s1⟩, ⟨p0, p1⟩, hz⟩ := hSo i hl
          have h2 := hf (SB.eq vp0e32 (.c 0), true) (by simp)
          rw [eq_t, x0, d_c] at h2
          obtain ⟨z1, z2, z3⟩ := hz h2
          rw [le_f] at h1
          rw [d_c, x3] at h1
          omega
        · intro hf
          have h1 := hf (SB.eq vp0e29 vp0e2, false) (by simp)
          have hl := hlt (hf (SB.lt (.v 130) (.v 40), true) (by simp))
          obtain ⟨⟨k0, k1⟩, ⟨s0, s1⟩, ⟨p0, p1⟩, hz⟩ := hSo i hl
          have h2 := hf (SB.eq vp0e32 (.c 0), true) (by simp)
          rw [eq_t, x0, d_c] at h2
          obtain ⟨z1, z2, z3⟩ := hz h2
          have h1 : ¬ vp0e29.den E = vp0e2.den E := by simpa [SB.den, SE.den] using h1
          rw [x4, x1] at h1
          omega
        · intro hf
          have h1 := hf (SB.eq vp0e31 vp0e2, false) (by simp)
          have hl := hlt (hf (SB.lt (.v 130) (.v 40), true) (by simp))
          obtain ⟨⟨k0, k1⟩, ⟨s0, s1⟩, ⟨p0, p1⟩, hz⟩ := hSo i hl
          have h2 := hf (SB.eq vp0e32 (.c 0), true) (by simp)
          rw [eq_t, x0, d_c] at h2
          obtain ⟨z1, z2, z3⟩ := hz h2
          have h1 : ¬ vp0e31.den E = vp0e2.den E := by simpa [SB.den, SE.den] using h1
          rw [x3, x1] at h1
          omega
        · intro hf
          have h1 := hf (SB.le vp0e4 vp0e2, false) (by simp)
          have hl := hlt (hf (SB.lt (.v 130) (.v 40), true) (by simp))
          obtain ⟨⟨k0, k1⟩, ⟨s0, s1⟩, ⟨p0, p1⟩, hz⟩ := hSo i hl
          have h2 := hf (SB.eq vp0e32 (.c 0), true) (by simp)
          rw [eq_t, x0, d_c] at h2
          obtain ⟨z1, z2, z3⟩ := hz h2
          rw [le_f] at h1
          rw [x2, x1] at h1
          omega
        · intro hf
          have h1 := hf (SB.le vp0e4 (.c 255), false) (by simp)
          have hl := hlt (hf (SB.lt (.v 130) (.v 40), true) (by simp))
          obtain ⟨⟨k0, k1⟩, ⟨s0, s1⟩, ⟨p0, p1⟩, hz⟩ := hSo i hl
          have h2 := hf (SB.eq vp0e32 (.c 0), true) (by simp)
          rw [eq_t, x0, d_c] at h2
          obtain ⟨z1, z2, z3⟩ := hz h2
          rw [le_f] at h1
          rw [x2, d_c] at h1
          omega
        · intro hf
          have h1 := hf (SB.le (.c 0) vp0e4, false) (by simp)
          have hl := hlt (hf (SB.lt (.v 130) (.v 40), true) (by simp))
          obtain ⟨⟨k0, k1⟩, ⟨s0, s1⟩, ⟨p0, p1⟩, hz⟩ := hSo i hl
          have h2 := hf (SB.eq vp0e32 (.c 0), true) (by simp)
          rw [eq_t, x0, d_c] at h2
          obtain ⟨z1, z2, z3⟩ := hz h2
          rw [le_f] at h1
          rw [d_c, x2] at h1
          omega
        · intro hf
          have h1 := hf (SB.le vp0e2 (.c 255), false) (by simp)
          have hl := hlt (hf (SB.lt (.v 130) (.v 40), true) (by simp))
          obtain ⟨⟨k0, k1⟩, ⟨s0, s1⟩, ⟨p0, p1⟩, hz⟩ := hSo i hl
          have h2 := hf (SB.eq vp0e32 (.c 0), true) (by simp)
          rw [eq_t, x0, d_c] at h2
          obtain ⟨z1, z2, z3⟩ := hz h2
          rw [le_f] at h1
          rw [x1, d_c] at h1
          omega
        · intro hf
          have h1 := hf (SB.le (.c 0) vp0e2, false) (by simp)
          have hl := hlt (hf (SB.lt (.v 130) (.v 40), true) (by simp))
          obtain ⟨⟨k0, k1⟩, ⟨s0, s1⟩, ⟨p0, p1⟩, hz⟩ := hSo i hl
          have h2 := hf (SB.eq vp0e32 (.c 0), true) (by simp)
          rw [eq_t, x0, d_c] at h2
          obtain ⟨z1, z2, z3⟩ := hz h2
          rw [le_f] at h1
          rw [d_c, x1] at h1
          omega
        · intro hf
          have hl := hlt (hf (SB.lt (.v 130) (.v 40), true) (by simp))
          obtain ⟨⟨k0, k1⟩, ⟨s0, s1⟩, ⟨p0, p1⟩, hz⟩ := hSo i hl
          have hk := hf (SB.eq vp0e32 (.c 1), true) (by simp)
          rw [eq_t, x0, d_c] at hk
          obtain ⟨w1, w2, w3, w4, w5, w6⟩ := way1 hk
          refine ⟨⟨_, rfl, .inr ⟨rfl, rfl⟩⟩, fun o => ⟨⟨i + 1, hJ.step (tk' := false) (by rw [hnt]; exact hl) (by rw [hnt]; exact hn50) P.S P.r0 (hJ.ag.put o) rfl w6 (hJ.q0) (hJ.q1) (hJ.c) (hJ.h) (hJ.p) (hJ.r) (rfl) (htok)
            (lA := fun u => SL.nth E ((.i (.c 0) (.i (.c (-1)) (.b (.c false) (.i (.c 0) (.i (.c 0) (.i (.c 0) .nil))))))) u) (lL := fun u => SL.nth E ((.i (.c 0) (.i (.c 0) (.i (.c 0) .nil)))) u) (R := (AE.den E (.v 20))) (Ad := (AE.den E (.v 21))) (Of := (AE.den E (.v 22)))
            (fun t => tlE b6 t) (by rw [w1]; rfl) (by rw [w2]; rfl) (fun c h1 h2 => by
              have : c = 2 ∨ c = 3 ∨ c = 4 ∨ c = 5 := by omega
              rcases this with rfl | rfl | rfl | rfl <;> rfl)
            (fun t => tlE b3 t) (by rw [w3]; rfl) (by rw [w4]; rfl) (by rw [w5]; rfl)
            (fun t => catE hE b192 (b1 vp0e14 rfl) (b2 vp0e18 rfl) t) (by rw [w3]; intro u hu; cases hu) (by rw [w4]; intro u hu; cases hu) (by rw [w5]; intro u hu; cases hu)⟩, fun b hb => ?_⟩⟩
          obtain rfl := Option.some.inj hb
          show (E0.i 40 - (E.i 130 + 1)).toNat < (E0.i 40 - E1.i 130).toNat
          have := hI.i130
          omega
        · intro hf
          have hl := hlt (hf (SB.lt (.v 130) (.v 40), true) (by simp))
          obtain ⟨⟨k0, k1⟩, ⟨s0, s1⟩, ⟨p0, p1⟩, hz⟩ := hSo i hl
          have hk := hf (SB.eq vp0e32 (.c 2), true) (by simp)
          rw [eq_t, x0, d_c] at hk
          have hu := hf (SB.ap 11 (.b (.v 100) (.i (.v 100) (.i (.v 110) (.i (.v 113) (.i (.v 114) .nil))))), true) (by simp)
          rw [gs] at hu
          obtain ⟨w1, w2, w3, w4, w5, w6⟩ := way2u hk hu
          obtain ⟨hpos, hQn⟩ := hQ.next hu P.r0
          have hbd := hQn.c0
          have hbd1 := hQn.c1
          rw [htok] at w5
          change offAt (E0.a 5) (E0.i 12) i = [] at w5
          refine ⟨⟨_, rfl, .inr ⟨rfl, rfl⟩⟩, fun o => ⟨⟨i + 1, hJ.step (tk' := true) (by rw [hnt]; exact hl) (by rw [hnt]; exact hn50) P.S P.r0 (hJ.ag.put o) rfl w6 (by show E.i 100 - 1 = _; rw [hJ.q0, List.length_tail]; omega) (by funext t; rw [arr_tail, ← hJ.q1]; show (AE.dr (.v 100) (.c 1)).den E t = _; simp only [AE.den, SE.den]; rfl) (hhd) (hJ.c) (rfl) (by show 5000 + (E.i 12).tmod 10000 = _; rw [r12]; rfl) (hJ.b) (rfl)
            (lA := fun u => SL.nth E ((.i (.c 0) (.i vp0e50 (.b (.c false) (.i (.c 0) (.i (.c 0) (.i (.c 0) .nil))))))) u) (lL := fun u => SL.nth E ((.i (.c 1) (.i (.c 1) (.i (.c 0) .nil)))) u) (R := (AE.den E vp0e43)) (Ad := (AE.den E vp0e45)) (Of := (AE.den E (.v 22)))
            (fun t => tlE b6 t) (by rw [w1]; rfl) (by rw [w2]; show bits .or .i64 0 (IntKind.i64.wrap (vp0e42.den E)) = _; rw [hhd]; exact wrap255 hbd hbd1) (fun c h1 h2 => by
              have : c = 2 ∨ c = 3 ∨ c = 4 ∨ c = 5 := by omega
              rcases this with rfl | rfl | rfl | rfl <;> rfl)
            (fun t => tlE b3 t) (by rw [w3]; rfl) (by rw [w4]; rfl) (by rw [w5]; rfl)
            (fun t => catE hE b192 (b1 vp0e14 rfl) (b2 vp0e18 rfl) t) (by rw [w3]; exact oneE hJ.c) (by rw [w4]; exact oneE hhd) (by rw [w5]; intro u hu; cases hu)⟩, fun b hb => ?_⟩⟩
          obtain rfl := Option.some.inj hb
          show (E0.i 40 - (E.i 130 + 1)).toNat < (E0.i 40 - E1.i 130).toNat
          have := hI.i130
          omega
        · intro hf
          have hl := hlt (hf (SB.lt (.v 130) (.v 40), true) (by simp))
          obtain ⟨⟨k0, k1⟩, ⟨s0, s1⟩, ⟨p0, p1⟩, hz⟩ := hSo i hl
          have hk := hf (SB.eq vp0e32 (.c 2), true) (by simp)
          rw [eq_t, x0, d_c] at hk
          have hu := hf (SB.ap 11 (.b (.v 100) (.i (.v 100) (.i (.v 110) (.i (.v 113) (.i (.v 114) .nil))))), false) (by simp)
          rw [gs] at hu
          obtain ⟨w1, w2, w3, w4, w5, w6⟩ := way2n hk hu
          refine ⟨⟨_, rfl, .inr ⟨rfl, rfl⟩⟩, fun o => ⟨⟨i + 1, hJ.step (tk' := false) (by rw [hnt]; exact hl) (by rw [hnt]; exact hn50) P.S P.r0 (hJ.ag.put o) rfl w6 (hJ.q0) (hJ.q1) (hJ.c) (hJ.h) (hJ.p) (hJ.r) (hJ.b) (htok)
            (lA := fun u => SL.nth E ((.i (.c 0) (.i vp0e53 (.b (.c false) (.i (.c 0) (.i (.c 0) (.i (.c 0) .nil))))))) u) (lL := fun u => SL.nth E ((.i (.c 0) (.i (.c 0) (.i (.c 0) .nil)))) u) (R := (AE.den E (.v 20))) (Ad := (AE.den E (.v 21))) (Of := (AE.den E (.v 22)))
            (fun t => tlE b6 t) (by rw [w1]; rfl) (by rw [w2]; show bits .or .i64 0 (E.i 110) = _; rw [hJ.c]; exact bits0 hQ.c0 (by have := hQ.c1; omega)) (fun c h1 h2 => by
              have : c = 2 ∨ c = 3 ∨ c = 4 ∨ c = 5 := by omega
              rcases this with rfl | rfl | rfl | rfl <;> rfl)
            (fun t => tlE b3 t) (by rw [w3]; rfl) (by rw [w4]; rfl) (by rw [w5]; rfl)
            (fun t => catE hE b192 (b1 vp0e14 rfl) (b2 vp0e18 rfl) t) (by rw [w3]; intro u hu; cases hu) (by rw [w4]; intro u hu; cases hu) (by rw [w5]; intro u hu; cases hu)⟩, fun b hb => ?_⟩⟩
          obtain rfl := Option.some.inj hb
          show (E0.i 40 - (E.i 130 + 1)).toNat < (E0.i 40 - E1.i 130).toNat
          have := hI.i130
          omega
        · intro hf
          have hl := hlt (hf (SB.lt (.v 130) (.v 40), true) (by simp))
          obtain ⟨⟨k0, k1⟩, ⟨s0, s1⟩, ⟨p0, p1⟩, hz⟩ := hSo i hl
          have hk := hf (SB.eq vp0e32 (.c 3), true) (by simp)
          rw [eq_t, x0, d_c] at hk
          obtain ⟨w1, w2, w3, w4, w5, w6⟩ := way3 hk
          refine ⟨⟨_, rfl, .inr ⟨rfl, rfl⟩⟩, fun o => ⟨⟨i + 1, hJ.step (tk' := false) (by rw [hnt]; exact hl) (by rw [hnt]; exact hn50) P.S P.r0 (hJ.ag.put o) rfl w6 (hJ.q0) (hJ.q1) (hJ.c) (hJ.h) (by show E.i 113 + imn (vp0e2.den E) 100000 = _; rw [x1, hJ.p]; unfold imn; simp only []; split <;> omega) (hJ.r) (hJ.b) (htok)
            (lA := fun u => SL.nth E ((.i (.c 0) (.i (.c (-1)) (.b (.c false) (.i (.c 0) (.i (.c 0) (.i (.c 0) .nil))))))) u) (lL := fun u => SL.nth E ((.i (.c 0) (.i (.c 0) (.i (.c 0) .nil)))) u) (R := (AE.den E (.v 20))) (Ad := (AE.den E (.v 21))) (Of := (AE.den E (.v 22)))
            (fun t => tlE b6 t) (by rw [w1]; rfl) (by rw [w2]; rfl) (fun c h1 h2 => by
              have : c = 2 ∨ c = 3 ∨ c = 4 ∨ c = 5 := by omega
              rcases this with rfl | rfl | rfl | rfl <;> rfl)
            (fun t => tlE b3 t) (by rw [w3]; rfl) (by rw [w4]; rfl) (by rw [w5]; rfl)
            (fun t => catE hE b192 (b1 vp0e14 rfl) (b2 vp0e18 rfl) t) (by rw [w3]; intro u hu; cases hu) (by rw [w4]; intro u hu; cases hu) (by rw [w5]; intro u hu; cases hu)⟩, fun b hb => ?_⟩⟩
          obtain rfl := Option.some.inj hb
          show (E0.i 40 - (E.i 130 + 1)).toNat < (E0.i 40 - E1.i 130).toNat
          have := hI.i130
          omega
        · intro hf
          have h1 := hf (SB.le vp0e2 (.c 18446744073709551615), false) (by simp)
          have hl := hlt (hf (SB.lt (.v 130) (.v 40), true) (by simp))
          obtain ⟨⟨k0, k1⟩, ⟨s0, s1⟩, ⟨p0, p1⟩, hz⟩ := hSo i hl
          rw [le_f] at h1
          rw [x1, d_c] at h1
          omega
        · intro hf
          have h1 := hf (SB.le (.c 0) vp0e2, false) (by simp)
          have hl := hlt (hf (SB.lt (.v 130) (.v 40), true) (by simp))
          obtain ⟨⟨k0, k1⟩, ⟨s0, s1⟩, ⟨p0, p1⟩, hz⟩ := hSo i hl
          rw [le_f] at h1
          rw [d_c, x1] at h1
          omega
        · intro hf
          have hl := hlt (hf (SB.lt (.v 130) (.v 40), true) (by simp))
          obtain ⟨⟨k0, k1⟩, ⟨s0, s1⟩, ⟨p0, p1⟩, hz⟩ := hSo i hl
          have c0 := hf (SB.eq vp0e32 (.c 0), false) (by simp)
          have c0 : ¬ vp0e32.den E = 0 := by simpa [SB.den, SE.den] using c0
          have c1 := hf (SB.eq vp0e32 (.c 1), false) (by simp)
          have c1 : ¬ vp0e32.den E = 1 := by simpa [SB.den, SE.den] using c1
          have c2 := hf (SB.eq vp0e32 (.c 2), false) (by simp)
          have c2 : ¬ vp0e32.den E = 2 := by simpa [SB.den, SE.den] using c2
          have c3 := hf (SB.eq vp0e32 (.c 3), false) (by simp)
          have c3 : ¬ vp0e32.den E = 3 := by simpa [SB.den, SE.den] using c3
          rw [x0] at c0 c1 c2 c3
          omega
        · intro hf
          have h1 := hf (SB.le vp0e32 (.c 3), false) (by simp)
          have hl := hlt (hf (SB.lt (.v 130) (.v 40), true) (by simp))
          obtain ⟨⟨k0, k1⟩, ⟨s0, s1⟩, ⟨p0, p1⟩, hz⟩ := hSo i hl
          rw [le_f] at h1
          rw [x0, d_c] at h1
          omega
        · intro hf
          have h1 := hf (SB.le (.c 0) vp0e32, false) (by simp)
          have hl := hlt (hf (SB.lt (.v 130) (.v 40), true) (by simp))
          obtain ⟨⟨k0, k1⟩, ⟨s0, s1⟩, ⟨p0, p1⟩, hz⟩ := hSo i hl
          rw [le_f] at h1
          rw [d_c, x0] at h1
          omega
        · intro hf
          have h1 := hf (SB.lt (.v 130) (.v 40), false) (by simp)
          have q40 := hJ.ag.i 40 (by decide)
          simp only [lt_f, d_v] at h1
          have hin : i = n := by omega
          subst hin
          obtain ⟨V, hV⟩ : ∃ V : Env, V = { E0 with a := fun j => if j = 500 then E.a 121 else E.a 123 } := ⟨_, rfl⟩
          have HU : AgE 500 E0 (E0.upd xb 2 V) := Env.upd_ag E0 xb 2 V
          have HJ : AgP 100 (E0.upd xb 2 V) E := ⟨fun j hj => (hJ.ag.i j hj).trans (HU.i j (by omega)).symm, fun j hj => (hJ.ag.b j hj).trans (HU.b j (by omega)).symm, fun j hj => (hJ.ag.a j hj).trans (HU.a j (by omega)).symm, hJ.ag.fn.trans HU.fn.symm⟩
          have hEU : (E0.upd xb 2 V).fn = fns := HU.fn.trans hE0
          have u40 : (E0.upd xb 2 V).i 40 = E0.i 40 := HU.i 40 (by decide)
          have u5 : (E0.upd xb 2 V).a 5 = E0.a 5 := HU.a 5 (by decide)
          have u12 : (E0.upd xb 2 V).i 12 = E0.i 12 := HU.i 12 (by decide)
          have u500 : (E0.upd xb 2 V).a 500 = E.a 121 := by
            show (if xb ≤ 500 ∧ 500 < xb + 2 then V.a (xb + (500 - xb)) else E0.a 500) = _
            rw [if_pos ⟨by decide, by decide⟩, hV]; rfl
          have u501 : (E0.upd xb 2 V).a 501 = E.a 123 := by
            show (if xb ≤ 501 ∧ 501 < xb + 2 then V.a (xb + (501 - xb)) else E0.a 501) = _
            rw [if_pos ⟨by decide, by decide⟩, hV]; rfl
          have av : ∀ (j : Nat) (X : Env), (AE.v j).den X = X.a j := fun j X => by funext t; simp only [AE.den]
          have hnn : ((SE.v 40).den (E0.upd xb 2 V)).toNat = i := by
            show ((E0.upd xb 2 V).i 40).toNat = i
            rw [u40]; exact hnt
          refine ⟨rfl, V, ?_, fun a' ha' => (by cases ha'; intro q hq; cases hq)⟩
          have r1 : (Eqn.a (.v 5) (.v 5) (.v 40) 5).ok E (E0.upd xb 2 V) := Eqn.a_ag HJ _ _ _ rfl
          have r2 : (Eqn.p 1000 (.i (.v 130) (.a (.v 120) (.a (.v 121) (.a (.v 122) (.a (.v 123) (.a (.v 124) .nil)))))) (.i (.v 40) (.a (.ap 20 slS) (.a (.v 500) (.a (.ap 21 slS) (.a (.v 501) (.a (.ap 22 slS) .nil))))))).ok E (E0.upd xb 2 V) := by
            have c20 : (AE.ap 20 slS).den (E0.upd xb 2 V) = colA (E0.a 5) (E0.i 12) := by
              funext t; simp only [AE.den, slS, SL.den, SE.den, hEU, u12]
              show colA (fun j => (E0.upd xb 2 V).a 5 j) _ t = _
              rw [u5]
            have c21 : (AE.ap 21 slS).den (E0.upd xb 2 V) = colL (E0.a 5) (E0.i 12) := by
              funext t; simp only [AE.den, slS, SL.den, SE.den, hEU, u12]
              show colL (fun j => (E0.upd xb 2 V).a 5 j) _ t = _
              rw [u5]
            have c22 : (AE.ap 22 slS).den (E0.upd xb 2 V) = colC (E0.a 5) (E0.i 12) := by
              funext t; simp only [AE.den, slS, SL.den, SE.den, hEU, u12]
              show colC (fun j => (E0.upd xb 2 V).a 5 j) _ t = _
              rw [u5]
            refine Eqn.recs rok6 hE hEU (by rw [hnn]; show (E.i 130).toNat = i; omega) (by rw [av, av, u500]) (by rw [av, av, u501]) (fun j hj => ?_) (fun k hk => ?_) (fun a f u ha hf hu => ?_)
            · rw [hnn] at hj
              rw [av, c20]; exact hJ.A j hj
            · rw [hnn] at hk
              rw [av, c21]; exact hJ.L k hk
            · rw [hnn] at ha
              have hf3 : f < 3 := hf
              have hlk := hJ.L (a * 3 + f) (by omega)
              rw [av] at hu
              rw [av, c22]
              refine hJ.C (a * 3 + f) (by omega) u ?_
              rw [← hlk]
              have e1 : (r6.nk f).length = 1 := by
                have : f = 0 ∨ f = 1 ∨ f = 2 := by omega
                rcases this with rfl | rfl | rfl <;> rfl
              rw [e1, Nat.mul_one] at hu
              exact hu
          (simp only [List.forall_mem_cons, List.not_mem_nil, false_imp_iff, implies_true, and_true]; (repeat' apply And.intro); all_goals (first | exact Eqn.i_ag (n := 100) (by assumption) _ rfl | exact Eqn.b_ag (n := 100) (by assumption) _ rfl | assumption))
    · -- point 1
      refine ⟨vp1ls, by rw [← ptD_some ht ct6.g]; exact vp1run, fun E0 E1 hE0 hE1 hF0 ⟨i, hI⟩ => ?_⟩
      have P := pre6 hE0 hF0
      obtain ⟨n, hn⟩ : ∃ n : Nat, E0.i 40 = n := ⟨(E0.i 40).toNat, by have := P.n0; omega⟩
      have hnt : (E0.i 40).toNat = n := by omega
      have hn50 : n ≤ 50 := by have := P.n1; omega
      have hle := hI.le
      rw [hnt] at hle
      have hSo := P.S
      rw [hnt] at hSo
      have hQ := stq_ok hSo P.r0 i hle
      refine ⟨?_, fun E H1 _ x hx => ?_⟩
      · obtain rfl := Option.some.inj ht
        have hq := hQ.n; have hpk := hQ.p1
        have hp0 := hQ.p0; have hc0 := hQ.c0; have hc1 := hQ.c1; have hh0 := hQ.h0; have hha := hQ.ha; have hr0 := hQ.r0; have hr1 := hQ.r1
        have k0 := hI.i130; have k1 := hI.q0; have k2 := hI.c; have k3 := hI.h; have k4 := hI.p; have k5 := hI.r
        refine facts_append (facts_append (facts_append (facts_append (facts_append (facts_append (facts_append (hI.ag.facts (by decide) hF0) ?_) ?_) ?_) ?_) ?_) ?_) ?_
        · show Facts E1 [((.le (.c 0) (.v 130)), true), ((.le (.v 130) (.c 50)), true)]
          simp only [facts_cons, facts_nil, le_t, d_c, d_v, and_true]; omega
        · show Facts E1 [((.le (.c 0) (.v 100)), true), ((.le (.v 100) (.c 50)), true)]
          simp only [facts_cons, facts_nil, le_t, d_c, d_v, and_true]; omega
        · show Facts E1 [((.le (.c 0) (.v 110)), true), ((.le (.v 110) (.c 255)), true)]
          simp only [facts_cons, facts_nil, le_t, d_c, d_v, and_true]; omega
        · show Facts E1 [((.le (.c 0) (.v 111)), true), ((.le (.v 111) (.c 255)), true)]
          simp only [facts_cons, facts_nil, le_t, d_c, d_v, and_true]; omega
        · show Facts E1 [((.le (.c 0) (.v 113)), true), ((.le (.v 113) (.c 1000000000)), true)]
          simp only [facts_cons, facts_nil, le_t, d_c, d_v, and_true]; omega
        · show Facts E1 [((.le (.c 0) (.v 114)), true), ((.le (.v 114) (.c 1000000000)), true)]
          simp only [facts_cons, facts_nil, le_t, d_c, d_v, and_true]; omega
        · show Facts E1 [((.ap 2 (.a (.v 100) (.i (.v 100) (.i (.v 110) (.i (.v 111) .nil))))), true)]
          intro q hq
          have : q = ((.ap 2 (.a (.v 100) (.i (.v 100) (.i (.v 110) (.i (.v 111) .nil))))), true) := by simpa using hq
          subst this
          show E1.fn.g 2 [.a ((AE.v 100).den E1), .i (E1.i 100), .i (E1.i 110), .i (E1.i 111)] = true
          rw [hE1]
          show @decide (QOk ((AE.v 100).den E1) (E1.i 100).toNat (E1.i 110) (E1.i 111)) (Classical.propDecidable _) = true
          rw [show (AE.v 100).den E1 = E1.a 100 from by funext j; simp only [AE.den], hI.q1, hI.q0, Int.toNat_natCast, hI.c, hI.h]
          exact @decide_eq_true _ (Classical.propDecidable _) (qok_of hQ)
      · have hE : E.fn = fns := H1.fn.trans hE1
        have hJ := hI.up H1
        have hi := hJ.i130
        have S5 : E.a 5 = E0.a 5 := hJ.ag.a 5 (by decide)
        have r12 : E.i 12 = E0.i 12 := hJ.ag.i 12 (by decide)
        have x0 : vp1e33.den E = E0.a 5 (i * 5) := by
          show E.a 5 (E.i 130 * 5).toNat = _
          rw [S5, hi, show ((i : Int) * 5).toNat = i * 5 by omega]
        have x1 : vp1e2.den E = E0.a 5 (i * 5 + 1) := by
          show E.a 5 (E.i 130 * 5 + 1).toNat = _
          rw [S5, hi, show ((i : Int) * 5 + 1).toNat = i * 5 + 1 by omega]
        have x2 : vp1e4.den E = E0.a 5 (i * 5 + 2) := by
          show E.a 5 (E.i 130 * 5 + 2).toNat = _
          rw [S5, hi, show ((i : Int) * 5 + 2).toNat = i * 5 + 2 by omega]
        have x3 : vp1e32.den E = E0.a 5 (i * 5 + 3) := by
          show E.a 5 (E.i 130 * 5 + 3).toNat = _
          rw [S5, hi, show ((i : Int) * 5 + 3).toNat = i * 5 + 3 by omega]
        have x4 : vp1e30.den E = E0.a 5 (i * 5 + 4) := by
          show E.a 5 (E.i 130 * 5 + 4).toNat = _
          rw [S5, hi, show ((i : Int) * 5 + 4).toNat = i * 5 + 4 by omega]
        have n10 := e10 hE hJ vp1e2 vp1e4
        have n10a := ea10 hE hJ vp1e2 vp1e4
        have n11 := e11 hE hJ vp1e2 vp1e4
        have n12 := e12 hE hJ vp1e2 vp1e4
        have n13 := e13 hE hJ vp1e2 vp1e4
        have n13a := ea13 hE hJ vp1e2 vp1e4
        have gu := eg10 hE hJ vp1e2 vp1e4
        have gs := eg11 hE hJ
        rw [x1, x2] at n10 n10a n11 n12 n13 n13a gu
        have b192 : (vp1e11.den E).toNat = i * 192 := by
          show (E.i 130 * 192).toNat = _
          omega
        have b6 : (vp1e26.den E).toNat = i * 6 := by
          show (E.i 130 * 6).toNat = _
          omega
        have b3 : (vp1e21.den E).toNat = i * 3 := by
          show (E.i 130 * 3).toNat = _
          omega
        have b1 : ∀ e : SE, e = .add vp1e11 (.c 64) → (e.den E).toNat = i * 192 + 64 := fun e he => by
          rw [he]
          show (E.i 130 * 192 + 64).toNat = _
          omega
        have b2 : ∀ e : SE, e = .add vp1e11 (.c 128) → (e.den E).toNat = i * 192 + 128 := fun e he => by
          rw [he]
          show (E.i 130 * 192 + 128).toNat = _
          omega
        have hlt : (SB.lt (.v 130) (.v 40)).den E = true → i < n := fun h => by
          have q40 := hJ.ag.i 40 (by decide)
          simp only [lt_t, d_v] at h; omega
        have hrl := adR_len (stq (E0.a 5) (E0.i 12) i).q (stq (E0.a 5) (E0.i 12) i).act (stq (E0.a 5) (E0.i 12) i).hi (E0.a 5 (i * 5 + 1)) (E0.a 5 (i * 5 + 2))
        have hqn := hQ.n
        have htok := hJ.t
        have hhd : vp1e43.den E = (stq (E0.a 5) (E0.i 12) i).q.headD 0 := by
          show E.a 100 0 = _
          rw [hJ.q1, headD_arr]
        have hbnd : ∀ b : Nat, (∀ o : Nat → Value, True) → True := fun _ _ => trivial
        unfold vp1ls at hx
        simp only [List.mem_cons, List.not_mem_nil, or_false] at hx
        rcases hx with rfl | rfl | rfl | rfl | rfl | rfl | rfl | rfl | rfl | rfl | rfl | rfl | rfl | rfl | rfl | rfl | rfl | rfl | rfl | rfl | rfl | rfl | rfl | rfl | rfl | rfl | rfl | rfl | rfl | rfl | rfl
        · intro hf
          have hl := hlt (hf (SB.lt (.v 130) (.v 40), true) (by simp))
          obtain ⟨⟨k0, k1⟩, ⟨s0, s1⟩, ⟨p0, p1⟩, hz⟩ := hSo i hl
          have hk := hf (SB.eq vp1e33 (.c 0), true) (by simp)
          rw [eq_t, x0, d_c] at hk
          have hu := hf (SB.ap 10 (.i (.v 110) (.i (.v 111) (.i vp1e2 (.i vp1e4 .nil)))), true) (by simp)
          rw [gu] at hu
          obtain ⟨w1, w2, w3, w4, w5, w6⟩ := way0u hk hu
          have hc := hf (SB.le (.c 4) vp1e5, true) (by simp)
          rw [le_t, d_c, (show vp1e5.den E = _ from n10)] at hc
          rw [if_pos (by omega)] at w1
          obtain ⟨z1, z2, z3⟩ := hz hk
          rw [htok] at w5
          change offAt (E0.a 5) (E0.i 12) i = [(stq (E0.a 5) (E0.i 12) i).act] at w5
          refine ⟨⟨_, rfl, .inr ⟨rfl, rfl⟩⟩, fun o => ⟨⟨i + 1, hJ.step (tk' := true) (by rw [hnt]; exact hl) (by rw [hnt]; exact hn50) P.S P.r0 (hJ.ag.put o) rfl w6 (n10) (n10a) (n11) (n12) (rfl) (by show 5000 + (E.i 12).tmod 10000 = _; rw [r12]; rfl) (hJ.b) (rfl)
            (lA := fun u => SL.nth E ((.i (.c 9) (.i (.c (-1)) (.b (.c false) (.i (.c 0) (.i (.c 0) (.i (.c 0) .nil))))))) u) (lL := fun u => SL.nth E ((.i vp1e23 (.i (.c 1) (.i (.c 1) .nil)))) u) (R := (AE.den E vp1e12)) (Ad := (AE.den E vp1e16)) (Of := (AE.den E vp1e19))
            (fun t => tlE b6 t) (by rw [w1]; rfl) (by rw [w2]; rfl) (fun c h1 h2 => by
              have : c = 2 ∨ c = 3 ∨ c = 4 ∨ c = 5 := by omega
              rcases this with rfl | rfl | rfl | rfl <;> rfl)
            (fun t => tlE b3 t) (by rw [w3]; exact n13) (by rw [w4]; rfl) (by rw [w5]; rfl)
            (fun t => catE hE b192 (b1 vp1e14 rfl) (b2 vp1e18 rfl) t) (by rw [w3]; intro u hu; exact congrFun n13a u) (by rw [w4]; exact oneE n11) (by rw [w5]; exact oneE hJ.c)⟩, fun b hb => ?_⟩⟩
          obtain rfl := Option.some.inj hb
          show (E0.i 40 - (E.i 130 + 1)).toNat < (E0.i 40 - E1.i 130).toNat
          have := hI.i130
          omega
        · intro hf
          have h1 := hf (SB.le vp1e23 (.c 64), false) (by simp)
          have hl := hlt (hf (SB.lt (.v 130) (.v 40), true) (by simp))
          obtain ⟨⟨k0, k1⟩, ⟨s0, s1⟩, ⟨p0, p1⟩, hz⟩ := hSo i hl
          have h2 := hf (SB.eq vp1e33 (.c 0), true) (by simp)
          rw [eq_t, x0, d_c] at h2
          obtain ⟨z1, z2, z3⟩ := hz h2
          rw [le_f] at h1
          rw [(show vp1e23.den E = _ from n13), d_c] at h1
          omega
        · intro hf
          have hl := hlt (hf (SB.lt (.v 130) (.v 40), true) (by simp))
          obtain ⟨⟨k0, k1⟩, ⟨s0, s1⟩, ⟨p0, p1⟩, hz⟩ := hSo i hl
          have hk := hf (SB.eq vp1e33 (.c 0), true) (by simp)
          rw [eq_t, x0, d_c] at hk
          have hu := hf (SB.ap 10 (.i (.v 110) (.i (.v 111) (.i vp1e2 (.i vp1e4 .nil)))), true) (by simp)
          rw [gu] at hu
          obtain ⟨w1, w2, w3, w4, w5, w6⟩ := way0u hk hu
          have hc := hf (SB.le (.c 4) vp1e5, false) (by simp)
          rw [le_f, d_c, (show vp1e5.den E = _ from n10)] at hc
          rw [if_neg (by omega)] at w1
          obtain ⟨z1, z2, z3⟩ := hz hk
          rw [htok] at w5
          change offAt (E0.a 5) (E0.i 12) i = [(stq (E0.a 5) (E0.i 12) i).act] at w5
          refine ⟨⟨_, rfl, .inr ⟨rfl, rfl⟩⟩, fun o => ⟨⟨i + 1, hJ.step (tk' := true) (by rw [hnt]; exact hl) (by rw [hnt]; exact hn50) P.S P.r0 (hJ.ag.put o) rfl w6 (n10) (n10a) (n11) (n12) (rfl) (by show 5000 + (E.i 12).tmod 10000 = _; rw [r12]; rfl) (hJ.b) (rfl)
            (lA := fun u => SL.nth E ((.i (.c 0) (.i (.c (-1)) (.b (.c false) (.i (.c 0) (.i (.c 0) (.i (.c 0) .nil))))))) u) (lL := fun u => SL.nth E ((.i vp1e23 (.i (.c 1) (.i (.c 1) .nil)))) u) (R := (AE.den E vp1e12)) (Ad := (AE.den E vp1e16)) (Of := (AE.den E vp1e19))
            (fun t => tlE b6 t) (by rw [w1]; rfl) (by rw [w2]; rfl) (fun c h1 h2 => by
              have : c = 2 ∨ c = 3 ∨ c = 4 ∨ c = 5 := by omega
              rcases this with rfl | rfl | rfl | rfl <;> rfl)
            (fun t => tlE b3 t) (by rw [w3]; exact n13) (by rw [w4]; rfl) (by rw [w5]; rfl)
            (fun t => catE hE b192 (b1 vp1e14 rfl) (b2 vp1e18 rfl) t) (by rw [w3]; intro u hu; exact congrFun n13a u) (by rw [w4]; exact oneE n11) (by rw [w5]; exact oneE hJ.c)⟩, fun b hb => ?_⟩⟩
          obtain rfl := Option.some.inj hb
          show (E0.i 40 - (E.i 130 + 1)).toNat < (E0.i 40 - E1.i 130).toNat
          have := hI.i130
          omega
        · intro hf
          have h1 := hf (SB.le vp1e23 (.c 64), false) (by simp)
          have hl := hlt (hf (SB.lt (.v 130) (.v 40), true) (by simp))
          obtain ⟨⟨k0, k1⟩, ⟨s0, s1⟩, ⟨p0, p1⟩, hz⟩ := hSo i hl
          have h2 := hf (SB.eq vp1e33 (.c 0), true) (by simp)
          rw [eq_t, x0, d_c] at h2
          obtain ⟨z1, z2, z3⟩ := hz h2
          rw [le_f] at h1
          rw [(show vp1e23.den E = _ from n13), d_c] at h1
          omega
        · intro hf
          have h1 := hf (SB.le (.c 0) vp1e5, false) (by simp)
          have hl := hlt (hf (SB.lt (.v 130) (.v 40), true) (by simp))
          obtain ⟨⟨k0, k1⟩, ⟨s0, s1⟩, ⟨p0, p1⟩, hz⟩ := hSo i hl
          have h2 := hf (SB.eq vp1e33 (.c 0), true) (by simp)
          rw [eq_t, x0, d_c] at h2
          obtain ⟨z1, z2, z3⟩ := hz h2
          rw [le_f] at h1
          rw [d_c, (show vp1e5.den E = _ from n10)] at h1
          omega
        · intro hf
          have hl := hlt (hf (SB.lt (.v 130) (.v 40), true) (by simp))
          obtain ⟨⟨k0, k1⟩, ⟨s0, s1⟩, ⟨p0, p1⟩, hz⟩ := hSo i hl
          have hk := hf (SB.eq vp1e33 (.c 0), true) (by simp)
          rw [eq_t, x0, d_c] at hk
          have hu := hf (SB.ap 10 (.i (.v 110) (.i (.v 111) (.i vp1e2 (.i vp1e4 .nil)))), false) (by simp)
          rw [gu] at hu
          obtain ⟨w1, w2, w3, w4, w5, w6⟩ := way0n hk hu
          have hc := hf (SB.le (.c 4) vp1e5, true) (by simp)
          rw [le_t, d_c, (show vp1e5.den E = _ from n10)] at hc
          rw [if_pos (by omega)] at w1
          obtain ⟨z1, z2, z3⟩ := hz hk
          refine ⟨⟨_, rfl, .inr ⟨rfl, rfl⟩⟩, fun o => ⟨⟨i + 1, hJ.step (tk' := true) (by rw [hnt]; exact hl) (by rw [hnt]; exact hn50) P.S P.r0 (hJ.ag.put o) rfl w6 (n10) (n10a) (hJ.c) (n12) (hJ.p) (hJ.r) (hJ.b) (htok)
            (lA := fun u => SL.nth E ((.i (.c 9) (.i (.c (-1)) (.b (.c false) (.i (.c 0) (.i (.c 0) (.i (.c 0) .nil))))))) u) (lL := fun u => SL.nth E ((.i vp1e23 (.i (.c 0) (.i (.c 0) .nil)))) u) (R := (AE.den E vp1e12)) (Ad := (AE.den E (.v 21))) (Of := (AE.den E (.v 22)))
            (fun t => tlE b6 t) (by rw [w1]; rfl) (by rw [w2]; rfl) (fun c h1 h2 => by
              have : c = 2 ∨ c = 3 ∨ c = 4 ∨ c = 5 := by omega
              rcases this with rfl | rfl | rfl | rfl <;> rfl)
            (fun t => tlE b3 t) (by rw [w3]; exact n13) (by rw [w4]; rfl) (by rw [w5]; rfl)
            (fun t => catE hE b192 (b1 vp1e14 rfl) (b2 vp1e18 rfl) t) (by rw [w3]; intro u hu; exact congrFun n13a u) (by rw [w4]; intro u hu; cases hu) (by rw [w5]; intro u hu; cases hu)⟩, fun b hb => ?_⟩⟩
          obtain rfl := Option.some.inj hb
          show (E0.i 40 - (E.i 130 + 1)).toNat < (E0.i 40 - E1.i 130).toNat
          have := hI.i130
          omega
        · intro hf
          have h1 := hf (SB.le vp1e23 (.c 64), false) (by simp)
          have hl := hlt (hf (SB.lt (.v 130) (.v 40), true) (by simp))
          obtain ⟨⟨k0, k1⟩, ⟨s0, s1⟩, ⟨p0, p1⟩, hz⟩ := hSo i hl
          have h2 := hf (SB.eq vp1e33 (.c 0), true) (by simp)
          rw [eq_t, x0, d_c] at h2
          obtain ⟨z1, z2, z3⟩ := hz h2
          rw [le_f] at h1
          rw [(show vp1e23.den E = _ from n13), d_c] at h1
          omega
        · intro hf
          have hl := hlt (hf (SB.lt (.v 130) (.v 40), true) (by simp))
          obtain ⟨⟨k0, k1⟩, ⟨s0, s1⟩, ⟨p0, p1⟩, hz⟩ := hSo i hl
          have hk := hf (SB.eq vp1e33 (.c 0), true) (by simp)
          rw [eq_t, x0, d_c] at hk
          have hu := hf (SB.ap 10 (.i (.v 110) (.i (.v 111) (.i vp1e2 (.i vp1e4 .nil)))), false) (by simp)
          rw [gu] at hu
          obtain ⟨w1, w2, w3, w4, w5, w6⟩ := way0n hk hu
          have hc := hf (SB.le (.c 4) vp1e5, false) (by simp)
          rw [le_f, d_c, (show vp1e5.den E = _ from n10)] at hc
          rw [if_neg (by omega)] at w1
          obtain ⟨z1, z2, z3⟩ := hz hk
          refine ⟨⟨_, rfl, .inr ⟨rfl, rfl⟩⟩, fun o => ⟨⟨i + 1, hJ.step (tk' := true) (by rw [hnt]; exact hl) (by rw [hnt]; exact hn50) P.S P.r0 (hJ.ag.put o) rfl w6 (n10) (n10a) (hJ.c) (n12) (hJ.p) (hJ.r) (hJ.b) (htok)
            (lA := fun u => SL.nth E ((.i (.c 0) (.i (.c (-1)) (.b (.c false) (.i (.c 0) (.i (.c 0) (.i (.c 0) .nil))))))) u) (lL := fun u => SL.nth E ((.i vp1e23 (.i (.c 0) (.i (.c 0) .nil)))) u) (R := (AE.den E vp1e12)) (Ad := (AE.den E (.v 21))) (Of := (AE.den E (.v 22)))
            (fun t => tlE b6 t) (by rw [w1]; rfl) (by rw [w2]; rfl) (fun c h1 h2 => by
              have : c = 2 ∨ c = 3 ∨ c = 4 ∨ c = 5 := by omega
              rcases this with rfl | rfl | rfl | rfl <;> rfl)
            (fun t => tlE b3 t) (by rw [w3]; exact n13) (by rw [w4]; rfl) (by rw [w5]; rfl)
            (fun t => catE hE b192 (b1 vp1e14 rfl) (b2 vp1e18 rfl) t) (by rw [w3]; intro u hu; exact congrFun n13a u) (by rw [w4]; intro u hu; cases hu) (by rw [w5]; intro u hu; cases hu)⟩, fun b hb => ?_⟩⟩
          obtain rfl := Option.some.inj hb
          show (E0.i 40 - (E.i 130 + 1)).toNat < (E0.i 40 - E1.i 130).toNat
          have := hI.i130
          omega
        · intro hf
          have h1 := hf (SB.le vp1e23 (.c 64), false) (by simp)
          have hl := hlt (hf (SB.lt (.v 130) (.v 40), true) (by simp))
          obtain ⟨⟨k0, k1⟩, ⟨s0, s1⟩, ⟨p0, p1⟩, hz⟩ := hSo i hl
          have h2 := hf (SB.eq vp1e33 (.c 0), true) (by simp)
          rw [eq_t, x0, d_c] at h2
          obtain ⟨z1, z2, z3⟩ := hz h2
          rw [le_f] at h1
          rw [(show vp1e23.den E = _ from n13), d_c] at h1
          omega
        · intro hf
          have h1 := hf (SB.le (.c 0) vp1e5, false) (by simp)
          have hl := hlt (hf (SB.lt (.v 130) (.v 40), true) (by simp))
          obtain ⟨⟨k0, k1⟩, ⟨s0, s1⟩, ⟨p0, p1⟩, hz⟩ := hSo i hl
          have h2 := hf (SB.eq vp1e33 (.c 0), true) (by simp)
          rw [eq_t, x0, d_c] at h2
          obtain ⟨z1, z2, z3⟩ := hz h2
          rw [le_f] at h1
          rw [d_c, (show vp1e5.den E = _ from n10)] at h1
          omega
        · intro hf
          have h1 := hf (SB.le vp1e30 (.c 255), false) (by simp)
          have hl := hlt (hf (SB.lt (.v 130) (.v 40), true) (by simp))
          obtain ⟨⟨k0, k1⟩, ⟨s0, s1⟩, ⟨p0, p1⟩, hz⟩ := hSo i hl
          have h2 := hf (SB.eq vp1e33 (.c 0), true) (by simp)
          rw [eq_t, x0, d_c] at h2
          obtain ⟨z1, z2, z3⟩ := hz h2
          rw [le_f] at h1
          rw [x4, d_c] at h1
          omega
        · intro hf
          have h1 := hf (SB.le (.c 0) vp1e30, false) (by simp)
          have hl := hlt (hf (SB.lt (.v 130) (.v 40), true) (by simp))
          obtain ⟨⟨k0, k1⟩, ⟨s0, s1⟩, ⟨p0, p1⟩, hz⟩ := hSo i hl
          have h2 := hf (SB.eq vp1e33 (.c 0), true) (by simp)
          rw [eq_t, x0, d_c] at h2
          obtain ⟨z1, z2, z3⟩ := hz h2
          rw [le_f] at h1
          rw [d_c, x4] at h1
          omega
        · intro hf
          have h1 := hf (SB.le vp1e32 (.c 255), false) (by simp)
          have hl := hlt (hf (SB.lt (.v 130) (.v 40), true) (by simp))
          obtain ⟨⟨k0, k1⟩, ⟨s0, s1⟩, ⟨p0, p1⟩, hz⟩ := hSo i hl
          have h2 := hf (SB.eq vp1e33 (.c 0), true) (by simp)
          rw [eq_t, x0, d_c] at h2
          obtain ⟨z1, z2, z3⟩ := hz h2
          rw [le_f] at h1
          rw [x3, d_c] at h1
          omega
        · intro hf
          have h1 := hf (SB.le (.c 0) vp1e32, false) (by simp)
          have hl := hlt (hf (SB.lt (.v 130) (.v 40), true) (by simp))
          obtain ⟨⟨k0, k1⟩, ⟨s0, s1⟩, ⟨p0, p1⟩, hz⟩ := hSo i hl
          have h2 := hf (SB.eq vp1e33 (.c 0), true) (by simp)
          rw [eq_t, x0, d_c] at h2
          obtain ⟨z1, z2, z3⟩ := hz h2
          rw [le_f] at h1
          rw [d_c, x3] at h1
          omega
        · intro hf
          have h1 := hf (SB.eq vp1e30 vp1e2, false) (by simp)
          have hl := hlt (hf (SB.lt (.v 130) (.v 40), true) (by simp))
          obtain ⟨⟨k0, k1⟩, ⟨s0, s1⟩, ⟨p0, p1⟩, hz⟩ := hSo i hl
          have h2 := hf (SB.eq vp1e33 (.c 0), true) (by simp)
          rw [eq_t, x0, d_c] at h2
          obtain ⟨z1, z2, z3⟩ := hz h2
          have h1 : ¬ vp1e30.den E = vp1e2.den E := by simpa [SB.den, SE.den] using h1
          rw [x4, x1] at h1
          omega
        · intro hf
          have h1 := hf (SB.eq vp1e32 vp1e2, false) (by simp)
          have hl := hlt (hf (SB.lt (.v 130) (.v 40), true) (by simp))
          obtain ⟨⟨k0, k1⟩, ⟨s0, s1⟩, ⟨p0, p1⟩, hz⟩ := hSo i hl
          have h2 := hf (SB.eq vp1e33 (.c 0), true) (by simp)
          rw [eq_t, x0, d_c] at h2
          obtain ⟨z1, z2, z3⟩ := hz h2
          have h1 : ¬ vp1e32.den E = vp1e2.den E := by simpa [SB.den, SE.den] using h1
          rw [x3, x1] at h1
          omega
        · intro hf
          have h1 := hf (SB.le vp1e4 vp1e2, false) (by simp)
          have hl := hlt (hf (SB.lt (.v 130) (.v 40), true) (by simp))
          obtain ⟨⟨k0, k1⟩, ⟨s0, s1⟩, ⟨p0, p1⟩, hz⟩ := hSo i hl
          have h2 := hf (SB.eq vp1e33 (.c 0), true) (by simp)
          rw [eq_t, x0, d_c] at h2
          obtain ⟨z1, z2, z3⟩ := hz h2
          rw [le_f] at h1
          rw [x2, x1] at h1
          omega
        · intro hf
          have h1 := hf (SB.le vp1e4 (.c 255), false) (by simp)
          have hl := hlt (hf (SB.lt (.v 130) (.v 40), true) (by simp))
          obtain ⟨⟨k0, k1⟩, ⟨s0, s1⟩, ⟨p0, p1⟩, hz⟩ := hSo i hl
          have h2 := hf (SB.eq vp1e33 (.c 0), true) (by simp)
          rw [eq_t, x0, d_c] at h2
          obtain ⟨z1, z2, z3⟩ := hz h2
          rw [le_f] at h1
          rw [x2, d_c] at h1
          omega
        · intro hf
          have h1 := hf (SB.le (.c 0) vp1e4, false) (by simp)
          have hl := hlt (hf (SB.lt (.v 130) (.v 40), true) (by simp))
          obtain ⟨⟨k0, k1⟩, ⟨s0, s1⟩, ⟨p0, p1⟩, hz⟩ := hSo i hl
          have h2 := hf (SB.eq vp1e33 (.c 0), true) (by simp)
          rw [eq_t, x0, d_c] at h2
          obtain ⟨z1, z2, z3⟩ := hz h2
          rw [le_f] at h1
          rw [d_c, x2] at h1
          omega
        · intro hf
          have h1 := hf (SB.le vp1e2 (.c 255), false) (by simp)
          have hl := hlt (hf (SB.lt (.v 130) (.v 40), true) (by simp))
          obtain ⟨⟨k0, k1⟩, ⟨s0, s1⟩, ⟨p0, p1⟩, hz⟩ := hSo i hl
          have h2 := hf (SB.eq vp1e33 (.c 0), true) (by simp)
          rw [eq_t, x0, d_c] at h2
          obtain ⟨z1, z2, z3⟩ := hz h2
          rw [le_f] at h1
          rw [x1, d_c] at h1
          omega
        · intro hf
          have h1 := hf (SB.le (.c 0) vp1e2, false) (by simp)
          have hl := hlt (hf (SB.lt (.v 130) (.v 40), true) (by simp))
          obtain ⟨⟨k0, k1⟩, ⟨s0, s1⟩, ⟨p0, p1⟩, hz⟩ := hSo i hl
          have h2 := hf (SB.eq vp1e33 (.c 0), true) (by simp)
          rw [eq_t, x0, d_c] at h2
          obtain ⟨z1, z2, z3⟩ := hz h2
          rw [le_f] at h1
          rw [d_c, x1] at h1
          omega
        · intro hf
          have hl := hlt (hf (SB.lt (.v 130) (.v 40), true) (by simp))
          obtain ⟨⟨k0, k1⟩, ⟨s0, s1⟩, ⟨p0, p1⟩, hz⟩ := hSo i hl
          have hk := hf (SB.eq vp1e33 (.c 1), true) (by simp)
          rw [eq_t, x0, d_c] at hk
          obtain ⟨w1, w2, w3, w4, w5, w6⟩ := way1 hk
          refine ⟨⟨_, rfl, .inr ⟨rfl, rfl⟩⟩, fun o => ⟨⟨i + 1, hJ.step (tk' := true) (by rw [hnt]; exact hl) (by rw [hnt]; exact hn50) P.S P.r0 (hJ.ag.put o) rfl w6 (hJ.q0) (hJ.q1) (hJ.c) (hJ.h) (hJ.p) (hJ.r) (rfl) (htok)
            (lA := fun u => SL.nth E ((.i (.c 0) (.i (.c (-1)) (.b (.c false) (.i (.c 0) (.i (.c 0) (.i (.c 0) .nil))))))) u) (lL := fun u => SL.nth E ((.i (.c 0) (.i (.c 0) (.i (.c 0) .nil)))) u) (R := (AE.den E (.v 20))) (Ad := (AE.den E (.v 21))) (Of := (AE.den E (.v 22)))
            (fun t => tlE b6 t) (by rw [w1]; rfl) (by rw [w2]; rfl) (fun c h1 h2 => by
              have : c = 2 ∨ c = 3 ∨ c = 4 ∨ c = 5 := by omega
              rcases this with rfl | rfl | rfl | rfl <;> rfl)
            (fun t => tlE b3 t) (by rw [w3]; rfl) (by rw [w4]; rfl) (by rw [w5]; rfl)
            (fun t => catE hE b192 (b1 vp1e14 rfl) (b2 vp1e18 rfl) t) (by rw [w3]; intro u hu; cases hu) (by rw [w4]; intro u hu; cases hu) (by rw [w5]; intro u hu; cases hu)⟩, fun b hb => ?_⟩⟩
          obtain rfl := Option.some.inj hb
          show (E0.i 40 - (E.i 130 + 1)).toNat < (E0.i 40 - E1.i 130).toNat
          have := hI.i130
          omega
        · intro hf
          have hl := hlt (hf (SB.lt (.v 130) (.v 40), true) (by simp))
          obtain ⟨⟨k0, k1⟩, ⟨s0, s1⟩, ⟨p0, p1⟩, hz⟩ := hSo i hl
          have hk := hf (SB.eq vp1e33 (.c 2), true) (by simp)
          rw [eq_t, x0, d_c] at hk
          have hu := hf (SB.ap 11 (.b (.v 100) (.i (.v 100) (.i (.v 110) (.i (.v 113) (.i (.v 114) .nil))))), true) (by simp)
          rw [gs] at hu
          obtain ⟨w1, w2, w3, w4, w5, w6⟩ := way2u hk hu
          obtain ⟨hpos, hQn⟩ := hQ.next hu P.r0
          have hbd := hQn.c0
          have hbd1 := hQn.c1
          rw [htok] at w5
          change offAt (E0.a 5) (E0.i 12) i = [(stq (E0.a 5) (E0.i 12) i).act] at w5
          refine ⟨⟨_, rfl, .inr ⟨rfl, rfl⟩⟩, fun o => ⟨⟨i + 1, hJ.step (tk' := true) (by rw [hnt]; exact hl) (by rw [hnt]; exact hn50) P.S P.r0 (hJ.ag.put o) rfl w6 (by show E.i 100 - 1 = _; rw [hJ.q0, List.length_tail]; omega) (by funext t; rw [arr_tail, ← hJ.q1]; show (AE.dr (.v 100) (.c 1)).den E t = _; simp only [AE.den, SE.den]; rfl) (hhd) (hJ.c) (rfl) (by show 5000 + (E.i 12).tmod 10000 = _; rw [r12]; rfl) (hJ.b) (rfl)
            (lA := fun u => SL.nth E ((.i (.c 0) (.i vp1e50 (.b (.c false) (.i (.c 0) (.i (.c 0) (.i (.c 0) .nil))))))) u) (lL := fun u => SL.nth E ((.i (.c 1) (.i (.c 1) (.i (.c 1) .nil)))) u) (R := (AE.den E vp1e19)) (Ad := (AE.den E vp1e45)) (Of := (AE.den E vp1e19))
            (fun t => tlE b6 t) (by rw [w1]; rfl) (by rw [w2]; show bits .or .i64 0 (IntKind.i64.wrap (vp1e43.den E)) = _; rw [hhd]; exact wrap255 hbd hbd1) (fun c h1 h2 => by
              have : c = 2 ∨ c = 3 ∨ c = 4 ∨ c = 5 := by omega
              rcases this with rfl | rfl | rfl | rfl <;> rfl)
            (fun t => tlE b3 t) (by rw [w3]; rfl) (by rw [w4]; rfl) (by rw [w5]; rfl)
            (fun t => catE hE b192 (b1 vp1e14 rfl) (b2 vp1e18 rfl) t) (by rw [w3]; exact oneE hJ.c) (by rw [w4]; exact oneE hhd) (by rw [w5]; exact oneE hJ.c)⟩, fun b hb => ?_⟩⟩
          obtain rfl := Option.some.inj hb
          show (E0.i 40 - (E.i 130 + 1)).toNat < (E0.i 40 - E1.i 130).toNat
          have := hI.i130
          omega
        · intro hf
          have hl := hlt (hf (SB.lt (.v 130) (.v 40), true) (by simp))
          obtain ⟨⟨k0, k1⟩, ⟨s0, s1⟩, ⟨p0, p1⟩, hz⟩ := hSo i hl
          have hk := hf (SB.eq vp1e33 (.c 2), true) (by simp)
          rw [eq_t, x0, d_c] at hk
          have hu := hf (SB.ap 11 (.b (.v 100) (.i (.v 100) (.i (.v 110) (.i (.v 113) (.i (.v 114) .nil))))), false) (by simp)
          rw [gs] at hu
          obtain ⟨w1, w2, w3, w4, w5, w6⟩ := way2n hk hu
          refine ⟨⟨_, rfl, .inr ⟨rfl, rfl⟩⟩, fun o => ⟨⟨i + 1, hJ.step (tk' := true) (by rw [hnt]; exact hl) (by rw [hnt]; exact hn50) P.S P.r0 (hJ.ag.put o) rfl w6 (hJ.q0) (hJ.q1) (hJ.c) (hJ.h) (hJ.p) (hJ.r) (hJ.b) (htok)
            (lA := fun u => SL.nth E ((.i (.c 0) (.i vp1e53 (.b (.c false) (.i (.c 0) (.i (.c 0) (.i (.c 0) .nil))))))) u) (lL := fun u => SL.nth E ((.i (.c 0) (.i (.c 0) (.i (.c 0) .nil)))) u) (R := (AE.den E (.v 20))) (Ad := (AE.den E (.v 21))) (Of := (AE.den E (.v 22)))
            (fun t => tlE b6 t) (by rw [w1]; rfl) (by rw [w2]; show bits .or .i64 0 (E.i 110) = _; rw [hJ.c]; exact bits0 hQ.c0 (by have := hQ.c1; omega)) (fun c h1 h2 => by
              have : c = 2 ∨ c = 3 ∨ c = 4 ∨ c = 5 := by omega
              rcases this with rfl | rfl | rfl | rfl <;> rfl)
            (fun t => tlE b3 t) (by rw [w3]; rfl) (by rw [w4]; rfl) (by rw [w5]; rfl)
            (fun t => catE hE b192 (b1 vp1e14 rfl) (b2 vp1e18 rfl) t) (by rw [w3]; intro u hu; cases hu) (by rw [w4]; intro u hu; cases hu) (by rw [w5]; intro u hu; cases hu)⟩, fun b hb => ?_⟩⟩
          obtain rfl := Option.some.inj hb
          show (E0.i 40 - (E.i 130 + 1)).toNat < (E0.i 40 - E1.i 130).toNat
          have := hI.i130
          omega
        · intro hf
          have hl := hlt (hf (SB.lt (.v 130) (.v 40), true) (by simp))
          obtain ⟨⟨k0, k1⟩, ⟨s0, s1⟩, ⟨p0, p1⟩, hz⟩ := hSo i hl
          have hk := hf (SB.eq vp1e33 (.c 3), true) (by simp)
          rw [eq_t, x0, d_c] at hk
          obtain ⟨w1, w2, w3, w4, w5, w6⟩ := way3 hk
          refine ⟨⟨_, rfl, .inr ⟨rfl, rfl⟩⟩, fun o => ⟨⟨i + 1, hJ.step (tk' := true) (by rw [hnt]; exact hl) (by rw [hnt]; exact hn50) P.S P.r0 (hJ.ag.put o) rfl w6 (hJ.q0) (hJ.q1) (hJ.c) (hJ.h) (by show E.i 113 + imn (vp1e2.den E) 100000 = _; rw [x1, hJ.p]; unfold imn; simp only []; split <;> omega) (hJ.r) (hJ.b) (htok)
            (lA := fun u => SL.nth E ((.i (.c 0) (.i (.c (-1)) (.b (.c false) (.i (.c 0) (.i (.c 0) (.i (.c 0) .nil))))))) u) (lL := fun u => SL.nth E ((.i (.c 0) (.i (.c 0) (.i (.c 0) .nil)))) u) (R := (AE.den E (.v 20))) (Ad := (AE.den E (.v 21))) (Of := (AE.den E (.v 22)))
            (fun t => tlE b6 t) (by rw [w1]; rfl) (by rw [w2]; rfl) (fun c h1 h2 => by
              have : c = 2 ∨ c = 3 ∨ c = 4 ∨ c = 5 := by omega
              rcases this with rfl | rfl | rfl | rfl <;> rfl)
            (fun t => tlE b3 t) (by rw [w3]; rfl) (by rw [w4]; rfl) (by rw [w5]; rfl)
            (fun t => catE hE b192 (b1 vp1e14 rfl) (b2 vp1e18 rfl) t) (by rw [w3]; intro u hu; cases hu) (by rw [w4]; intro u hu; cases hu) (by rw [w5]; intro u hu; cases hu)⟩, fun b hb => ?_⟩⟩
          obtain rfl := Option.some.inj hb
          show (E0.i 40 - (E.i 130 + 1)).toNat < (E0.i 40 - E1.i 130).toNat
          have := hI.i130
          omega
        · intro hf
          have h1 := hf (SB.le vp1e2 (.c 18446744073709551615), false) (by simp)
          have hl := hlt (hf (SB.lt (.v 130) (.v 40), true) (by simp))
          obtain ⟨⟨k0, k1⟩, ⟨s0, s1⟩, ⟨p0, p1⟩, hz⟩ := hSo i hl
          rw [le_f] at h1
          rw [x1, d_c] at h1
          omega
        · intro hf
          have h1 := hf (SB.le (.c 0) vp1e2, false) (by simp)
          have hl := hlt (hf (SB.lt (.v 130) (.v 40), true) (by simp))
          obtain ⟨⟨k0, k1⟩, ⟨s0, s1⟩, ⟨p0, p1⟩, hz⟩ := hSo i hl
          rw [le_f] at h1
          rw [d_c, x1] at h1
          omega
        · intro hf
          have hl := hlt (hf (SB.lt (.v 130) (.v 40), true) (by simp))
          obtain ⟨⟨k0, k1⟩, ⟨s0, s1⟩, ⟨p0, p1⟩, hz⟩ := hSo i hl
          have c0 := hf (SB.eq vp1e33 (.c 0), false) (by simp)
          have c0 : ¬ vp1e33.den E = 0 := by simpa [SB.den, SE.den] using c0
          have c1 := hf (SB.eq vp1e33 (.c 1), false) (by simp)
          have c1 : ¬ vp1e33.den E = 1 := by simpa [SB.den, SE.den] using c1
          have c2 := hf (SB.eq vp1e33 (.c 2), false) (by simp)
          have c2 : ¬ vp1e33.den E = 2 := by simpa [SB.den, SE.den] using c2
          have c3 := hf (SB.eq vp1e33 (.c 3), false) (by simp)
          have c3 : ¬ vp1e33.den E = 3 := by simpa [SB.den, SE.den] using c3
          rw [x0] at c0 c1 c2 c3
          omega
        · intro hf
          have h1 := hf (SB.le vp1e33 (.c 3), false) (by simp)
          have hl := hlt (hf (SB.lt (.v 130) (.v 40), true) (by simp))
          obtain ⟨⟨k0, k1⟩, ⟨s0, s1⟩, ⟨p0, p1⟩, hz⟩ := hSo i hl
          rw [le_f] at h1
          rw [x0, d_c] at h1
          omega
        · intro hf
          have h1 := hf (SB.le (.c 0) vp1e33, false) (by simp)
          have hl := hlt (hf (SB.lt (.v 130) (.v 40), true) (by simp))
          obtain ⟨⟨k0, k1⟩, ⟨s0, s1⟩, ⟨p0, p1⟩, hz⟩ := hSo i hl
          rw [le_f] at h1
          rw [d_c, x0] at h1
          omega
        · intro hf
          have h1 := hf (SB.lt (.v 130) (.v 40), false) (by simp)
          have q40 := hJ.ag.i 40 (by decide)
          simp only [lt_f, d_v] at h1
          have hin : i = n := by omega
          subst hin
          obtain ⟨V, hV⟩ : ∃ V : Env, V = { E0 with a := fun j => if j = 500 then E.a 121 else E.a 123 } := ⟨_, rfl⟩
          have HU : AgE 500 E0 (E0.upd xb 2 V) := Env.upd_ag E0 xb 2 V
          have HJ : AgP 100 (E0.upd xb 2 V) E := ⟨fun j hj => (hJ.ag.i j hj).trans (HU.i j (by omega)).symm, fun j hj => (hJ.ag.b j hj).trans (HU.b j (by omega)).symm, fun j hj => (hJ.ag.a j hj).trans (HU.a j (by omega)).symm, hJ.ag.fn.trans HU.fn.symm⟩
          have hEU : (E0.upd xb 2 V).fn = fns := HU.fn.trans hE0
          have u40 : (E0.upd xb 2 V).i 40 = E0.i 40 := HU.i 40 (by decide)
          have u5 : (E0.upd xb 2 V).a 5 = E0.a 5 := HU.a 5 (by decide)
          have u12 : (E0.upd xb 2 V).i 12 = E0.i 12 := HU.i 12 (by decide)
          have u500 : (E0.upd xb 2 V).a 500 = E.a 121 := by
            show (if xb ≤ 500 ∧ 500 < xb + 2 then V.a (xb + (500 - xb)) else E0.a 500) = _
            rw [if_pos ⟨by decide, by decide⟩, hV]; rfl
          have u501 : (E0.upd xb 2 V).a 501 = E.a 123 := by
            show (if xb ≤ 501 ∧ 501 < xb + 2 then V.a (xb + (501 - xb)) else E0.a 501) = _
            rw [if_pos ⟨by decide, by decide⟩, hV]; rfl
          have av : ∀ (j : Nat) (X : Env), (AE.v j).den X = X.a j := fun j X => by funext t; simp only [AE.den]
          have hnn : ((SE.v 40).den (E0.upd xb 2 V)).toNat = i := by
            show ((E0.upd xb 2 V).i 40).toNat = i
            rw [u40]; exact hnt
          refine ⟨rfl, V, ?_, fun a' ha' => (by cases ha'; intro q hq; cases hq)⟩
          have r1 : (Eqn.a (.v 5) (.v 5) (.v 40) 5).ok E (E0.upd xb 2 V) := Eqn.a_ag HJ _ _ _ rfl
          have r2 : (Eqn.p 1000 (.i (.v 130) (.a (.v 120) (.a (.v 121) (.a (.v 122) (.a (.v 123) (.a (.v 124) .nil)))))) (.i (.v 40) (.a (.ap 20 slS) (.a (.v 500) (.a (.ap 21 slS) (.a (.v 501) (.a (.ap 22 slS) .nil))))))).ok E (E0.upd xb 2 V) := by
            have c20 : (AE.ap 20 slS).den (E0.upd xb 2 V) = colA (E0.a 5) (E0.i 12) := by
              funext t; simp only [AE.den, slS, SL.den, SE.den, hEU, u12]
              show colA (fun j => (E0.upd xb 2 V).a 5 j) _ t = _
              rw [u5]
            have c21 : (AE.ap 21 slS).den (E0.upd xb 2 V) = colL (E0.a 5) (E0.i 12) := by
              funext t; simp only [AE.den, slS, SL.den, SE.den, hEU, u12]
              show colL (fun j => (E0.upd xb 2 V).a 5 j) _ t = _
              rw [u5]
            have c22 : (AE.ap 22 slS).den (E0.upd xb 2 V) = colC (E0.a 5) (E0.i 12) := by
              funext t; simp only [AE.den, slS, SL.den, SE.den, hEU, u12]
              show colC (fun j => (E0.upd xb 2 V).a 5 j) _ t = _
              rw [u5]
            refine Eqn.recs rok6 hE hEU (by rw [hnn]; show (E.i 130).toNat = i; omega) (by rw [av, av, u500]) (by rw [av, av, u501]) (fun j hj => ?_) (fun k hk => ?_) (fun a f u ha hf hu => ?_)
            · rw [hnn] at hj
              rw [av, c20]; exact hJ.A j hj
            · rw [hnn] at hk
              rw [av, c21]; exact hJ.L k hk
            · rw [hnn] at ha
              have hf3 : f < 3 := hf
              have hlk := hJ.L (a * 3 + f) (by omega)
              rw [av] at hu
              rw [av, c22]
              refine hJ.C (a * 3 + f) (by omega) u ?_
              rw [← hlk]
              have e1 : (r6.nk f).length = 1 := by
                have : f = 0 ∨ f = 1 ∨ f = 2 := by omega
                rcases this with rfl | rfl | rfl <;> rfl
              rw [e1, Nat.mul_one] at hu
              exact hu
          (simp only [List.forall_mem_cons, List.not_mem_nil, false_imp_iff, implies_true, and_true]; (repeat' apply And.intro); all_goals (first | exact Eqn.i_ag (n := 100) (by assumption) _ rfl | exact Eqn.b_ag (n := 100) (by assumption) _ rfl | assumption))
end Go.Proofs.YtjanndmmhjnpcaaDoor
