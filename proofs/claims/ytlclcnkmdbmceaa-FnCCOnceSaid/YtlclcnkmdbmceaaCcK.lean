/- Packets that are lost: the law keeps its contract. -/
import Derived.Test.YtlclcnkmdbmceaaCcE
import Derived.Test.YtlclcnkmdbmceaaCcL
import Derived.Test.YtlclcnkmdbmceaaCcM
set_option linter.unusedVariables false
set_option linter.unusedSimpArgs false
set_option maxHeartbeats 4000000
set_option maxRecDepth 100000
namespace Go.Proofs.Ytlclcnkmdbmceaa
open Go Go.Sy
noncomputable def ne0 : SE := .tmod (.v 2) (.c 40)
noncomputable def ne1 : SE := .add (.c 1) ne0
noncomputable def ne2 : SE := .tmod (.v 3) ne1
noncomputable def nx0 : Vl := .out 0 [] [((.le ne2 ne1), true), ((.le ne2 (.c 39)), true), ((.le (.c 0) ne2), true), ((.le (.c 0) (.v 1)), true), ((.le (.v 1) (.c 255)), true), ((.le (.c 0) (.v 2)), true), ((.le (.v 2) (.c 255)), true), ((.le (.c 0) (.v 3)), true), ((.le (.v 3) (.c 255)), true)]
noncomputable def nx1 : Vl := .dead [((.le ne2 ne1), false), ((.le ne2 (.c 39)), true), ((.le (.c 0) ne2), true), ((.le (.c 0) (.v 1)), true), ((.le (.v 1) (.c 255)), true), ((.le (.c 0) (.v 2)), true), ((.le (.v 2) (.c 255)), true), ((.le (.c 0) (.v 3)), true), ((.le (.v 3) (.c 255)), true)]
noncomputable def nx2 : Vl := .dead [((.le ne2 (.c 39)), false), ((.le (.c 0) ne2), true), ((.le (.c 0) (.v 1)), true), ((.le (.v 1) (.c 255)), true), ((.le (.c 0) (.v 2)), true), ((.le (.v 2) (.c 255)), true), ((.le (.c 0) (.v 3)), true), ((.le (.v 3) (.c 255)), true)]
noncomputable def nx3 : Vl := .dead [((.le (.c 0) ne2), false), ((.le (.c 0) (.v 1)), true), ((.le (.v 1) (.c 255)), true), ((.le (.c 0) (.v 2)), true), ((.le (.v 2) (.c 255)), true), ((.le (.c 0) (.v 3)), true), ((.le (.v 3) (.c 255)), true)]
noncomputable def nls : List Vl := [nx0, nx1, nx2, nx3]
theorem nrun : (run (prm3n Try.prog) 900 (enterD (prm3n Try.prog) ct3n)).map (vOf (prm3n Try.prog) ct3n []) = nls := by kernel_rfl
-- 4 ways; terms: ne0, ne1, ne2

noncomputable def ae0 : SE := .tmod (.v 2) (.c 40)
noncomputable def ae1 : SE := .add (.c 1) ae0
noncomputable def ae2 : SE := .tmod (.v 3) ae1
noncomputable def ae3 : SE := .add ae1 ae2
noncomputable def ae4 : SE := .sub ae1 ae2
noncomputable def ae5 : SE := .add (.c 1200) (.v 1)
noncomputable def ae6 : SE := .mul ae4 ae5
noncomputable def ae7 : SE := .wrap .i64 ae6
noncomputable def ae8 : AE := .tl (.v 0) (.c 0) .nil
noncomputable def ae9 : AE := .ap 1 (.i ae1 (.i ae5 .nil))
noncomputable def ax0 : Vl := .out 0 [.a (.v 0) (.v 0) (.v 4) 1, .i (.v 4) (.v 4)] [((.lt (.c 2147483647) (.v 4)), true), ((.le (.c 0) (.v 1)), true), ((.le (.v 1) (.c 255)), true), ((.le (.c 0) (.v 2)), true), ((.le (.v 2) (.c 255)), true), ((.le (.c 0) (.v 3)), true), ((.le (.v 3) (.c 255)), true), ((.le (.c 0) (.v 4)), true), ((.le (.v 4) (.v 5)), true), ((.ap 1 (.a (.v 0) (.i (.v 4) .nil))), true)]
noncomputable def ax1 : Vl := .go 0 [(16, ae3), (15, (.c 0)), (14, ae7), (13, ae3), (12, ae2), (11, ae1), (10, ae5), (5, (.v 5)), (4, (.v 4))] [(0, (.v 0))] [(3, ae8), (2, ae8), (1, ae9), (0, (.v 0))] [((.le ae2 ae1), true), ((.le ae2 (.c 39)), true), ((.le (.c 0) ae2), true), ((.lt (.c 2147483647) (.v 4)), false), ((.le (.c 0) (.v 1)), true), ((.le (.v 1) (.c 255)), true), ((.le (.c 0) (.v 2)), true), ((.le (.v 2) (.c 255)), true), ((.le (.c 0) (.v 3)), true), ((.le (.v 3) (.c 255)), true), ((.le (.c 0) (.v 4)), true), ((.le (.v 4) (.v 5)), true), ((.ap 1 (.a (.v 0) (.i (.v 4) .nil))), true)] (.code (.loop (loopB (prm3 Try.prog).P 3 11))) (loopK (prm3 Try.prog).P 3 11)
noncomputable def ax2 : Vl := .dead [((.le ae2 ae1), false), ((.le ae2 (.c 39)), true), ((.le (.c 0) ae2), true), ((.lt (.c 2147483647) (.v 4)), false), ((.le (.c 0) (.v 1)), true), ((.le (.v 1) (.c 255)), true), ((.le (.c 0) (.v 2)), true), ((.le (.v 2) (.c 255)), true), ((.le (.c 0) (.v 3)), true), ((.le (.v 3) (.c 255)), true), ((.le (.c 0) (.v 4)), true), ((.le (.v 4) (.v 5)), true), ((.ap 1 (.a (.v 0) (.i (.v 4) .nil))), true)]
noncomputable def ax3 : Vl := .dead [((.le ae2 (.c 39)), false), ((.le (.c 0) ae2), true), ((.lt (.c 2147483647) (.v 4)), false), ((.le (.c 0) (.v 1)), true), ((.le (.v 1) (.c 255)), true), ((.le (.c 0) (.v 2)), true), ((.le (.v 2) (.c 255)), true), ((.le (.c 0) (.v 3)), true), ((.le (.v 3) (.c 255)), true), ((.le (.c 0) (.v 4)), true), ((.le (.v 4) (.v 5)), true), ((.ap 1 (.a (.v 0) (.i (.v 4) .nil))), true)]
noncomputable def ax4 : Vl := .dead [((.le (.c 0) ae2), false), ((.lt (.c 2147483647) (.v 4)), false), ((.le (.c 0) (.v 1)), true), ((.le (.v 1) (.c 255)), true), ((.le (.c 0) (.v 2)), true), ((.le (.v 2) (.c 255)), true), ((.le (.c 0) (.v 3)), true), ((.le (.v 3) (.c 255)), true), ((.le (.c 0) (.v 4)), true), ((.le (.v 4) (.v 5)), true), ((.ap 1 (.a (.v 0) (.i (.v 4) .nil))), true)]
noncomputable def als : List Vl := [ax0, ax1, ax2, ax3, ax4]
theorem arun : (run (prm3 Try.prog) 900 (enterD (prm3 Try.prog) ct3)).map (vOf (prm3 Try.prog) ct3 (pts3 Try.prog)) = als := by kernel_rfl
-- 5 ways; terms: ae0, ae1, ae2, ae3, ae4, ae5, ae6, ae7, ae8, ae9

noncomputable def b0e0 : SE := .sub (.v 11) (.v 12)
noncomputable def b0e1 : SE := .rd (.v 0) (.v 15)
noncomputable def b0e2 : SE := .add (.v 15) (.c 1)
noncomputable def b0e3 : SE := .add (.v 12) (.c 1)
noncomputable def b0e4 : SE := .tmod b0e1 b0e0
noncomputable def b0e5 : SE := .add b0e3 b0e4
noncomputable def b0e6 : SE := .rd (.v 2) b0e5
noncomputable def b0e7 : SE := .rd (.v 3) b0e5
noncomputable def b0e8 : SE := .add (.v 16) (.c 1)
noncomputable def b0e9 : SE := .sub (.v 14) (.v 10)
noncomputable def b0e10 : AE := .up (.v 3) b0e5 (.c 1)
noncomputable def b0e11 : AE := .up (.v 2) b0e5 (.c 1)
noncomputable def b0e12 : SE := .mul (.v 16) (.c 6)
noncomputable def b0e13 : AE := .tl (.v 1) b0e12 (.i (.c 2) (.i b0e5 (.i (.v 10) (.i (.v 14) (.i (.c 0) (.b (.c false) .nil))))))
noncomputable def b0e14 : SE := .add (.v 11) (.c 1)
noncomputable def b0e15 : SE := .add (.v 14) (.v 10)
noncomputable def b0e16 : AE := .tl (.v 1) b0e12 (.i (.c 0) (.i b0e14 (.i (.v 10) (.i (.v 14) (.i (.c 900000000) (.b (.c true) (.i (.c 2) (.i b0e14 (.i (.v 10) (.i b0e15 (.i (.c 0) (.b (.c false) .nil))))))))))))
noncomputable def b0e17 : AE := .ap 0 (.b (.v 0) (.i (.v 10) (.a b0e16 .nil)))
noncomputable def b0e18 : SE := .mul (.v 13) (.c 6)
noncomputable def b0e19 : SE := .rd b0e17 b0e18
noncomputable def b0e20 : SE := .mul (.c 2) (.v 10)
noncomputable def b0e21 : SE := .sub (.v 13) (.c 1)
noncomputable def b0e22 : SE := .mul b0e21 (.c 6)
noncomputable def b0e23 : SE := .rd b0e17 b0e22
noncomputable def b0e24 : SE := .add (.v 16) (.c 2)
noncomputable def b0x0 : Vl := .dead [((.eq b0e0 (.c 0)), true), ((.le b0e1 (.c 255)), true), ((.le (.c 0) b0e1), true), ((.lt (.v 15) (.c 30)), true), ((.lt (.v 15) (.v 4)), true), ((.le (.c 1200) (.v 10)), true), ((.le (.v 10) (.c 1455)), true), ((.le (.c 1) (.v 11)), true), ((.le (.v 11) (.c 40)), true), ((.le (.c 0) (.v 12)), true), ((.le (.v 12) (.c 39)), true), ((.le (.c 1) (.v 13)), true), ((.le (.v 13) (.c 80)), true), ((.le (.c (-200000)) (.v 14)), true), ((.le (.v 14) (.c 200000)), true), ((.le (.c 0) (.v 15)), true), ((.le (.v 15) (.c 30)), true), ((.le (.c 1) (.v 16)), true), ((.le (.v 16) (.c 120)), true), ((.le (.c 0) (.v 4)), true), ((.le (.v 4) (.v 5)), true)]
noncomputable def b0x1 : Vl := .go 0 [(16, (.v 16)), (15, b0e2), (14, (.v 14)), (13, (.v 13)), (12, (.v 12)), (11, (.v 11)), (10, (.v 10)), (5, (.v 5)), (4, (.v 4))] [(0, (.v 0))] [(3, (.v 3)), (2, (.v 2)), (1, (.v 1)), (0, (.v 0))] [((.and (.not (.eq b0e6 (.c 0))) (.not (.eq b0e7 (.c 0)))), true), ((.le b0e4 (.c 39)), true), ((.le (.c 0) b0e4), true), ((.eq b0e0 (.c 0)), false), ((.le b0e1 (.c 255)), true), ((.le (.c 0) b0e1), true), ((.lt (.v 15) (.c 30)), true), ((.lt (.v 15) (.v 4)), true), ((.le (.c 1200) (.v 10)), true), ((.le (.v 10) (.c 1455)), true), ((.le (.c 1) (.v 11)), true), ((.le (.v 11) (.c 40)), true), ((.le (.c 0) (.v 12)), true), ((.le (.v 12) (.c 39)), true), ((.le (.c 1) (.v 13)), true), ((.le (.v 13) (.c 80)), true), ((.le (.c (-200000)) (.v 14)), true), ((.le (.v 14) (.c 200000)), true), ((.le (.c 0) (.v 15)), true), ((.le (.v 15) (.c 30)), true), ((.le (.c 1) (.v 16)), true), ((.le (.v 16) (.c 120)), true), ((.le (.c 0) (.v 4)), true), ((.le (.v 4) (.v 5)), true)] (.exit .normal) (.loop (loopB (prm3 Try.prog).P 3 11) :: loopK (prm3 Try.prog).P 3 11)
noncomputable def b0x2 : Vl := .go 0 [(16, b0e8), (15, b0e2), (14, b0e9), (13, (.v 13)), (12, (.v 12)), (11, (.v 11)), (10, (.v 10)), (5, (.v 5)), (4, (.v 4))] [(0, (.v 0))] [(3, b0e10), (2, b0e11), (1, b0e13), (0, (.v 0))] [((.and (.not (.eq b0e6 (.c 0))) (.not (.eq b0e7 (.c 0)))), false), ((.le b0e4 (.c 39)), true), ((.le (.c 0) b0e4), true), ((.eq b0e0 (.c 0)), false), ((.le b0e1 (.c 255)), true), ((.le (.c 0) b0e1), true), ((.lt (.v 15) (.c 30)), true), ((.lt (.v 15) (.v 4)), true), ((.le (.c 1200) (.v 10)), true), ((.le (.v 10) (.c 1455)), true), ((.le (.c 1) (.v 11)), true), ((.le (.v 11) (.c 40)), true), ((.le (.c 0) (.v 12)), true), ((.le (.v 12) (.c 39)), true), ((.le (.c 1) (.v 13)), true), ((.le (.v 13) (.c 80)), true), ((.le (.c (-200000)) (.v 14)), true), ((.le (.v 14) (.c 200000)), true), ((.le (.c 0) (.v 15)), true), ((.le (.v 15) (.c 30)), true), ((.le (.c 1) (.v 16)), true), ((.le (.v 16) (.c 120)), true), ((.le (.c 0) (.v 4)), true), ((.le (.v 4) (.v 5)), true)] (.exit .normal) (.loop (loopB (prm3 Try.prog).P 3 11) :: loopK (prm3 Try.prog).P 3 11)
noncomputable def b0x3 : Vl := .dead [((.le b0e4 (.c 39)), false), ((.le (.c 0) b0e4), true), ((.eq b0e0 (.c 0)), false), ((.le b0e1 (.c 255)), true), ((.le (.c 0) b0e1), true), ((.lt (.v 15) (.c 30)), true), ((.lt (.v 15) (.v 4)), true), ((.le (.c 1200) (.v 10)), true), ((.le (.v 10) (.c 1455)), true), ((.le (.c 1) (.v 11)), true), ((.le (.v 11) (.c 40)), true), ((.le (.c 0) (.v 12)), true), ((.le (.v 12) (.c 39)), true), ((.le (.c 1) (.v 13)), true), ((.le (.v 13) (.c 80)), true), ((.le (.c (-200000)) (.v 14)), true), ((.le (.v 14) (.c 200000)), true), ((.le (.c 0) (.v 15)), true), ((.le (.v 15) (.c 30)), true), ((.le (.c 1) (.v 16)), true), ((.le (.v 16) (.c 120)), true), ((.le (.c 0) (.v 4)), true), ((.le (.v 4) (.v 5)), true)]
noncomputable def b0x4 : Vl := .dead [((.le (.c 0) b0e4), false), ((.eq b0e0 (.c 0)), false), ((.le b0e1 (.c 255)), true), ((.le (.c 0) b0e1), true), ((.lt (.v 15) (.c 30)), true), ((.lt (.v 15) (.v 4)), true), ((.le (.c 1200) (.v 10)), true), ((.le (.v 10) (.c 1455)), true), ((.le (.c 1) (.v 11)), true), ((.le (.v 11) (.c 40)), true), ((.le (.c 0) (.v 12)), true), ((.le (.v 12) (.c 39)), true), ((.le (.c 1) (.v 13)), true), ((.le (.v 13) (.c 80)), true), ((.le (.c (-200000)) (.v 14)), true), ((.le (.v 14) (.c 200000)), true), ((.le (.c 0) (.v 15)), true), ((.le (.v 15) (.c 30)), true), ((.le (.c 1) (.v 16)), true), ((.le (.v 16) (.c 120)), true), ((.le (.c 0) (.v 4)), true), ((.le (.v 4) (.v 5)), true)]
noncomputable def b0x5 : Vl := .dead [((.le b0e1 (.c 255)), false), ((.le (.c 0) b0e1), true), ((.lt (.v 15) (.c 30)), true), ((.lt (.v 15) (.v 4)), true), ((.le (.c 1200) (.v 10)), true), ((.le (.v 10) (.c 1455)), true), ((.le (.c 1) (.v 11)), true), ((.le (.v 11) (.c 40)), true), ((.le (.c 0) (.v 12)), true), ((.le (.v 12) (.c 39)), true), ((.le (.c 1) (.v 13)), true), ((.le (.v 13) (.c 80)), true), ((.le (.c (-200000)) (.v 14)), true), ((.le (.v 14) (.c 200000)), true), ((.le (.c 0) (.v 15)), true), ((.le (.v 15) (.c 30)), true), ((.le (.c 1) (.v 16)), true), ((.le (.v 16) (.c 120)), true), ((.le (.c 0) (.v 4)), true), ((.le (.v 4) (.v 5)), true)]
noncomputable def b0x6 : Vl := .dead [((.le (.c 0) b0e1), false), ((.lt (.v 15) (.c 30)), true), ((.lt (.v 15) (.v 4)), true), ((.le (.c 1200) (.v 10)), true), ((.le (.v 10) (.c 1455)), true), ((.le (.c 1) (.v 11)), true), ((.le (.v 11) (.c 40)), true), ((.le (.c 0) (.v 12)), true), ((.le (.v 12) (.c 39)), true), ((.le (.c 1) (.v 13)), true), ((.le (.v 13) (.c 80)), true), ((.le (.c (-200000)) (.v 14)), true), ((.le (.v 14) (.c 200000)), true), ((.le (.c 0) (.v 15)), true), ((.le (.v 15) (.c 30)), true), ((.le (.c 1) (.v 16)), true), ((.le (.v 16) (.c 120)), true), ((.le (.c 0) (.v 4)), true), ((.le (.v 4) (.v 5)), true)]
noncomputable def b0x7 : Vl := .out 0 [.a (.v 0) (.v 0) (.v 4) 1, .i (.v 4) (.v 4)] [((.eq (.v 16) (.v 13)), true), ((.lt (.v 15) (.c 30)), false), ((.lt (.v 15) (.v 4)), true), ((.le (.c 1200) (.v 10)), true), ((.le (.v 10) (.c 1455)), true), ((.le (.c 1) (.v 11)), true), ((.le (.v 11) (.c 40)), true), ((.le (.c 0) (.v 12)), true), ((.le (.v 12) (.c 39)), true), ((.le (.c 1) (.v 13)), true), ((.le (.v 13) (.c 80)), true), ((.le (.c (-200000)) (.v 14)), true), ((.le (.v 14) (.c 200000)), true), ((.le (.c 0) (.v 15)), true), ((.le (.v 15) (.c 30)), true), ((.le (.c 1) (.v 16)), true), ((.le (.v 16) (.c 120)), true), ((.le (.c 0) (.v 4)), true), ((.le (.v 4) (.v 5)), true)]
noncomputable def b0x8 : Vl := .out 0 [.b (.c false) (.c true), .a (.v 0) (.v 0) (.v 4) 1, .i (.v 4) (.v 4)] [((.lt b0e19 b0e20), true), ((.eq b0e19 b0e20), true), ((.le b0e23 b0e19), true), ((.lt (.v 13) b0e24), true), ((.lt b0e21 b0e24), true), ((.ap 0 (.b (.v 0) (.i (.v 10) (.a b0e16 (.i b0e24 .nil))))), true), ((.eq (.v 16) (.v 13)), false), ((.lt (.v 15) (.c 30)), false), ((.lt (.v 15) (.v 4)), true), ((.le (.c 1200) (.v 10)), true), ((.le (.v 10) (.c 1455)), true), ((.le (.c 1) (.v 11)), true), ((.le (.v 11) (.c 40)), true), ((.le (.c 0) (.v 12)), true), ((.le (.v 12) (.c 39)), true), ((.le (.c 1) (.v 13)), true), ((.le (.v 13) (.c 80)), true), ((.le (.c (-200000)) (.v 14)), true), ((.le (.v 14) (.c 200000)), true), ((.le (.c 0) (.v 15)), true), ((.le (.v 15) (.c 30)), true), ((.le (.c 1) (.v 16)), true), ((.le (.v 16) (.c 120)), true), ((.le (.c 0) (.v 4)), true), ((.le (.v 4) (.v 5)), true)]
noncomputable def b0x9 : Vl := .go 1 [(16, b0e24), (4, (.v 4)), (15, (.v 13)), (17, b0e19), (10, (.v 10))] [] [(1, b0e17), (0, (.v 0))] [((.lt b0e19 b0e20), false), ((.eq b0e19 b0e20), true), ((.le b0e23 b0e19), true), ((.lt (.v 13) b0e24), true), ((.lt b0e21 b0e24), true), ((.ap 0 (.b (.v 0) (.i (.v 10) (.a b0e16 (.i b0e24 .nil))))), true), ((.eq (.v 16) (.v 13)), false), ((.lt (.v 15) (.c 30)), false), ((.lt (.v 15) (.v 4)), true), ((.le (.c 1200) (.v 10)), true), ((.le (.v 10) (.c 1455)), true), ((.le (.c 1) (.v 11)), true), ((.le (.v 11) (.c 40)), true), ((.le (.c 0) (.v 12)), true), ((.le (.v 12) (.c 39)), true), ((.le (.c 1) (.v 13)), true), ((.le (.v 13) (.c 80)), true), ((.le (.c (-200000)) (.v 14)), true), ((.le (.v 14) (.c 200000)), true), ((.le (.c 0) (.v 15)), true), ((.le (.v 15) (.c 30)), true), ((.le (.c 1) (.v 16)), true), ((.le (.v 16) (.c 120)), true), ((.le (.c 0) (.v 4)), true), ((.le (.v 4) (.v 5)), true)] (.code (.loop (loopB (prm3 Try.prog).P 3 28))) (loopK (prm3 Try.prog).P 3 28)
noncomputable def b0x10 : Vl := .out 0 [.b (.c false) (.c true), .a (.v 0) (.v 0) (.v 4) 1, .i (.v 4) (.v 4)] [((.eq b0e19 b0e20), false), ((.le b0e23 b0e19), true), ((.lt (.v 13) b0e24), true), ((.lt b0e21 b0e24), true), ((.ap 0 (.b (.v 0) (.i (.v 10) (.a b0e16 (.i b0e24 .nil))))), true), ((.eq (.v 16) (.v 13)), false), ((.lt (.v 15) (.c 30)), false), ((.lt (.v 15) (.v 4)), true), ((.le (.c 1200) (.v 10)), true), ((.le (.v 10) (.c 1455)), true), ((.le (.c 1) (.v 11)), true), ((.le (.v 11) (.c 40)), true), ((.le (.c 0) (.v 12)), true), ((.le (.v 12) (.c 39)), true), ((.le (.c 1) (.v 13)), true), ((.le (.v 13) (.c 80)), true), ((.le (.c (-200000)) (.v 14)), true), ((.le (.v 14) (.c 200000)), true), ((.le (.c 0) (.v 15)), true), ((.le (.v 15) (.c 30)), true), ((.le (.c 1) (.v 16)), true), ((.le (.v 16) (.c 120)), true), ((.le (.c 0) (.v 4)), true), ((.le (.v 4) (.v 5)), true)]
noncomputable def b0x11 : Vl := .out 0 [.b (.c false) (.c true), .a (.v 0) (.v 0) (.v 4) 1, .i (.v 4) (.v 4)] [((.lt b0e19 b0e20), true), ((.le b0e23 b0e19), false), ((.lt (.v 13) b0e24), true), ((.lt b0e21 b0e24), true), ((.ap 0 (.b (.v 0) (.i (.v 10) (.a b0e16 (.i b0e24 .nil))))), true), ((.eq (.v 16) (.v 13)), false), ((.lt (.v 15) (.c 30)), false), ((.lt (.v 15) (.v 4)), true), ((.le (.c 1200) (.v 10)), true), ((.le (.v 10) (.c 1455)), true), ((.le (.c 1) (.v 11)), true), ((.le (.v 11) (.c 40)), true), ((.le (.c 0) (.v 12)), true), ((.le (.v 12) (.c 39)), true), ((.le (.c 1) (.v 13)), true), ((.le (.v 13) (.c 80)), true), ((.le (.c (-200000)) (.v 14)), true), ((.le (.v 14) (.c 200000)), true), ((.le (.c 0) (.v 15)), true), ((.le (.v 15) (.c 30)), true), ((.le (.c 1) (.v 16)), true), ((.le (.v 16) (.c 120)), true), ((.le (.c 0) (.v 4)), true), ((.le (.v 4) (.v 5)), true)]
noncomputable def b0x12 : Vl := .go 1 [(16, b0e24), (4, (.v 4)), (15, (.v 13)), (17, b0e19), (10, (.v 10))] [] [(1, b0e17), (0, (.v 0))] [((.lt b0e19 b0e20), false), ((.le b0e23 b0e19), false), ((.lt (.v 13) b0e24), true), ((.lt b0e21 b0e24), true), ((.ap 0 (.b (.v 0) (.i (.v 10) (.a b0e16 (.i b0e24 .nil))))), true), ((.eq (.v 16) (.v 13)), false), ((.lt (.v 15) (.c 30)), false), ((.lt (.v 15) (.v 4)), true), ((.le (.c 1200) (.v 10)), true), ((.le (.v 10) (.c 1455)), true), ((.le (.c 1) (.v 11)), true), ((.le (.v 11) (.c 40)), true), ((.le (.c 0) (.v 12)), true), ((.le (.v 12) (.c 39)), true), ((.le (.c 1) (.v 13)), true), ((.le (.v 13) (.c 80)), true), ((.le (.c (-200000)) (.v 14)), true), ((.le (.v 14) (.c 200000)), true), ((.le (.c 0) (.v 15)), true), ((.le (.v 15) (.c 30)), true), ((.le (.c 1) (.v 16)), true), ((.le (.v 16) (.c 120)), true), ((.le (.c 0) (.v 4)), true), ((.le (.v 4) (.v 5)), true)] (.code (.loop (loopB (prm3 Try.prog).P 3 28))) (loopK (prm3 Try.prog).P 3 28)
noncomputable def b0x13 : Vl := .dead [((.lt (.v 13) b0e24), false), ((.lt b0e21 b0e24), true), ((.ap 0 (.b (.v 0) (.i (.v 10) (.a b0e16 (.i b0e24 .nil))))), true), ((.eq (.v 16) (.v 13)), false), ((.lt (.v 15) (.c 30)), false), ((.lt (.v 15) (.v 4)), true), ((.le (.c 1200) (.v 10)), true), ((.le (.v 10) (.c 1455)), true), ((.le (.c 1) (.v 11)), true), ((.le (.v 11) (.c 40)), true), ((.le (.c 0) (.v 12)), true), ((.le (.v 12) (.c 39)), true), ((.le (.c 1) (.v 13)), true), ((.le (.v 13) (.c 80)), true), ((.le (.c (-200000)) (.v 14)), true), ((.le (.v 14) (.c 200000)), true), ((.le (.c 0) (.v 15)), true), ((.le (.v 15) (.c 30)), true), ((.le (.c 1) (.v 16)), true), ((.le (.v 16) (.c 120)), true), ((.le (.c 0) (.v 4)), true), ((.le (.v 4) (.v 5)), true)]
noncomputable def b0x14 : Vl := .dead [((.lt b0e21 b0e24), false), ((.ap 0 (.b (.v 0) (.i (.v 10) (.a b0e16 (.i b0e24 .nil))))), true), ((.eq (.v 16) (.v 13)), false), ((.lt (.v 15) (.c 30)), false), ((.lt (.v 15) (.v 4)), true), ((.le (.c 1200) (.v 10)), true), ((.le (.v 10) (.c 1455)), true), ((.le (.c 1) (.v 11)), true), ((.le (.v 11) (.c 40)), true), ((.le (.c 0) (.v 12)), true), ((.le (.v 12) (.c 39)), true), ((.le (.c 1) (.v 13)), true), ((.le (.v 13) (.c 80)), true), ((.le (.c (-200000)) (.v 14)), true), ((.le (.v 14) (.c 200000)), true), ((.le (.c 0) (.v 15)), true), ((.le (.v 15) (.c 30)), true), ((.le (.c 1) (.v 16)), true), ((.le (.v 16) (.c 120)), true), ((.le (.c 0) (.v 4)), true), ((.le (.v 4) (.v 5)), true)]
noncomputable def b0x15 : Vl := .dead [((.ap 0 (.b (.v 0) (.i (.v 10) (.a b0e16 (.i b0e24 .nil))))), false), ((.eq (.v 16) (.v 13)), false), ((.lt (.v 15) (.c 30)), false), ((.lt (.v 15) (.v 4)), true), ((.le (.c 1200) (.v 10)), true), ((.le (.v 10) (.c 1455)), true), ((.le (.c 1) (.v 11)), true), ((.le (.v 11) (.c 40)), true), ((.le (.c 0) (.v 12)), true), ((.le (.v 12) (.c 39)), true), ((.le (.c 1) (.v 13)), true), ((.le (.v 13) (.c 80)), true), ((.le (.c (-200000)) (.v 14)), true), ((.le (.v 14) (.c 200000)), true), ((.le (.c 0) (.v 15)), true), ((.le (.v 15) (.c 30)), true), ((.le (.c 1) (.v 16)), true), ((.le (.v 16) (.c 120)), true), ((.le (.c 0) (.v 4)), true), ((.le (.v 4) (.v 5)), true)]
noncomputable def b0x16 : Vl := .out 0 [.a (.v 0) (.v 0) (.v 4) 1, .i (.v 4) (.v 4)] [((.eq (.v 16) (.v 13)), true), ((.lt (.v 15) (.v 4)), false), ((.le (.c 1200) (.v 10)), true), ((.le (.v 10) (.c 1455)), true), ((.le (.c 1) (.v 11)), true), ((.le (.v 11) (.c 40)), true), ((.le (.c 0) (.v 12)), true), ((.le (.v 12) (.c 39)), true), ((.le (.c 1) (.v 13)), true), ((.le (.v 13) (.c 80)), true), ((.le (.c (-200000)) (.v 14)), true), ((.le (.v 14) (.c 200000)), true), ((.le (.c 0) (.v 15)), true), ((.le (.v 15) (.c 30)), true), ((.le (.c 1) (.v 16)), true), ((.le (.v 16) (.c 120)), true), ((.le (.c 0) (.v 4)), true), ((.le (.v 4) (.v 5)), true)]
noncomputable def b0x17 : Vl := .out 0 [.b (.c false) (.c true), .a (.v 0) (.v 0) (.v 4) 1, .i (.v 4) (.v 4)] [((.lt b0e19 b0e20), true), ((.eq b0e19 b0e20), true), ((.le b0e23 b0e19), true), ((.lt (.v 13) b0e24), true), ((.lt b0e21 b0e24), true), ((.ap 0 (.b (.v 0) (.i (.v 10) (.a b0e16 (.i b0e24 .nil))))), true), ((.eq (.v 16) (.v 13)), false), ((.lt (.v 15) (.v 4)), false), ((.le (.c 1200) (.v 10)), true), ((.le (.v 10) (.c 1455)), true), ((.le (.c 1) (.v 11)), true), ((.le (.v 11) (.c 40)), true), ((.le (.c 0) (.v 12)), true), ((.le (.v 12) (.c 39)), true), ((.le (.c 1) (.v 13)), true), ((.le (.v 13) (.c 80)), true), ((.le (.c (-200000)) (.v 14)), true), ((.le (.v 14) (.c 200000)), true), ((.le (.c 0) (.v 15)), true), ((.le (.v 15) (.c 30)), true), ((.le (.c 1) (.v 16)), true), ((.le (.v 16) (.c 120)), true), ((.le (.c 0) (.v 4)), true), ((.le (.v 4) (.v 5)), true)]
noncomputable def b0x18 : Vl := .go 1 [(16, b0e24), (4, (.v 4)), (15, (.v 13)), (17, b0e19), (10, (.v 10))] [] [(1, b0e17), (0, (.v 0))] [((.lt b0e19 b0e20), false), ((.eq b0e19 b0e20), true), ((.le b0e23 b0e19), true), ((.lt (.v 13) b0e24), true), ((.lt b0e21 b0e24), true), ((.ap 0 (.b (.v 0) (.i (.v 10) (.a b0e16 (.i b0e24 .nil))))), true), ((.eq (.v 16) (.v 13)), false), ((.lt (.v 15) (.v 4)), false), ((.le (.c 1200) (.v 10)), true), ((.le (.v 10) (.c 1455)), true), ((.le (.c 1) (.v 11)), true), ((.le (.v 11) (.c 40)), true), ((.le (.c 0) (.v 12)), true), ((.le (.v 12) (.c 39)), true), ((.le (.c 1) (.v 13)), true), ((.le (.v 13) (.c 80)), true), ((.le (.c (-200000)) (.v 14)), true), ((.le (.v 14) (.c 200000)), true), ((.le (.c 0) (.v 15)), true), ((.le (.v 15) (.c 30)), true), ((.le (.c 1) (.v 16)), true), ((.le (.v 16) (.c 120)), true), ((.le (.c 0) (.v 4)), true), ((.le (.v 4) (.v 5)), true)] (.code (.loop (loopB (prm3 Try.prog).P 3 28))) (loopK (prm3 Try.prog).P 3 28)
noncomputable def b0x19 : Vl := .out 0 [.b (.c false) (.c true), .a (.v 0) (.v 0) (.v 4) 1, .i (.v 4) (.v 4)] [((.eq b0e19 b0e20), false), ((.le b0e23 b0e19), true), ((.lt (.v 13) b0e24), true), ((.lt b0e21 b0e24), true), ((.ap 0 (.b (.v 0) (.i (.v 10) (.a b0e16 (.i b0e24 .nil))))), true), ((.eq (.v 16) (.v 13)), false), ((.lt (.v 15) (.v 4)), false), ((.le (.c 1200) (.v 10)), true), ((.le (.v 10) (.c 1455)), true), ((.le (.c 1) (.v 11)), true), ((.le (.v 11) (.c 40)), true), ((.le (.c 0) (.v 12)), true), ((.le (.v 12) (.c 39)), true), ((.le (.c 1) (.v 13)), true), ((.le (.v 13) (.c 80)), true), ((.le (.c (-200000)) (.v 14)), true), ((.le (.v 14) (.c 200000)), true), ((.le (.c 0) (.v 15)), true), ((.le (.v 15) (.c 30)), true), ((.le (.c 1) (.v 16)), true), ((.le (.v 16) (.c 120)), true), ((.le (.c 0) (.v 4)), true), ((.le (.v 4) (.v 5)), true)]
noncomputable def b0x20 : Vl := .out 0 [.b (.c false) (.c true), .a (.v 0) (.v 0) (.v 4) 1, .i (.v 4) (.v 4)] [((.lt b0e19 b0e20), true), ((.le b0e23 b0e19), false), ((.lt (.v 13) b0e24), true), ((.lt b0e21 b0e24), true), ((.ap 0 (.b (.v 0) (.i (.v 10) (.a b0e16 (.i b0e24 .nil))))), true), ((.eq (.v 16) (.v 13)), false), ((.lt (.v 15) (.v 4)), false), ((.le (.c 1200) (.v 10)), true), ((.le (.v 10) (.c 1455)), true), ((.le (.c 1) (.v 11)), true), ((.le (.v 11) (.c 40)), true), ((.le (.c 0) (.v 12)), true), ((.le (.v 12) (.c 39)), true), ((.le (.c 1) (.v 13)), true), ((.le (.v 13) (.c 80)), true), ((.le (.c (-200000)) (.v 14)), true), ((.le (.v 14) (.c 200000)), true), ((.le (.c 0) (.v 15)), true), ((.le (.v 15) (.c 30)), true), ((.le (.c 1) (.v 16)), true), ((.le (.v 16) (.c 120)), true), ((.le (.c 0) (.v 4)), true), ((.le (.v 4) (.v 5)), true)]
noncomputable def b0x21 : Vl := .go 1 [(16, b0e24), (4, (.v 4)), (15, (.v 13)), (17, b0e19), (10, (.v 10))] [] [(1, b0e17), (0, (.v 0))] [((.lt b0e19 b0e20), false), ((.le b0e23 b0e19), false), ((.lt (.v 13) b0e24), true), ((.lt b0e21 b0e24), true), ((.ap 0 (.b (.v 0) (.i (.v 10) (.a b0e16 (.i b0e24 .nil))))), true), ((.eq (.v 16) (.v 13)), false), ((.lt (.v 15) (.v 4)), false), ((.le (.c 1200) (.v 10)), true), ((.le (.v 10) (.c 1455)), true), ((.le (.c 1) (.v 11)), true), ((.le (.v 11) (.c 40)), true), ((.le (.c 0) (.v 12)), true), ((.le (.v 12) (.c 39)), true), ((.le (.c 1) (.v 13)), true), ((.le (.v 13) (.c 80)), true), ((.le (.c (-200000)) (.v 14)), true), ((.le (.v 14) (.c 200000)), true), ((.le (.c 0) (.v 15)), true), ((.le (.v 15) (.c 30)), true), ((.le (.c 1) (.v 16)), true), ((.le (.v 16) (.c 120)), true), ((.le (.c 0) (.v 4)), true), ((.le (.v 4) (.v 5)), true)] (.code (.loop (loopB (prm3 Try.prog).P 3 28))) (loopK (prm3 Try.prog).P 3 28)
noncomputable def b0x22 : Vl := .dead [((.lt (.v 13) b0e24), false), ((.lt b0e21 b0e24), true), ((.ap 0 (.b (.v 0) (.i (.v 10) (.a b0e16 (.i b0e24 .nil))))), true), ((.eq (.v 16) (.v 13)), false), ((.lt (.v 15) (.v 4)), false), ((.le (.c 1200) (.v 10)), true), ((.le (.v 10) (.c 1455)), true), ((.le (.c 1) (.v 11)), true), ((.le (.v 11) (.c 40)), true), ((.le (.c 0) (.v 12)), true), ((.le (.v 12) (.c 39)), true), ((.le (.c 1) (.v 13)), true), ((.le (.v 13) (.c 80)), true), ((.le (.c (-200000)) (.v 14)), true), ((.le (.v 14) (.c 200000)), true), ((.le (.c 0) (.v 15)), true), ((.le (.v 15) (.c 30)), true), ((.le (.c 1) (.v 16)), true), ((.le (.v 16) (.c 120)), true), ((.le (.c 0) (.v 4)), true), ((.le (.v 4) (.v 5)), true)]
noncomputable def b0x23 : Vl := .dead [((.lt b0e21 b0e24), false), ((.ap 0 (.b (.v 0) (.i (.v 10) (.a b0e16 (.i b0e24 .nil))))), true), ((.eq (.v 16) (.v 13)), false), ((.lt (.v 15) (.v 4)), false), ((.le (.c 1200) (.v 10)), true), ((.le (.v 10) (.c 1455)), true), ((.le (.c 1) (.v 11)), true), ((.le (.v 11) (.c 40)), true), ((.le (.c 0) (.v 12)), true), ((.le (.v 12) (.c 39)), true), ((.le (.c 1) (.v 13)), true), ((.le (.v 13) (.c 80)), true), ((.le (.c (-200000)) (.v 14)), true), ((.le (.v 14) (.c 200000)), true), ((.le (.c 0) (.v 15)), true), ((.le (.v 15) (.c 30)), true), ((.le (.c 1) (.v 16)), true), ((.le (.v 16) (.c 120)), true), ((.le (.c 0) (.v 4)), true), ((.le (.v 4) (.v 5)), true)]
noncomputable def b0x24 : Vl := .dead [((.ap 0 (.b (.v 0) (.i (.v 10) (.a b0e16 (.i b0e24 .nil))))), false), ((.eq (.v 16) (.v 13)), false), ((.lt (.v 15) (.v 4)), false), ((.le (.c 1200) (.v 10)), true), ((.le (.v 10) (.c 1455)), true), ((.le (.c 1) (.v 11)), true), ((.le (.v 11) (.c 40)), true), ((.le (.c 0) (.v 12)), true), ((.le (.v 12) (.c 39)), true), ((.le (.c 1) (.v 13)), true), ((.le (.v 13) (.c 80)), true), ((.le (.c (-200000)) (.v 14)), true), ((.le (.v 14) (.c 200000)), true), ((.le (.c 0) (.v 15)), true), ((.le (.v 15) (.c 30)), true), ((.le (.c 1) (.v 16)), true), ((.le (.v 16) (.c 120)), true), ((.le (.c 0) (.v 4)), true), ((.le (.v 4) (.v 5)), true)]
noncomputable def b0ls : List Vl := [b0x0, b0x1, b0x2, b0x3, b0x4, b0x5, b0x6, b0x7, b0x8, b0x9, b0x10, b0x11, b0x12, b0x13, b0x14, b0x15, b0x16, b0x17, b0x18, b0x19, b0x20, b0x21, b0x22, b0x23, b0x24]
theorem b0run : (run (prm3 Try.prog) 900 (ptD (pts3 Try.prog) 0 3)).map (vOf (prm3 Try.prog) ct3 (pts3 Try.prog)) = b0ls := by kernel_rfl
-- 25 ways; terms: b0e0, b0e1, b0e2, b0e3, b0e4, b0e5, b0e6, b0e7, b0e8, b0e9, b0e10, b0e11, b0e12, b0e13, b0e14, b0e15, b0e16, b0e17, b0e18, b0e19, b0e20, b0e21, b0e22, b0e23, b0e24

noncomputable def b1e0 : SE := .add (.v 15) (.c 1)
noncomputable def b1e1 : SE := .mul (.v 15) (.c 6)
noncomputable def b1e2 : SE := .rd (.v 1) b1e1
noncomputable def b1e3 : SE := .sub (.v 16) (.c 1)
noncomputable def b1e4 : SE := .mul b1e3 (.c 6)
noncomputable def b1e5 : SE := .rd (.v 1) b1e4
noncomputable def b1e6 : SE := .mul (.c 2) (.v 10)
noncomputable def b1x0 : Vl := .go 1 [(16, (.v 16)), (4, (.v 4)), (15, b1e0), (17, (.v 17)), (10, (.v 10))] [] [(1, (.v 1)), (0, (.v 0))] [((.eq b1e2 (.v 17)), true), ((.lt (.v 15) (.v 16)), true), ((.lt (.v 15) b1e3), true), ((.le (.c 1200) (.v 10)), true), ((.le (.v 10) (.c 1455)), true), ((.le (.c 0) (.v 15)), true), ((.le (.v 15) (.c 130)), true), ((.le (.c 2) (.v 16)), true), ((.le (.v 16) (.c 130)), true)] (.exit .normal) (.loop (loopB (prm3 Try.prog).P 3 28) :: loopK (prm3 Try.prog).P 3 28)
noncomputable def b1x1 : Vl := .out 0 [.b (.c false) (.c true), .a (.v 0) (.v 0) (.v 4) 1, .i (.v 4) (.v 4)] [((.eq b1e2 (.v 17)), false), ((.lt (.v 15) (.v 16)), true), ((.lt (.v 15) b1e3), true), ((.le (.c 1200) (.v 10)), true), ((.le (.v 10) (.c 1455)), true), ((.le (.c 0) (.v 15)), true), ((.le (.v 15) (.c 130)), true), ((.le (.c 2) (.v 16)), true), ((.le (.v 16) (.c 130)), true)]
noncomputable def b1x2 : Vl := .dead [((.lt (.v 15) (.v 16)), false), ((.lt (.v 15) b1e3), true), ((.le (.c 1200) (.v 10)), true), ((.le (.v 10) (.c 1455)), true), ((.le (.c 0) (.v 15)), true), ((.le (.v 15) (.c 130)), true), ((.le (.c 2) (.v 16)), true), ((.le (.v 16) (.c 130)), true)]
noncomputable def b1x3 : Vl := .out 0 [.a (.v 0) (.v 0) (.v 4) 1, .i (.v 4) (.v 4)] [((.lt b1e5 (.v 17)), true), ((.le b1e6 b1e5), true), ((.lt b1e3 (.v 16)), true), ((.lt (.v 15) b1e3), false), ((.le (.c 1200) (.v 10)), true), ((.le (.v 10) (.c 1455)), true), ((.le (.c 0) (.v 15)), true), ((.le (.v 15) (.c 130)), true), ((.le (.c 2) (.v 16)), true), ((.le (.v 16) (.c 130)), true)]
noncomputable def b1x4 : Vl := .out 0 [.a (.v 0) (.v 0) (.v 4) 1, .i (.v 4) (.v 4)] [((.eq b1e5 b1e6), true), ((.lt b1e5 (.v 17)), false), ((.le b1e6 b1e5), true), ((.lt b1e3 (.v 16)), true), ((.lt (.v 15) b1e3), false), ((.le (.c 1200) (.v 10)), true), ((.le (.v 10) (.c 1455)), true), ((.le (.c 0) (.v 15)), true), ((.le (.v 15) (.c 130)), true), ((.le (.c 2) (.v 16)), true), ((.le (.v 16) (.c 130)), true)]
noncomputable def b1x5 : Vl := .out 0 [.b (.c false) (.c true), .a (.v 0) (.v 0) (.v 4) 1, .i (.v 4) (.v 4)] [((.eq b1e5 b1e6), false), ((.lt b1e5 (.v 17)), false), ((.le b1e6 b1e5), true), ((.lt b1e3 (.v 16)), true), ((.lt (.v 15) b1e3), false), ((.le (.c 1200) (.v 10)), true), ((.le (.v 10) (.c 1455)), true), ((.le (.c 0) (.v 15)), true), ((.le (.v 15) (.c 130)), true), ((.le (.c 2) (.v 16)), true), ((.le (.v 16) (.c 130)), true)]
noncomputable def b1x6 : Vl := .out 0 [.b (.c false) (.c true), .a (.v 0) (.v 0) (.v 4) 1, .i (.v 4) (.v 4)] [((.le b1e6 b1e5), false), ((.lt b1e3 (.v 16)), true), ((.lt (.v 15) b1e3), false), ((.le (.c 1200) (.v 10)), true), ((.le (.v 10) (.c 1455)), true), ((.le (.c 0) (.v 15)), true), ((.le (.v 15) (.c 130)), true), ((.le (.c 2) (.v 16)), true), ((.le (.v 16) (.c 130)), true)]
noncomputable def b1x7 : Vl := .dead [((.lt b1e3 (.v 16)), false), ((.lt (.v 15) b1e3), false), ((.le (.c 1200) (.v 10)), true), ((.le (.v 10) (.c 1455)), true), ((.le (.c 0) (.v 15)), true), ((.le (.v 15) (.c 130)), true), ((.le (.c 2) (.v 16)), true), ((.le (.v 16) (.c 130)), true)]
noncomputable def b1ls : List Vl := [b1x0, b1x1, b1x2, b1x3, b1x4, b1x5, b1x6, b1x7]
theorem b1run : (run (prm3 Try.prog) 900 (ptD (pts3 Try.prog) 1 3)).map (vOf (prm3 Try.prog) ct3 (pts3 Try.prog)) = b1ls := by kernel_rfl
-- 8 ways; terms: b1e0, b1e1, b1e2, b1e3, b1e4, b1e5, b1e6

theorem mapT : Try.prog.underlying 25 = some (.map 3 4) := by kernel_rfl
theorem keyT : Try.prog.underlying 3 = some (.int .i64) := by kernel_rfl
theorem zerT (w : World) : (zeroValue 4).run Try.prog w = .ok (.bool false) w := zero_run (by kernel_rfl) w
theorem prm3_ok (E : Env) (hE : E.fn = fns) : PrmOk E (prm3 Try.prog) where
  bt := by
    intro b hb
    simp only [prm3, bts, List.mem_cons, List.not_mem_nil, or_false] at hb
    rw [hE]
    rcases hb with rfl | rfl | rfl
    · exact btMake_ok mapB
    · exact btGet_ok mapB mapT keyT zerT
    · exact btPut_ok mapB mapT keyT
  ct := by
    intro c hc
    simp only [prm3, List.mem_cons, List.not_mem_nil, or_false] at hc
    rw [hE]
    rcases hc with rfl | rfl | rfl
    · exact ct7_ok
    · exact ct5_ok
    · exact ct6_ok
  mix := by kernel_rfl
  okf := okf_call
  body := okf_body
  mts := by intro x hx; cases hx
  dfr := by intro x hx; cases hx
  dfk := by intro x hx; cases hx
theorem prm3n_ok (E : Env) (hE : E.fn = fns) : PrmOk E (prm3n Try.prog) :=
  ⟨(prm3_ok E hE).bt, (prm3_ok E hE).ct, (prm3_ok E hE).mix, (prm3_ok E hE).okf, (prm3_ok E hE).body, (prm3_ok E hE).mts, (prm3_ok E hE).dfr, (prm3_ok E hE).dfk⟩
theorem ct3n_ok : CtOk Try.prog fns ct3n := by
  refine ct_of_pts (p := prm3n Try.prog) (pts := []) (n := 900) (c0 := enterD (prm3n Try.prog) ct3n) (fun E hE => prm3n_ok E hE) rfl (by intro q hq; cases hq) Try.func3 (by kernel_rfl) (by intro t ht; cases ht) (fun _ _ _ => True) (fun _ _ _ => 0) nls nrun ?_ (by intro i t ht; simp at ht)
  intro E hE hF
  simp only [ct3n, bd, List.cons_append, List.nil_append, facts_cons, facts_nil, le_t, d_c, d_v, and_true] at hF
  have e2 : ne1.den E = 1 + E.i 2 % 40 := by simp only [ne1, ne0, d_add, d_tmod, d_c, d_v]; rw [tmn (by omega)]
  have e4 : ne2.den E = E.i 3 % (1 + E.i 2 % 40) := by unfold ne2; rw [d_tmod, e2, d_v, tmn (by omega)]
  have p0 : 0 ≤ E.i 3 % (1 + E.i 2 % 40) := Int.emod_nonneg _ (by omega)
  have p1 : E.i 3 % (1 + E.i 2 % 40) < 1 + E.i 2 % 40 := Int.emod_lt_of_pos _ (by omega)
  refine ⟨fun a ha => ?_, fun x hx => ?_⟩
  · obtain rfl := Option.some.inj ha; intro q hq; cases hq
  · unfold nls at hx
    simp only [List.mem_cons, List.not_mem_nil, or_false] at hx
    rcases hx with rfl | rfl | rfl | rfl
    · intro _; exact ⟨rfl, by intro q hq; cases hq⟩
    all_goals
      intro hf
      simp only [facts_cons, facts_nil, lt_t, lt_f, le_t, le_f, eq_t, eq_f, and_true, d_c, d_v, e2, e4] at hf
      omega
theorem g1d {E : Env} (hE : E.fn = fns) {n : SE} {a : AE} : (SB.ap 1 (.a a (.i n .nil))).den E = true ↔ rng255 (a.den E) (n.den E).toNat := by
  show E.fn.g 1 [.a (a.den E), .i (n.den E)] = true ↔ _
  rw [hE]
  exact @decide_eq_true_iff _ (Classical.propDecidable _)
/-- What holds at the heads of the loops. -/
def I3 (E0 : Env) (i : Nat) (E : Env) : Prop :=
  match i with
  | 0 => E.b 0 = E0.b 0 ∧ E.i 4 = E0.i 4 ∧ E.i 5 = E0.i 5 ∧ E.a 0 = E0.a 0 ∧ (0 ≤ E.i 15 ∧ E.i 15 ≤ 30) ∧
      ∃ N K m : Nat, E.i 11 = N ∧ E.i 12 = K ∧ E.i 13 = N + K ∧ E.i 16 = m ∧ Loss N K (E.i 10) (E.a 1) m (E.i 14) (E.a 2) (E.a 3)
  | _ => E.i 4 = E0.i 4 ∧ E.a 0 = E0.a 0 ∧ (1200 ≤ E.i 10 ∧ E.i 10 ≤ 1455) ∧ (0 ≤ E.i 15 ∧ E.i 15 ≤ E.i 16 - 1) ∧ (2 ≤ E.i 16 ∧ E.i 16 ≤ 130) ∧
      (∀ r : Nat, E.i 15 ≤ r → r < E.i 16 - 1 → E.a 1 (r * 6) = E.i 17) ∧ 2 * E.i 10 ≤ E.a 1 ((E.i 16 - 1).toNat * 6) ∧ (E.a 1 ((E.i 16 - 1).toNat * 6) < E.i 17 ∨ E.a 1 ((E.i 16 - 1).toNat * 6) = 2 * E.i 10)
def mu3 (E0 : Env) (i : Nat) (E : Env) : Nat :=
  match i with
  | 0 => 1000 + (40 - E.i 15).toNat
  | _ => (200 - E.i 15).toNat
theorem winOf_all (r : Int) {sz c : Int} (h : 2400 ≤ c ∧ c ≤ 200000) (hz : 1200 ≤ sz ∧ sz ≤ 1455) : 2400 ≤ winOf r sz c ∧ winOf r sz c ≤ 200000 ∧ sz * 2 ≤ winOf r sz c ∧ (winOf r sz c < c ∨ winOf r sz c = sz * 2) := by
  unfold winOf
  split
  · exact winC_ok h hz
  · exact winR_ok h hz
theorem ct3_ok : CtOk Try.prog fns ct3 := by
  refine ct_of_pts (p := prm3 Try.prog) (pts := pts3 Try.prog) (n := 900) (c0 := enterD (prm3 Try.prog) ct3) (fun E hE => prm3_ok E hE) rfl (by intro q hq; cases hq) Try.func3 (by kernel_rfl) ?_ I3 mu3 als arun ?_ ?_
  · intro t ht
    simp only [pts3, pt3a, pt3b, List.mem_cons, List.not_mem_nil, or_false] at ht
    rcases ht with rfl | rfl
    · exact ⟨by kernel_rfl, by decide⟩
    · exact ⟨by kernel_rfl, by decide⟩
  · intro E hE hF
    simp only [ct3, bd, List.cons_append, List.nil_append, facts_cons, facts_nil, le_t, d_c, d_v, and_true] at hF
    have e1 : ae1.den E = 1 + E.i 2 % 40 := by simp only [ae1, ae0, d_add, d_tmod, d_c, d_v]; rw [tmn (by omega)]
    have e2 : ae2.den E = E.i 3 % (1 + E.i 2 % 40) := by unfold ae2; rw [d_tmod, e1, d_v, tmn (by omega)]
    have p0 : 0 ≤ E.i 3 % (1 + E.i 2 % 40) := Int.emod_nonneg _ (by omega)
    have p1 : E.i 3 % (1 + E.i 2 % 40) < 1 + E.i 2 % 40 := Int.emod_lt_of_pos _ (by omega)
    refine ⟨fun a ha => ?_, fun x hx => ?_⟩
    · obtain rfl := Option.some.inj ha; intro q hq; cases hq
    · unfold als at hx
      simp only [List.mem_cons, List.not_mem_nil, or_false] at hx
      rcases hx with rfl | rfl | rfl | rfl | rfl
      · intro _
        refine ⟨rfl, ?_⟩
        simp only [List.forall_mem_cons, List.not_mem_nil, false_imp_iff, implies_true, and_true, Eqn.ok]
      · intro _
        refine ⟨⟨_, rfl, .inl ⟨rfl, rfl⟩⟩, fun o => ⟨?_, fun b hb => by cases hb⟩⟩
        obtain ⟨N, hN⟩ : ∃ N : Nat, (N : Int) = 1 + E.i 2 % 40 := ⟨(1 + E.i 2 % 40).toNat, by omega⟩
        obtain ⟨K, hK⟩ : ∃ K : Nat, (K : Int) = E.i 3 % (1 + E.i 2 % 40) := ⟨(E.i 3 % (1 + E.i 2 % 40)).toNat, by omega⟩
        refine ⟨rfl, rfl, rfl, rfl, ⟨Int.le_refl 0, (show (0 : Int) ≤ 30 by decide)⟩, N, K, N + K, ?_, ?_, ?_, ?_, ?_⟩
        · show ae1.den E = N; omega
        · show ae2.den E = K; omega
        · show ae1.den E + ae2.den E = N + K; omega
        · show ae1.den E + ae2.den E = ((N + K : Nat) : Int); omega
        · show Loss N K (1200 + E.i 1) (ae9.den E) (N + K) (ae7.den E) (ae8.den E) (ae8.den E)
          have hz : ∀ z, ae8.den E z = 0 := fun z => by simp [ae8, AE.den, SE.den, SL.nth]
          have hfl : ae7.den E = ((N : Int) - K) * (1200 + E.i 1) := by
            have hm := mul_bd (a := (N : Int) - K) (b := 1200 + E.i 1) (by omega) (by omega)
            unfold ae7
            rw [d_wrap]
            have : ae6.den E = ((N : Int) - K) * (1200 + E.i 1) := by
              show (ae1.den E - ae2.den E) * (1200 + E.i 1) = _
              rw [e1, e2, hN, hK]
            rw [this]; exact w64 (by omega)
          rw [hfl]
          refine Loss.begin (by omega) (by omega) (by omega) (fun j hj => ?_) hz hz
          unfold ae9
          rw [a1d hE, e1, ← hN]; rfl
      all_goals
        intro hf
        simp only [facts_cons, facts_nil, lt_t, lt_f, le_t, le_f, eq_t, eq_f, and_true, d_c, d_v, e1, e2] at hf
        omega
  · intro k t ht
    have hk : k = 0 ∨ k = 1 := by
      have := (List.getElem?_eq_some_iff.1 ht).1
      simp [pts3] at this; omega
    rcases hk with rfl | rfl
    · refine ⟨b0ls, by rw [← ptD_some ht ct3.g]; exact b0run, fun E0 E hE0 hE hF0 hI => ?_⟩
      simp only [ct3, bd, List.cons_append, List.nil_append, facts_cons, facts_nil, le_t, d_c, d_v, and_true, g1d hE0] at hF0
      obtain ⟨g0, g1, g2, g3, g4, N, K, m, n1, n2, n3, n4, L⟩ := hI
      obtain ⟨_, _, _, _, _, _, hl0, hl1, hrng⟩ := hF0
      have hn := L.n; have hkn := L.k; have hz := L.z; have hge := L.ge; have hle := L.le; have hfl := L.flb
      refine ⟨?_, fun x hx => ?_⟩
      · obtain rfl := Option.some.inj ht
        simp only [pt3a, fc3, bd, List.cons_append, List.nil_append, facts_cons, facts_nil, le_t, d_c, d_v, and_true]
        omega
      have hat : ∀ (h1 : E.i 15 < E.i 4), 0 ≤ b0e1.den E ∧ b0e1.den E ≤ 255 := fun h1 => by
        have : b0e1.den E = E0.a 0 (E.i 15).toNat := by show E.a 0 (E.i 15).toNat = _; rw [g3]
        rw [this]
        exact hrng _ (by show (E.i 15).toNat < (E0.i 4).toNat; omega)
      have h0 : b0e0.den E = (N : Int) - K := by show E.i 11 - E.i 12 = _; omega
      have h4 : ∀ (h1 : E.i 15 < E.i 4), b0e4.den E = b0e1.den E % ((N : Int) - K) := fun h1 => by
        unfold b0e4; rw [d_tmod, h0, tmn (hat h1).1]
      have h4b : ∀ (h1 : E.i 15 < E.i 4), 0 ≤ b0e4.den E ∧ b0e4.den E < (N : Int) - K := fun h1 => by
        rw [h4 h1]; exact ⟨Int.emod_nonneg _ (by omega), Int.emod_lt_of_pos _ (by omega)⟩
      have h5 : b0e5.den E = E.i 12 + 1 + b0e4.den E := rfl
      have dead : ∀ F : Fx, (Facts E F → False) → VOk (pts3 Try.prog) ct3 I3 mu3 (some (mu3 E0 0 E)) E0 E (.dead F) := fun F h => h
      -- behind the loop
      have tB0 : ∀ c, b0e16.den E (6 * m + c) = SL.nth E (.i (.c 0) (.i b0e14 (.i (.v 10) (.i (.v 14) (.i (.c 900000000) (.b (.c true) (.i (.c 2) (.i b0e14 (.i (.v 10) (.i b0e15 (.i (.c 0) (.b (.c false) .nil)))))))))))) c := by
        intro c
        have e12 : (b0e12.den E).toNat = m * 6 := by show (E.i 16 * 6).toNat = _; omega
        unfold b0e16
        simp only [AE.den, e12]; rw [if_neg (by omega), show 6 * m + c - m * 6 = c from by omega]
      have tB1 : ∀ j, j < m * 6 → b0e16.den E j = E.a 1 j := by
        intro j hj
        have e12 : (b0e12.den E).toNat = m * 6 := by show (E.i 16 * 6).toNat = _; omega
        unfold b0e16
        simp only [AE.den, e12]; rw [if_pos hj]
      have hfin : N + K < m → scrOk (winOf (b2i (E.b 0)) (E.i 10)) (E.i 10) (b0e16.den E) (m + 2) ∧ ∃ w0, (2400 ≤ w0 ∧ w0 ≤ 200000) ∧ outA (winOf (b2i (E.b 0)) (E.i 10)) (E.i 10) (b0e16.den E) ((N + K - 1) * 6) = w0 ∧
          (∀ r, N + K ≤ r → r < m + 1 → outA (winOf (b2i (E.b 0)) (E.i 10)) (E.i 10) (b0e16.den E) (r * 6) = winOf (b2i (E.b 0)) (E.i 10) w0) ∧ outA (winOf (b2i (E.b 0)) (E.i 10)) (E.i 10) (b0e16.den E) ((m + 1) * 6) = winOf (b2i (E.b 0)) (E.i 10) (winOf (b2i (E.b 0)) (E.i 10) w0) := fun hm =>
        once L hm tB1 (tB0 0) ((tB0 1).trans (by show E.i 11 + 1 = _; omega)) (tB0 2) (tB0 3) (tB0 4) (tB0 5) (tB0 6) ((tB0 7).trans (by show E.i 11 + 1 = _; omega)) (tB0 8) (tB0 9) (tB0 10) (tB0 11)
      have h24 : b0e24.den E = m + 2 := by show E.i 16 + 2 = _; omega
      have hg : N + K < m → (SB.ap 0 (.b (.v 0) (.i (.v 10) (.a b0e16 (.i b0e24 .nil))))).den E = true := fun hm => (g0d hE).2 (by rw [h24, show ((m : Int) + 2).toNat = m + 2 by omega]; exact (hfin hm).1)
      have h17 : ∀ j, b0e17.den E j = outA (winOf (b2i (E.b 0)) (E.i 10)) (E.i 10) (b0e16.den E) j := fun j => by unfold b0e17; rw [a0d hE]; rfl
      have h19 : b0e19.den E = outA (winOf (b2i (E.b 0)) (E.i 10)) (E.i 10) (b0e16.den E) ((N + K) * 6) := by
        unfold b0e19; rw [d_rd, h17]; congr 1; show (E.i 13 * 6).toNat = _; omega
      have h23 : b0e23.den E = outA (winOf (b2i (E.b 0)) (E.i 10)) (E.i 10) (b0e16.den E) ((N + K - 1) * 6) := by
        unfold b0e23; rw [d_rd, h17]; congr 1; show ((E.i 13 - 1) * 6).toNat = _; omega
      have h20 : b0e20.den E = 2 * E.i 10 := rfl
      have h21 : b0e21.den E = E.i 13 - 1 := rfl
      have hvals : N + K < m → b0e19.den E < b0e23.den E ∨ b0e19.den E = 2 * E.i 10 := fun hm => by
        obtain ⟨_, w0, q1, q2, q3, q4⟩ := hfin hm
        rw [h19, h23, q2, q3 _ (Nat.le_refl _) (by omega)]
        have := winOf_all (b2i (E.b 0)) q1 hz
        omega
      have hlow : N + K < m → 2 * E.i 10 ≤ b0e19.den E := fun hm => by
        obtain ⟨_, w0, q1, q2, q3, q4⟩ := hfin hm
        rw [h19, q3 _ (Nat.le_refl _) (by omega)]
        have := winOf_all (b2i (E.b 0)) q1 hz
        omega
      have hgo1 : N + K < m → ∀ o, I3 E0 1 (E.put [(16, b0e24), (4, (.v 4)), (15, (.v 13)), (17, b0e19), (10, (.v 10))] [] [(1, b0e17), (0, (.v 0))] o) := fun hm o => by
        obtain ⟨_, w0, q1, q2, q3, q4⟩ := hfin hm
        have w1 := winOf_all (b2i (E.b 0)) q1 hz
        have w2 := winOf_all (b2i (E.b 0)) (c := winOf (b2i (E.b 0)) (E.i 10) w0) ⟨w1.1, w1.2.1⟩ hz
        have e19 : b0e19.den E = winOf (b2i (E.b 0)) (E.i 10) w0 := by rw [h19]; exact q3 _ (Nat.le_refl _) (by omega)
        have elast : b0e17.den E ((b0e24.den E - 1).toNat * 6) = winOf (b2i (E.b 0)) (E.i 10) (winOf (b2i (E.b 0)) (E.i 10) w0) := by
          rw [h17, h24, show ((m : Int) + 2 - 1).toNat = m + 1 by omega]; exact q4
        refine ⟨g1, g3, hz, ⟨?_, ?_⟩, ⟨?_, ?_⟩, fun r r1 r2 => ?_, ?_, ?_⟩
        · show 0 ≤ E.i 13; omega
        · show E.i 13 ≤ b0e24.den E - 1; omega
        · show 2 ≤ b0e24.den E; omega
        · show b0e24.den E ≤ 130; omega
        · have r1' : E.i 13 ≤ r := r1
          have r2' : (r : Int) < b0e24.den E - 1 := r2
          show b0e17.den E (r * 6) = b0e19.den E
          rw [h17, e19]; exact q3 r (by omega) (by omega)
        · show 2 * E.i 10 ≤ b0e17.den E ((b0e24.den E - 1).toNat * 6)
          rw [elast]; omega
        · show b0e17.den E ((b0e24.den E - 1).toNat * 6) < b0e19.den E ∨ b0e17.den E ((b0e24.den E - 1).toNat * 6) = 2 * E.i 10
          rw [elast, e19]; omega
      have hmu : ∀ o, mu3 E0 1 (E.put [(16, b0e24), (4, (.v 4)), (15, (.v 13)), (17, b0e19), (10, (.v 10))] [] [(1, b0e17), (0, (.v 0))] o) < mu3 E0 0 E := fun o => by
        show (200 - E.i 13).toNat < 1000 + (40 - E.i 15).toNat; omega
      unfold b0ls at hx
      simp only [List.mem_cons, List.not_mem_nil, or_false] at hx
      have hin : ∀ (F : Fx), Facts E F → ((.lt (.v 15) (.v 4)), true) ∈ F → E.i 15 < E.i 4 := fun F hf hm => by
        have := hf _ hm
        simpa only [lt_t, d_v] using this
      have hne : ∀ (F : Fx), Facts E F → ((.eq (.v 16) (.v 13)), false) ∈ F → N + K < m := fun F hf hm => by
        have := hf _ hm
        simp only [eq_f, d_v] at this
        omega
      rcases hx with rfl | rfl | rfl | rfl | rfl | rfl | rfl | rfl | rfl | rfl | rfl | rfl | rfl | rfl | rfl | rfl | rfl | rfl | rfl | rfl | rfl | rfl | rfl | rfl | rfl
      · intro hf
        simp only [facts_cons, eq_t, d_c, h0] at hf; omega
      · intro hf
        refine ⟨⟨_, rfl, .inr ⟨rfl, rfl⟩⟩, fun o => ⟨⟨g0, g1, g2, g3, ?_, N, K, m, n1, n2, n3, n4, L⟩, fun b hb => ?_⟩⟩
        · simp only [facts_cons, lt_t, d_c, d_v] at hf
          show 0 ≤ E.i 15 + 1 ∧ E.i 15 + 1 ≤ 30; omega
        · cases hb; show 1000 + (40 - (E.i 15 + 1)).toNat < 1000 + (40 - E.i 15).toNat; omega
      · intro hf
        have h1 := hin _ hf (by simp)
        have h1b := h4b h1
        have hd : (SB.and (.not (.eq b0e6 (.c 0))) (.not (.eq b0e7 (.c 0)))).den E = false := hf ((SB.and (.not (.eq b0e6 (.c 0))) (.not (.eq b0e7 (.c 0)))), false) (by simp)
        have hi : E.i 15 < 30 := by
          have := hf ((.lt (.v 15) (.c 30)), true) (by simp)
          simpa only [lt_t, d_v, d_c] using this
        obtain ⟨z, hz1⟩ : ∃ z : Nat, (z : Int) = b0e5.den E := ⟨(b0e5.den E).toNat, by omega⟩
        have hz2 : (b0e5.den E).toNat = z := by omega
        have p6 : b0e6.den E = E.a 2 z := by unfold b0e6; rw [d_rd, hz2]; rfl
        have p7 : b0e7.den E = E.a 3 z := by unfold b0e7; rw [d_rd, hz2]; rfl
        have hp0 : E.a 2 z = 0 := by
          have hpv := L.pv z
          simp only [SB.den, p6, p7, d_c] at hd
          by_cases hh : E.a 2 z = 0
          · exact hh
          · have h3' : E.a 3 z ≠ 0 := fun h => hh (hpv.2 h)
            have b1 : (E.a 2 z == 0) = false := by simpa using hh
            have b2 : (E.a 3 z == 0) = false := by simpa using h3'
            rw [b1, b2] at hd; cases hd
        have e12 : (b0e12.den E).toNat = m * 6 := by show (E.i 16 * 6).toNat = _; omega
        have tC : ∀ c, b0e13.den E (6 * m + c) = SL.nth E (.i (.c 2) (.i b0e5 (.i (.v 10) (.i (.v 14) (.i (.c 0) (.b (.c false) .nil)))))) c := by
          intro c
          unfold b0e13
          simp only [AE.den, e12]; rw [if_neg (by omega), show 6 * m + c - m * 6 = c from by omega]
        have hL := L.next (z := z) (p2 := b0e11.den E) (v2 := b0e10.den E) (B := b0e13.den E) (by omega) hp0 (fun y => by unfold b0e11; simp only [AE.den, hz2, SE.den]) (fun y => by unfold b0e10; simp only [AE.den, hz2, SE.den])
          (fun j hj => by unfold b0e13; simp only [AE.den, e12]; rw [if_pos hj]) (tC 0) ((tC 1).trans hz1.symm) (tC 2) (tC 3) (tC 4) (tC 5)
        refine ⟨⟨_, rfl, .inr ⟨rfl, rfl⟩⟩, fun o => ⟨⟨g0, g1, g2, g3, ?_, N, K, m + 1, n1, n2, n3, ?_, hL⟩, fun b hb => ?_⟩⟩
        · show 0 ≤ E.i 15 + 1 ∧ E.i 15 + 1 ≤ 30; omega
        · show E.i 16 + 1 = ((m + 1 : Nat) : Int); omega
        · cases hb; show 1000 + (40 - (E.i 15 + 1)).toNat < 1000 + (40 - E.i 15).toNat; omega
      · intro hf
        have h1 := hin _ hf (by simp)
        have h1b := h4b h1
        simp only [facts_cons, le_f, d_c] at hf; omega
      · intro hf
        have h1 := hin _ hf (by simp)
        have h1b := h4b h1
        simp only [facts_cons, le_f, d_c] at hf; omega
      · intro hf
        have h1 := hin _ hf (by simp)
        have h1b := hat h1
        simp only [facts_cons, le_f, d_c] at hf; omega
      · intro hf
        have h1 := hin _ hf (by simp)
        have h1b := hat h1
        simp only [facts_cons, le_f, d_c] at hf; omega
      · intro hf
        exact ⟨rfl, by simp only [List.forall_mem_cons, List.not_mem_nil, false_imp_iff, implies_true, and_true, Eqn.ok, d_v, g1]; exact fun j _ => by rw [d_av, d_av, g3]⟩
      · intro hf
        exfalso
        have hm := hne _ hf (by simp)
        have := hlow hm
        simp only [facts_cons, lt_t, h20] at hf; omega
      · intro hf
        have hm := hne _ hf (by simp)
        exact ⟨⟨_, rfl, .inl ⟨rfl, rfl⟩⟩, fun o => ⟨hgo1 hm o, fun b hb => by cases hb; exact hmu o⟩⟩
      · intro hf
        exfalso
        have hm := hne _ hf (by simp)
        have := hvals hm
        simp only [facts_cons, le_t, eq_f, h20] at hf; omega
      · intro hf
        exfalso
        have hm := hne _ hf (by simp)
        have := hlow hm
        simp only [facts_cons, lt_t, h20] at hf; omega
      · intro hf
        have hm := hne _ hf (by simp)
        exact ⟨⟨_, rfl, .inl ⟨rfl, rfl⟩⟩, fun o => ⟨hgo1 hm o, fun b hb => by cases hb; exact hmu o⟩⟩
      · intro hf
        simp only [facts_cons, lt_f, h24, d_v] at hf; omega
      · intro hf
        simp only [facts_cons, lt_f, h24, h21] at hf; omega
      · intro hf
        have hm := hne _ hf (by simp)
        have h2 := hf ((.ap 0 (.b (.v 0) (.i (.v 10) (.a b0e16 (.i b0e24 .nil))))), false) (by simp)
        rw [hg hm] at h2; cases h2
      · intro hf
        exact ⟨rfl, by simp only [List.forall_mem_cons, List.not_mem_nil, false_imp_iff, implies_true, and_true, Eqn.ok, d_v, g1]; exact fun j _ => by rw [d_av, d_av, g3]⟩
      · intro hf
        exfalso
        have hm := hne _ hf (by simp)
        have := hlow hm
        simp only [facts_cons, lt_t, h20] at hf; omega
      · intro hf
        have hm := hne _ hf (by simp)
        exact ⟨⟨_, rfl, .inl ⟨rfl, rfl⟩⟩, fun o => ⟨hgo1 hm o, fun b hb => by cases hb; exact hmu o⟩⟩
      · intro hf
        exfalso
        have hm := hne _ hf (by simp)
        have := hvals hm
        simp only [facts_cons, le_t, eq_f, h20] at hf; omega
      · intro hf
        exfalso
        have hm := hne _ hf (by simp)
        have := hlow hm
        simp only [facts_cons, lt_t, h20] at hf; omega
      · intro hf
        have hm := hne _ hf (by simp)
        exact ⟨⟨_, rfl, .inl ⟨rfl, rfl⟩⟩, fun o => ⟨hgo1 hm o, fun b hb => by cases hb; exact hmu o⟩⟩
      · intro hf
        simp only [facts_cons, lt_f, h24, d_v] at hf; omega
      · intro hf
        simp only [facts_cons, lt_f, h24, h21] at hf; omega
      · intro hf
        have hm := hne _ hf (by simp)
        have h2 := hf ((.ap 0 (.b (.v 0) (.i (.v 10) (.a b0e16 (.i b0e24 .nil))))), false) (by simp)
        rw [hg hm] at h2; cases h2
    · refine ⟨b1ls, by rw [← ptD_some ht ct3.g]; exact b1run, fun E0 E hE0 hE hF0 hI => ?_⟩
      obtain ⟨g1, g3, hz, ⟨i1, i2⟩, ⟨m1, m2⟩, hall, hl1, hl2⟩ := hI
      have h5 : b1e5.den E = E.a 1 ((E.i 16 - 1).toNat * 6) := by
        show E.a 1 ((E.i 16 - 1) * 6).toNat = _; congr 1; omega
      have h6 : b1e6.den E = 2 * E.i 10 := rfl
      have h3 : b1e3.den E = E.i 16 - 1 := rfl
      have h2 : E.i 15 < E.i 16 - 1 → b1e2.den E = E.i 17 := fun h => by
        have := hall (E.i 15).toNat (by omega) (by omega)
        rw [← this]
        show E.a 1 (E.i 15 * 6).toNat = _; congr 1; omega
      rw [← h5] at hl1 hl2
      have hout : ∀ q ∈ [Eqn.a (.v 0) (.v 0) (.v 4) 1, Eqn.i (.v 4) (.v 4)], q.ok E E0 := by
        simp only [List.forall_mem_cons, List.not_mem_nil, false_imp_iff, implies_true, and_true, Eqn.ok, d_v, g1]
        exact fun j _ => by rw [d_av, d_av, g3]
      refine ⟨?_, fun x hx => ?_⟩
      · obtain rfl := Option.some.inj ht
        simp only [pt3b, bd, List.cons_append, List.nil_append, facts_cons, facts_nil, le_t, d_c, d_v, and_true]
        omega
      unfold b1ls at hx
      simp only [List.mem_cons, List.not_mem_nil, or_false] at hx
      rcases hx with rfl | rfl | rfl | rfl | rfl | rfl | rfl | rfl
      · intro hf
        simp only [facts_cons, lt_t, d_v, h3] at hf
        refine ⟨⟨_, rfl, .inr ⟨rfl, rfl⟩⟩, fun o => ⟨⟨g1, g3, hz, ⟨?_, ?_⟩, ⟨m1, m2⟩, fun r r1 r2 => ?_, ?_, ?_⟩, fun b hb => ?_⟩⟩
        · show 0 ≤ E.i 15 + 1; omega
        · show E.i 15 + 1 ≤ E.i 16 - 1; omega
        · have r1' : E.i 15 + 1 ≤ (r : Int) := r1
          exact hall r (by omega) r2
        · rw [h5] at hl1; exact hl1
        · rw [h5] at hl2; exact hl2
        · cases hb; show (200 - (E.i 15 + 1)).toNat < (200 - E.i 15).toNat; omega
      · intro hf
        exfalso
        simp only [facts_cons, eq_f, lt_t, d_v, h3] at hf
        exact hf.1 (h2 hf.2.2.1)
      · intro hf
        simp only [facts_cons, lt_t, lt_f, d_v, h3] at hf; omega
      · intro hf
        exact ⟨rfl, hout⟩
      · intro hf
        exact ⟨rfl, hout⟩
      · intro hf
        exfalso
        simp only [facts_cons, eq_f, lt_f, le_t, d_v, h6] at hf
        omega
      · intro hf
        exfalso
        simp only [facts_cons, le_f, h6] at hf
        omega
      · intro hf
        simp only [facts_cons, lt_f, d_v, h3] at hf; omega
end Go.Proofs.Ytlclcnkmdbmceaa
