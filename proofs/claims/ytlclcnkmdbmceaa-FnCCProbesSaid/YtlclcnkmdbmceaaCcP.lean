/- CCPlay keeps its contract. -/
import Derived.Test.YtlclcnkmdbmceaaCcU
set_option linter.unusedVariables false
set_option linter.unusedSimpArgs false
set_option maxRecDepth 100000
set_option maxHeartbeats 4000000
namespace Go.Proofs.Ytlclcnkmdbmceaa
open Go Go.Sy Go.RowKit

noncomputable def pae0 : SE := .mul (.c 32) (.v 1)
noncomputable def pax0 : Vl := .go 0 [(6, (.c 0)), (5, (.c 0)), (4, (.c 0)), (8, (.c 0)), (7, (.c 0)), (9, pae0), (1, (.v 1)), (19, (.c 0)), (18, (.c 0)), (17, (.c 0)), (16, (.c 0)), (15, (.c 4611686018427387903)), (14, pae0), (13, (.c (-1))), (12, (.c (-1))), (11, (.c (-1))), (10, (.c 0)), (3, (.c 0)), (2, (.v 2))] [(1, (.c false)), (0, (.v 0))] [(0, (.v 0))] [((.le (.c 1200) (.v 1)), true), ((.le (.v 1) (.c 1455)), true), ((.le (.c 0) (.v 2)), true), ((.le (.v 2) (.c 1000)), true), ((.ap 0 (.i (.v 1) (.a (.v 0) (.i (.v 2) .nil)))), true)] (.code (.loop (loopB (prm7 Try.prog).P 7 5))) (loopK (prm7 Try.prog).P 7 5)
noncomputable def pals : List Vl := [pax0]
theorem parun : (run (prm7 Try.prog) 600 (enterD (prm7 Try.prog) ct7)).map (vOf (prm7 Try.prog) ct7 (pts7 Try.prog)) = pals := by kernel_rfl
-- 1 ways; terms: pae0

noncomputable def p0e0 : SE := .mul (.v 3) (.c 6)
noncomputable def p0e1 : SE := .rd (.v 0) p0e0
noncomputable def p0e2 : SE := .add p0e0 (.c 4)
noncomputable def p0e3 : SE := .rd (.v 0) p0e2
noncomputable def p0e4 : SE := .add p0e0 (.c 3)
noncomputable def p0e5 : SE := .rd (.v 0) p0e4
noncomputable def p0e6 : SE := .add p0e0 (.c 2)
noncomputable def p0e7 : SE := .rd (.v 0) p0e6
noncomputable def p0e8 : SE := .add p0e0 (.c 1)
noncomputable def p0e9 : SE := .rd (.v 0) p0e8
noncomputable def p0e10 : SE := .add p0e0 (.c 5)
noncomputable def p0e11 : SE := .rd (.v 0) p0e10
noncomputable def p0e12 : SE := .ap 0 (.i (.v 14) (.i (.v 15) .nil))
noncomputable def p0e13 : SE := .ap 3 (.i p0e3 (.i p0e7 (.i p0e12 (.i (.v 5) (.i (.v 6) .nil)))))
noncomputable def p0e14 : SE := .add (.v 3) (.c 1)
noncomputable def p0e15 : SE := .ap 2 (.i p0e3 (.i p0e12 (.i p0e13 (.i p0e3 .nil))))
noncomputable def p0e16 : SE := .ap 4 (.i p0e12 (.i p0e13 (.i p0e3 .nil)))
noncomputable def p0e17 : AE := .tl (.v 1) p0e0 (.i (.v 14) (.b (.lt (.v 14) (.v 15)) (.b (.c false) (.b (.lt p0e5 (.v 14)) (.b (.le (.v 1) p0e15) (.i p0e16 .nil))))))
noncomputable def p0e18 : AE := .tl (.v 1) p0e0 (.i (.v 14) (.b (.lt (.v 14) (.v 15)) (.b (.le (.v 12) (.v 13)) (.b (.lt p0e5 (.v 14)) (.b (.le (.v 1) p0e15) (.i p0e16 .nil))))))
noncomputable def p0e19 : SE := .ap 5 (.i (.v 14) (.i p0e5 (.i (.v 1) .nil)))
noncomputable def p0e20 : SE := .mx p0e9 (.v 12)
noncomputable def p0e21 : SE := .ap 0 (.i p0e19 (.i (.v 15) .nil))
noncomputable def p0e22 : SE := .ap 2 (.i p0e3 (.i p0e21 (.i (.v 5) (.i (.v 6) .nil))))
noncomputable def p0e23 : SE := .ap 4 (.i p0e21 (.i (.v 5) (.i (.v 6) .nil)))
noncomputable def p0e24 : AE := .tl (.v 1) p0e0 (.i p0e19 (.b (.lt p0e19 (.v 15)) (.b (.le p0e20 (.v 13)) (.b (.lt p0e5 p0e19) (.b (.le (.v 1) p0e22) (.i p0e23 .nil))))))
noncomputable def p0e25 : SE := .mul (.v 1) (.c 2)
noncomputable def p0e26 : SE := .tdiv (.v 14) (.c 2)
noncomputable def p0e27 : SE := .ap 0 (.i p0e25 (.i p0e26 .nil))
noncomputable def p0e28 : SE := .ap 2 (.i p0e3 (.i p0e27 (.i (.v 5) (.i (.v 6) .nil))))
noncomputable def p0e29 : SE := .ap 4 (.i p0e27 (.i (.v 5) (.i (.v 6) .nil)))
noncomputable def p0e30 : AE := .tl (.v 1) p0e0 (.i p0e25 (.b (.lt p0e25 p0e26) (.b (.c false) (.b (.lt p0e5 p0e25) (.b (.le (.v 1) p0e28) (.i p0e29 .nil))))))
noncomputable def p0e31 : AE := .tl (.v 1) p0e0 (.i p0e25 (.b (.lt p0e25 p0e26) (.b (.le (.v 12) (.c (-1))) (.b (.lt p0e5 p0e25) (.b (.le (.v 1) p0e28) (.i p0e29 .nil))))))
noncomputable def p0e32 : SE := .ap 2 (.i p0e3 (.i p0e12 (.i (.v 5) (.i (.v 6) .nil))))
noncomputable def p0e33 : SE := .ap 4 (.i p0e12 (.i (.v 5) (.i (.v 6) .nil)))
noncomputable def p0e34 : AE := .tl (.v 1) p0e0 (.i (.v 14) (.b (.lt (.v 14) (.v 15)) (.b (.c false) (.b (.lt p0e5 (.v 14)) (.b (.le (.v 1) p0e32) (.i p0e33 .nil))))))
noncomputable def p0e35 : AE := .tl (.v 1) p0e0 (.i (.v 14) (.b (.lt (.v 14) (.v 15)) (.b (.le (.v 12) (.v 13)) (.b (.lt p0e5 (.v 14)) (.b (.le (.v 1) p0e32) (.i p0e33 .nil))))))
noncomputable def p0e36 : AE := .ap 0 (.i (.v 1) (.a (.v 0) .nil))
noncomputable def p0x0 : Vl := .dead [((.eq p0e1 (.c 3)), true), ((.le p0e3 (.c 10000000000)), true), ((.le (.c 0) p0e3), true), ((.le p0e5 (.c 1000000)), true), ((.le (.c 0) p0e5), true), ((.le p0e7 (.c 2000)), true), ((.le (.c 0) p0e7), true), ((.le p0e9 (.c 1000)), true), ((.le (.c 0) p0e9), true), ((.le p0e1 (.c 6)), true), ((.le (.c 0) p0e1), true), ((.lt (.v 3) (.v 2)), true), ((.le (.c 0) (.v 2)), true), ((.le (.v 2) (.c 1000)), true), ((.le (.c 0) (.v 3)), true), ((.le (.v 3) (.c 1000)), true), ((.le (.c 0) (.v 5)), true), ((.le (.v 5) (.c 25000)), true), ((.le (.c 0) (.v 6)), true), ((.le (.v 6) (.c 10000000000)), true), ((.le (.c 1200) (.v 1)), true), ((.le (.v 1) (.c 1455)), true), ((.le (.c 2400) (.v 14)), true), ((.le (.v 14) (.c 200000)), true), ((.le (.c (-1)) (.v 12)), true), ((.le (.v 12) (.c 1000)), true), ((.le (.c (-1)) (.v 13)), true), ((.le (.v 13) (.c 1000)), true), ((.le (.c 0) (.v 15)), true), ((.le (.v 15) (.c 4611686018427387903)), true)]
noncomputable def p0x1 : Vl := .dead [((.eq p0e1 (.c 2)), true), ((.eq p0e1 (.c 3)), false), ((.le p0e3 (.c 10000000000)), true), ((.le (.c 0) p0e3), true), ((.le p0e5 (.c 1000000)), true), ((.le (.c 0) p0e5), true), ((.le p0e7 (.c 2000)), true), ((.le (.c 0) p0e7), true), ((.le p0e9 (.c 1000)), true), ((.le (.c 0) p0e9), true), ((.le p0e1 (.c 6)), true), ((.le (.c 0) p0e1), true), ((.lt (.v 3) (.v 2)), true), ((.le (.c 0) (.v 2)), true), ((.le (.v 2) (.c 1000)), true), ((.le (.c 0) (.v 3)), true), ((.le (.v 3) (.c 1000)), true), ((.le (.c 0) (.v 5)), true), ((.le (.v 5) (.c 25000)), true), ((.le (.c 0) (.v 6)), true), ((.le (.v 6) (.c 10000000000)), true), ((.le (.c 1200) (.v 1)), true), ((.le (.v 1) (.c 1455)), true), ((.le (.c 2400) (.v 14)), true), ((.le (.v 14) (.c 200000)), true), ((.le (.c (-1)) (.v 12)), true), ((.le (.v 12) (.c 1000)), true), ((.le (.c (-1)) (.v 13)), true), ((.le (.v 13) (.c 1000)), true), ((.le (.c 0) (.v 15)), true), ((.le (.v 15) (.c 4611686018427387903)), true)]
noncomputable def p0x2 : Vl := .dead [((.eq p0e1 (.c 4)), true), ((.eq p0e1 (.c 2)), false), ((.eq p0e1 (.c 3)), false), ((.le p0e3 (.c 10000000000)), true), ((.le (.c 0) p0e3), true), ((.le p0e5 (.c 1000000)), true), ((.le (.c 0) p0e5), true), ((.le p0e7 (.c 2000)), true), ((.le (.c 0) p0e7), true), ((.le p0e9 (.c 1000)), true), ((.le (.c 0) p0e9), true), ((.le p0e1 (.c 6)), true), ((.le (.c 0) p0e1), true), ((.lt (.v 3) (.v 2)), true), ((.le (.c 0) (.v 2)), true), ((.le (.v 2) (.c 1000)), true), ((.le (.c 0) (.v 3)), true), ((.le (.v 3) (.c 1000)), true), ((.le (.c 0) (.v 5)), true), ((.le (.v 5) (.c 25000)), true), ((.le (.c 0) (.v 6)), true), ((.le (.v 6) (.c 10000000000)), true), ((.le (.c 1200) (.v 1)), true), ((.le (.v 1) (.c 1455)), true), ((.le (.c 2400) (.v 14)), true), ((.le (.v 14) (.c 200000)), true), ((.le (.c (-1)) (.v 12)), true), ((.le (.v 12) (.c 1000)), true), ((.le (.c (-1)) (.v 13)), true), ((.le (.v 13) (.c 1000)), true), ((.le (.c 0) (.v 15)), true), ((.le (.v 15) (.c 4611686018427387903)), true)]
noncomputable def p0x3 : Vl := .dead [((.eq p0e1 (.c 5)), true), ((.eq p0e1 (.c 4)), false), ((.eq p0e1 (.c 2)), false), ((.eq p0e1 (.c 3)), false), ((.le p0e3 (.c 10000000000)), true), ((.le (.c 0) p0e3), true), ((.le p0e5 (.c 1000000)), true), ((.le (.c 0) p0e5), true), ((.le p0e7 (.c 2000)), true), ((.le (.c 0) p0e7), true), ((.le p0e9 (.c 1000)), true), ((.le (.c 0) p0e9), true), ((.le p0e1 (.c 6)), true), ((.le (.c 0) p0e1), true), ((.lt (.v 3) (.v 2)), true), ((.le (.c 0) (.v 2)), true), ((.le (.v 2) (.c 1000)), true), ((.le (.c 0) (.v 3)), true), ((.le (.v 3) (.c 1000)), true), ((.le (.c 0) (.v 5)), true), ((.le (.v 5) (.c 25000)), true), ((.le (.c 0) (.v 6)), true), ((.le (.v 6) (.c 10000000000)), true), ((.le (.c 1200) (.v 1)), true), ((.le (.v 1) (.c 1455)), true), ((.le (.c 2400) (.v 14)), true), ((.le (.v 14) (.c 200000)), true), ((.le (.c (-1)) (.v 12)), true), ((.le (.v 12) (.c 1000)), true), ((.le (.c (-1)) (.v 13)), true), ((.le (.v 13) (.c 1000)), true), ((.le (.c 0) (.v 15)), true), ((.le (.v 15) (.c 4611686018427387903)), true)]
noncomputable def p0x4 : Vl := .dead [((.eq p0e11 (.c 0)), true), ((.eq p0e1 (.c 0)), true), ((.eq p0e1 (.c 5)), false), ((.eq p0e1 (.c 4)), false), ((.eq p0e1 (.c 2)), false), ((.eq p0e1 (.c 3)), false), ((.le p0e3 (.c 10000000000)), true), ((.le (.c 0) p0e3), true), ((.le p0e5 (.c 1000000)), true), ((.le (.c 0) p0e5), true), ((.le p0e7 (.c 2000)), true), ((.le (.c 0) p0e7), true), ((.le p0e9 (.c 1000)), true), ((.le (.c 0) p0e9), true), ((.le p0e1 (.c 6)), true), ((.le (.c 0) p0e1), true), ((.lt (.v 3) (.v 2)), true), ((.le (.c 0) (.v 2)), true), ((.le (.v 2) (.c 1000)), true), ((.le (.c 0) (.v 3)), true), ((.le (.v 3) (.c 1000)), true), ((.le (.c 0) (.v 5)), true), ((.le (.v 5) (.c 25000)), true), ((.le (.c 0) (.v 6)), true), ((.le (.v 6) (.c 10000000000)), true), ((.le (.c 1200) (.v 1)), true), ((.le (.v 1) (.c 1455)), true), ((.le (.c 2400) (.v 14)), true), ((.le (.v 14) (.c 200000)), true), ((.le (.c (-1)) (.v 12)), true), ((.le (.v 12) (.c 1000)), true), ((.le (.c (-1)) (.v 13)), true), ((.le (.v 13) (.c 1000)), true), ((.le (.c 0) (.v 15)), true), ((.le (.v 15) (.c 4611686018427387903)), true)]
noncomputable def p0x5 : Vl := .go 0 [(6, p0e3), (5, p0e13), (4, (.v 4)), (8, (.v 8)), (7, (.v 7)), (9, (.v 9)), (1, (.v 1)), (19, (.v 19)), (18, (.v 18)), (17, (.v 17)), (16, (.v 16)), (15, (.v 15)), (14, (.v 14)), (13, (.v 13)), (12, (.v 12)), (11, p0e9), (10, p0e9), (3, p0e14), (2, (.v 2))] [(1, (.v 1)), (0, (.v 0))] [(1, p0e17), (0, (.v 0))] [((.eq (.v 12) (.c (-1))), true), ((.le (.c 0) p0e13), true), ((.le p0e13 (.c 25000)), true), ((.le p0e12 (.c 100000000)), true), ((.le (.c 100000) p0e12), true), ((.eq p0e11 (.c 0)), false), ((.eq p0e1 (.c 0)), true), ((.eq p0e1 (.c 5)), false), ((.eq p0e1 (.c 4)), false), ((.eq p0e1 (.c 2)), false), ((.eq p0e1 (.c 3)), false), ((.le p0e3 (.c 10000000000)), true), ((.le (.c 0) p0e3), true), ((.le p0e5 (.c 1000000)), true), ((.le (.c 0) p0e5), true), ((.le p0e7 (.c 2000)), true), ((.le (.c 0) p0e7), true), ((.le p0e9 (.c 1000)), true), ((.le (.c 0) p0e9), true), ((.le p0e1 (.c 6)), true), ((.le (.c 0) p0e1), true), ((.lt (.v 3) (.v 2)), true), ((.le (.c 0) (.v 2)), true), ((.le (.v 2) (.c 1000)), true), ((.le (.c 0) (.v 3)), true), ((.le (.v 3) (.c 1000)), true), ((.le (.c 0) (.v 5)), true), ((.le (.v 5) (.c 25000)), true), ((.le (.c 0) (.v 6)), true), ((.le (.v 6) (.c 10000000000)), true), ((.le (.c 1200) (.v 1)), true), ((.le (.v 1) (.c 1455)), true), ((.le (.c 2400) (.v 14)), true), ((.le (.v 14) (.c 200000)), true), ((.le (.c (-1)) (.v 12)), true), ((.le (.v 12) (.c 1000)), true), ((.le (.c (-1)) (.v 13)), true), ((.le (.v 13) (.c 1000)), true), ((.le (.c 0) (.v 15)), true), ((.le (.v 15) (.c 4611686018427387903)), true)] (.exit .normal) (.loop (loopB (prm7 Try.prog).P 7 5) :: loopK (prm7 Try.prog).P 7 5)
noncomputable def p0x6 : Vl := .go 0 [(6, p0e3), (5, p0e13), (4, (.v 4)), (8, (.v 8)), (7, (.v 7)), (9, (.v 9)), (1, (.v 1)), (19, (.v 19)), (18, (.v 18)), (17, (.v 17)), (16, (.v 16)), (15, (.v 15)), (14, (.v 14)), (13, (.v 13)), (12, (.v 12)), (11, p0e9), (10, p0e9), (3, p0e14), (2, (.v 2))] [(1, (.v 1)), (0, (.v 0))] [(1, p0e18), (0, (.v 0))] [((.eq (.v 12) (.c (-1))), false), ((.le (.c 0) p0e13), true), ((.le p0e13 (.c 25000)), true), ((.le p0e12 (.c 100000000)), true), ((.le (.c 100000) p0e12), true), ((.eq p0e11 (.c 0)), false), ((.eq p0e1 (.c 0)), true), ((.eq p0e1 (.c 5)), false), ((.eq p0e1 (.c 4)), false), ((.eq p0e1 (.c 2)), false), ((.eq p0e1 (.c 3)), false), ((.le p0e3 (.c 10000000000)), true), ((.le (.c 0) p0e3), true), ((.le p0e5 (.c 1000000)), true), ((.le (.c 0) p0e5), true), ((.le p0e7 (.c 2000)), true), ((.le (.c 0) p0e7), true), ((.le p0e9 (.c 1000)), true), ((.le (.c 0) p0e9), true), ((.le p0e1 (.c 6)), true), ((.le (.c 0) p0e1), true), ((.lt (.v 3) (.v 2)), true), ((.le (.c 0) (.v 2)), true), ((.le (.v 2) (.c 1000)), true), ((.le (.c 0) (.v 3)), true), ((.le (.v 3) (.c 1000)), true), ((.le (.c 0) (.v 5)), true), ((.le (.v 5) (.c 25000)), true), ((.le (.c 0) (.v 6)), true), ((.le (.v 6) (.c 10000000000)), true), ((.le (.c 1200) (.v 1)), true), ((.le (.v 1) (.c 1455)), true), ((.le (.c 2400) (.v 14)), true), ((.le (.v 14) (.c 200000)), true), ((.le (.c (-1)) (.v 12)), true), ((.le (.v 12) (.c 1000)), true), ((.le (.c (-1)) (.v 13)), true), ((.le (.v 13) (.c 1000)), true), ((.le (.c 0) (.v 15)), true), ((.le (.v 15) (.c 4611686018427387903)), true)] (.exit .normal) (.loop (loopB (prm7 Try.prog).P 7 5) :: loopK (prm7 Try.prog).P 7 5)
noncomputable def p0x7 : Vl := .dead [((.le p0e12 (.c 100000000)), false), ((.le (.c 100000) p0e12), true), ((.eq p0e11 (.c 0)), false), ((.eq p0e1 (.c 0)), true), ((.eq p0e1 (.c 5)), false), ((.eq p0e1 (.c 4)), false), ((.eq p0e1 (.c 2)), false), ((.eq p0e1 (.c 3)), false), ((.le p0e3 (.c 10000000000)), true), ((.le (.c 0) p0e3), true), ((.le p0e5 (.c 1000000)), true), ((.le (.c 0) p0e5), true), ((.le p0e7 (.c 2000)), true), ((.le (.c 0) p0e7), true), ((.le p0e9 (.c 1000)), true), ((.le (.c 0) p0e9), true), ((.le p0e1 (.c 6)), true), ((.le (.c 0) p0e1), true), ((.lt (.v 3) (.v 2)), true), ((.le (.c 0) (.v 2)), true), ((.le (.v 2) (.c 1000)), true), ((.le (.c 0) (.v 3)), true), ((.le (.v 3) (.c 1000)), true), ((.le (.c 0) (.v 5)), true), ((.le (.v 5) (.c 25000)), true), ((.le (.c 0) (.v 6)), true), ((.le (.v 6) (.c 10000000000)), true), ((.le (.c 1200) (.v 1)), true), ((.le (.v 1) (.c 1455)), true), ((.le (.c 2400) (.v 14)), true), ((.le (.v 14) (.c 200000)), true), ((.le (.c (-1)) (.v 12)), true), ((.le (.v 12) (.c 1000)), true), ((.le (.c (-1)) (.v 13)), true), ((.le (.v 13) (.c 1000)), true), ((.le (.c 0) (.v 15)), true), ((.le (.v 15) (.c 4611686018427387903)), true)]
noncomputable def p0x8 : Vl := .dead [((.le (.c 100000) p0e12), false), ((.eq p0e11 (.c 0)), false), ((.eq p0e1 (.c 0)), true), ((.eq p0e1 (.c 5)), false), ((.eq p0e1 (.c 4)), false), ((.eq p0e1 (.c 2)), false), ((.eq p0e1 (.c 3)), false), ((.le p0e3 (.c 10000000000)), true), ((.le (.c 0) p0e3), true), ((.le p0e5 (.c 1000000)), true), ((.le (.c 0) p0e5), true), ((.le p0e7 (.c 2000)), true), ((.le (.c 0) p0e7), true), ((.le p0e9 (.c 1000)), true), ((.le (.c 0) p0e9), true), ((.le p0e1 (.c 6)), true), ((.le (.c 0) p0e1), true), ((.lt (.v 3) (.v 2)), true), ((.le (.c 0) (.v 2)), true), ((.le (.v 2) (.c 1000)), true), ((.le (.c 0) (.v 3)), true), ((.le (.v 3) (.c 1000)), true), ((.le (.c 0) (.v 5)), true), ((.le (.v 5) (.c 25000)), true), ((.le (.c 0) (.v 6)), true), ((.le (.v 6) (.c 10000000000)), true), ((.le (.c 1200) (.v 1)), true), ((.le (.v 1) (.c 1455)), true), ((.le (.c 2400) (.v 14)), true), ((.le (.v 14) (.c 200000)), true), ((.le (.c (-1)) (.v 12)), true), ((.le (.v 12) (.c 1000)), true), ((.le (.c (-1)) (.v 13)), true), ((.le (.v 13) (.c 1000)), true), ((.le (.c 0) (.v 15)), true), ((.le (.v 15) (.c 4611686018427387903)), true)]
noncomputable def p0x9 : Vl := .go 0 [(6, (.v 6)), (5, (.v 5)), (4, (.v 4)), (8, (.v 8)), (7, (.v 7)), (9, p0e19), (1, (.v 1)), (19, (.v 19)), (18, (.v 18)), (17, (.v 17)), (16, (.v 16)), (15, (.v 15)), (14, p0e19), (13, (.v 13)), (12, p0e20), (11, (.v 11)), (10, (.v 10)), (3, p0e14), (2, (.v 2))] [(1, (.v 1)), (0, (.v 0))] [(1, p0e24), (0, (.v 0))] [((.le p0e21 (.c 100000000)), true), ((.le (.c 100000) p0e21), true), ((.le (.c 2400) p0e19), true), ((.le p0e19 (.c 200000)), true), ((.eq (.v 15) (.c 4611686018427387903)), true), ((.eq (.v 13) (.c (-1))), true), ((.le (.v 14) (.c 190000)), true), ((.eq p0e1 (.c 1)), true), ((.eq p0e1 (.c 0)), false), ((.eq p0e1 (.c 5)), false), ((.eq p0e1 (.c 4)), false), ((.eq p0e1 (.c 2)), false), ((.eq p0e1 (.c 3)), false), ((.le p0e3 (.c 10000000000)), true), ((.le (.c 0) p0e3), true), ((.le p0e5 (.c 1000000)), true), ((.le (.c 0) p0e5), true), ((.le p0e7 (.c 2000)), true), ((.le (.c 0) p0e7), true), ((.le p0e9 (.c 1000)), true), ((.le (.c 0) p0e9), true), ((.le p0e1 (.c 6)), true), ((.le (.c 0) p0e1), true), ((.lt (.v 3) (.v 2)), true), ((.le (.c 0) (.v 2)), true), ((.le (.v 2) (.c 1000)), true), ((.le (.c 0) (.v 3)), true), ((.le (.v 3) (.c 1000)), true), ((.le (.c 0) (.v 5)), true), ((.le (.v 5) (.c 25000)), true), ((.le (.c 0) (.v 6)), true), ((.le (.v 6) (.c 10000000000)), true), ((.le (.c 1200) (.v 1)), true), ((.le (.v 1) (.c 1455)), true), ((.le (.c 2400) (.v 14)), true), ((.le (.v 14) (.c 200000)), true), ((.le (.c (-1)) (.v 12)), true), ((.le (.v 12) (.c 1000)), true), ((.le (.c (-1)) (.v 13)), true), ((.le (.v 13) (.c 1000)), true), ((.le (.c 0) (.v 15)), true), ((.le (.v 15) (.c 4611686018427387903)), true)] (.exit .normal) (.loop (loopB (prm7 Try.prog).P 7 5) :: loopK (prm7 Try.prog).P 7 5)
noncomputable def p0x10 : Vl := .dead [((.le p0e21 (.c 100000000)), false), ((.le (.c 100000) p0e21), true), ((.le (.c 2400) p0e19), true), ((.le p0e19 (.c 200000)), true), ((.eq (.v 15) (.c 4611686018427387903)), true), ((.eq (.v 13) (.c (-1))), true), ((.le (.v 14) (.c 190000)), true), ((.eq p0e1 (.c 1)), true), ((.eq p0e1 (.c 0)), false), ((.eq p0e1 (.c 5)), false), ((.eq p0e1 (.c 4)), false), ((.eq p0e1 (.c 2)), false), ((.eq p0e1 (.c 3)), false), ((.le p0e3 (.c 10000000000)), true), ((.le (.c 0) p0e3), true), ((.le p0e5 (.c 1000000)), true), ((.le (.c 0) p0e5), true), ((.le p0e7 (.c 2000)), true), ((.le (.c 0) p0e7), true), ((.le p0e9 (.c 1000)), true), ((.le (.c 0) p0e9), true), ((.le p0e1 (.c 6)), true), ((.le (.c 0) p0e1), true), ((.lt (.v 3) (.v 2)), true), ((.le (.c 0) (.v 2)), true), ((.le (.v 2) (.c 1000)), true), ((.le (.c 0) (.v 3)), true), ((.le (.v 3) (.c 1000)), true), ((.le (.c 0) (.v 5)), true), ((.le (.v 5) (.c 25000)), true), ((.le (.c 0) (.v 6)), true), ((.le (.v 6) (.c 10000000000)), true), ((.le (.c 1200) (.v 1)), true), ((.le (.v 1) (.c 1455)), true), ((.le (.c 2400) (.v 14)), true), ((.le (.v 14) (.c 200000)), true), ((.le (.c (-1)) (.v 12)), true), ((.le (.v 12) (.c 1000)), true), ((.le (.c (-1)) (.v 13)), true), ((.le (.v 13) (.c 1000)), true), ((.le (.c 0) (.v 15)), true), ((.le (.v 15) (.c 4611686018427387903)), true)]
noncomputable def p0x11 : Vl := .dead [((.le (.c 100000) p0e21), false), ((.le (.c 2400) p0e19), true), ((.le p0e19 (.c 200000)), true), ((.eq (.v 15) (.c 4611686018427387903)), true), ((.eq (.v 13) (.c (-1))), true), ((.le (.v 14) (.c 190000)), true), ((.eq p0e1 (.c 1)), true), ((.eq p0e1 (.c 0)), false), ((.eq p0e1 (.c 5)), false), ((.eq p0e1 (.c 4)), false), ((.eq p0e1 (.c 2)), false), ((.eq p0e1 (.c 3)), false), ((.le p0e3 (.c 10000000000)), true), ((.le (.c 0) p0e3), true), ((.le p0e5 (.c 1000000)), true), ((.le (.c 0) p0e5), true), ((.le p0e7 (.c 2000)), true), ((.le (.c 0) p0e7), true), ((.le p0e9 (.c 1000)), true), ((.le (.c 0) p0e9), true), ((.le p0e1 (.c 6)), true), ((.le (.c 0) p0e1), true), ((.lt (.v 3) (.v 2)), true), ((.le (.c 0) (.v 2)), true), ((.le (.v 2) (.c 1000)), true), ((.le (.c 0) (.v 3)), true), ((.le (.v 3) (.c 1000)), true), ((.le (.c 0) (.v 5)), true), ((.le (.v 5) (.c 25000)), true), ((.le (.c 0) (.v 6)), true), ((.le (.v 6) (.c 10000000000)), true), ((.le (.c 1200) (.v 1)), true), ((.le (.v 1) (.c 1455)), true), ((.le (.c 2400) (.v 14)), true), ((.le (.v 14) (.c 200000)), true), ((.le (.c (-1)) (.v 12)), true), ((.le (.v 12) (.c 1000)), true), ((.le (.c (-1)) (.v 13)), true), ((.le (.v 13) (.c 1000)), true), ((.le (.c 0) (.v 15)), true), ((.le (.v 15) (.c 4611686018427387903)), true)]
noncomputable def p0x12 : Vl := .dead [((.eq (.v 15) (.c 4611686018427387903)), false), ((.eq (.v 13) (.c (-1))), true), ((.le (.v 14) (.c 190000)), true), ((.eq p0e1 (.c 1)), true), ((.eq p0e1 (.c 0)), false), ((.eq p0e1 (.c 5)), false), ((.eq p0e1 (.c 4)), false), ((.eq p0e1 (.c 2)), false), ((.eq p0e1 (.c 3)), false), ((.le p0e3 (.c 10000000000)), true), ((.le (.c 0) p0e3), true), ((.le p0e5 (.c 1000000)), true), ((.le (.c 0) p0e5), true), ((.le p0e7 (.c 2000)), true), ((.le (.c 0) p0e7), true), ((.le p0e9 (.c 1000)), true), ((.le (.c 0) p0e9), true), ((.le p0e1 (.c 6)), true), ((.le (.c 0) p0e1), true), ((.lt (.v 3) (.v 2)), true), ((.le (.c 0) (.v 2)), true), ((.le (.v 2) (.c 1000)), true), ((.le (.c 0) (.v 3)), true), ((.le (.v 3) (.c 1000)), true), ((.le (.c 0) (.v 5)), true), ((.le (.v 5) (.c 25000)), true), ((.le (.c 0) (.v 6)), true), ((.le (.v 6) (.c 10000000000)), true), ((.le (.c 1200) (.v 1)), true), ((.le (.v 1) (.c 1455)), true), ((.le (.c 2400) (.v 14)), true), ((.le (.v 14) (.c 200000)), true), ((.le (.c (-1)) (.v 12)), true), ((.le (.v 12) (.c 1000)), true), ((.le (.c (-1)) (.v 13)), true), ((.le (.v 13) (.c 1000)), true), ((.le (.c 0) (.v 15)), true), ((.le (.v 15) (.c 4611686018427387903)), true)]
noncomputable def p0x13 : Vl := .dead [((.eq (.v 13) (.c (-1))), false), ((.le (.v 14) (.c 190000)), true), ((.eq p0e1 (.c 1)), true), ((.eq p0e1 (.c 0)), false), ((.eq p0e1 (.c 5)), false), ((.eq p0e1 (.c 4)), false), ((.eq p0e1 (.c 2)), false), ((.eq p0e1 (.c 3)), false), ((.le p0e3 (.c 10000000000)), true), ((.le (.c 0) p0e3), true), ((.le p0e5 (.c 1000000)), true), ((.le (.c 0) p0e5), true), ((.le p0e7 (.c 2000)), true), ((.le (.c 0) p0e7), true), ((.le p0e9 (.c 1000)), true), ((.le (.c 0) p0e9), true), ((.le p0e1 (.c 6)), true), ((.le (.c 0) p0e1), true), ((.lt (.v 3) (.v 2)), true), ((.le (.c 0) (.v 2)), true), ((.le (.v 2) (.c 1000)), true), ((.le (.c 0) (.v 3)), true), ((.le (.v 3) (.c 1000)), true), ((.le (.c 0) (.v 5)), true), ((.le (.v 5) (.c 25000)), true), ((.le (.c 0) (.v 6)), true), ((.le (.v 6) (.c 10000000000)), true), ((.le (.c 1200) (.v 1)), true), ((.le (.v 1) (.c 1455)), true), ((.le (.c 2400) (.v 14)), true), ((.le (.v 14) (.c 200000)), true), ((.le (.c (-1)) (.v 12)), true), ((.le (.v 12) (.c 1000)), true), ((.le (.c (-1)) (.v 13)), true), ((.le (.v 13) (.c 1000)), true), ((.le (.c 0) (.v 15)), true), ((.le (.v 15) (.c 4611686018427387903)), true)]
noncomputable def p0x14 : Vl := .dead [((.le (.v 14) (.c 190000)), false), ((.eq p0e1 (.c 1)), true), ((.eq p0e1 (.c 0)), false), ((.eq p0e1 (.c 5)), false), ((.eq p0e1 (.c 4)), false), ((.eq p0e1 (.c 2)), false), ((.eq p0e1 (.c 3)), false), ((.le p0e3 (.c 10000000000)), true), ((.le (.c 0) p0e3), true), ((.le p0e5 (.c 1000000)), true), ((.le (.c 0) p0e5), true), ((.le p0e7 (.c 2000)), true), ((.le (.c 0) p0e7), true), ((.le p0e9 (.c 1000)), true), ((.le (.c 0) p0e9), true), ((.le p0e1 (.c 6)), true), ((.le (.c 0) p0e1), true), ((.lt (.v 3) (.v 2)), true), ((.le (.c 0) (.v 2)), true), ((.le (.v 2) (.c 1000)), true), ((.le (.c 0) (.v 3)), true), ((.le (.v 3) (.c 1000)), true), ((.le (.c 0) (.v 5)), true), ((.le (.v 5) (.c 25000)), true), ((.le (.c 0) (.v 6)), true), ((.le (.v 6) (.c 10000000000)), true), ((.le (.c 1200) (.v 1)), true), ((.le (.v 1) (.c 1455)), true), ((.le (.c 2400) (.v 14)), true), ((.le (.v 14) (.c 200000)), true), ((.le (.c (-1)) (.v 12)), true), ((.le (.v 12) (.c 1000)), true), ((.le (.c (-1)) (.v 13)), true), ((.le (.v 13) (.c 1000)), true), ((.le (.c 0) (.v 15)), true), ((.le (.v 15) (.c 4611686018427387903)), true)]
noncomputable def p0x15 : Vl := .dead [((.eq p0e11 (.c 0)), true), ((.eq p0e1 (.c 6)), true), ((.eq p0e1 (.c 1)), false), ((.eq p0e1 (.c 0)), false), ((.eq p0e1 (.c 5)), false), ((.eq p0e1 (.c 4)), false), ((.eq p0e1 (.c 2)), false), ((.eq p0e1 (.c 3)), false), ((.le p0e3 (.c 10000000000)), true), ((.le (.c 0) p0e3), true), ((.le p0e5 (.c 1000000)), true), ((.le (.c 0) p0e5), true), ((.le p0e7 (.c 2000)), true), ((.le (.c 0) p0e7), true), ((.le p0e9 (.c 1000)), true), ((.le (.c 0) p0e9), true), ((.le p0e1 (.c 6)), true), ((.le (.c 0) p0e1), true), ((.lt (.v 3) (.v 2)), true), ((.le (.c 0) (.v 2)), true), ((.le (.v 2) (.c 1000)), true), ((.le (.c 0) (.v 3)), true), ((.le (.v 3) (.c 1000)), true), ((.le (.c 0) (.v 5)), true), ((.le (.v 5) (.c 25000)), true), ((.le (.c 0) (.v 6)), true), ((.le (.v 6) (.c 10000000000)), true), ((.le (.c 1200) (.v 1)), true), ((.le (.v 1) (.c 1455)), true), ((.le (.c 2400) (.v 14)), true), ((.le (.v 14) (.c 200000)), true), ((.le (.c (-1)) (.v 12)), true), ((.le (.v 12) (.c 1000)), true), ((.le (.c (-1)) (.v 13)), true), ((.le (.v 13) (.c 1000)), true), ((.le (.c 0) (.v 15)), true), ((.le (.v 15) (.c 4611686018427387903)), true)]
noncomputable def p0x16 : Vl := .go 0 [(6, (.v 6)), (5, (.v 5)), (4, (.c 0)), (8, (.v 8)), (7, (.v 7)), (9, p0e25), (1, (.v 1)), (19, (.c 0)), (18, (.c 0)), (17, (.c 0)), (16, (.c 0)), (15, p0e26), (14, p0e25), (13, (.c (-1))), (12, (.v 12)), (11, (.v 11)), (10, (.v 10)), (3, p0e14), (2, (.v 2))] [(1, (.v 1)), (0, (.v 0))] [(1, p0e30), (0, (.v 0))] [((.le p0e27 (.c 100000000)), true), ((.le (.c 100000) p0e27), true), ((.eq (.v 12) (.c (-1))), true), ((.eq p0e11 (.c 0)), false), ((.eq p0e1 (.c 6)), true), ((.eq p0e1 (.c 1)), false), ((.eq p0e1 (.c 0)), false), ((.eq p0e1 (.c 5)), false), ((.eq p0e1 (.c 4)), false), ((.eq p0e1 (.c 2)), false), ((.eq p0e1 (.c 3)), false), ((.le p0e3 (.c 10000000000)), true), ((.le (.c 0) p0e3), true), ((.le p0e5 (.c 1000000)), true), ((.le (.c 0) p0e5), true), ((.le p0e7 (.c 2000)), true), ((.le (.c 0) p0e7), true), ((.le p0e9 (.c 1000)), true), ((.le (.c 0) p0e9), true), ((.le p0e1 (.c 6)), true), ((.le (.c 0) p0e1), true), ((.lt (.v 3) (.v 2)), true), ((.le (.c 0) (.v 2)), true), ((.le (.v 2) (.c 1000)), true), ((.le (.c 0) (.v 3)), true), ((.le (.v 3) (.c 1000)), true), ((.le (.c 0) (.v 5)), true), ((.le (.v 5) (.c 25000)), true), ((.le (.c 0) (.v 6)), true), ((.le (.v 6) (.c 10000000000)), true), ((.le (.c 1200) (.v 1)), true), ((.le (.v 1) (.c 1455)), true), ((.le (.c 2400) (.v 14)), true), ((.le (.v 14) (.c 200000)), true), ((.le (.c (-1)) (.v 12)), true), ((.le (.v 12) (.c 1000)), true), ((.le (.c (-1)) (.v 13)), true), ((.le (.v 13) (.c 1000)), true), ((.le (.c 0) (.v 15)), true), ((.le (.v 15) (.c 4611686018427387903)), true)] (.exit .normal) (.loop (loopB (prm7 Try.prog).P 7 5) :: loopK (prm7 Try.prog).P 7 5)
noncomputable def p0x17 : Vl := .dead [((.le p0e27 (.c 100000000)), false), ((.le (.c 100000) p0e27), true), ((.eq (.v 12) (.c (-1))), true), ((.eq p0e11 (.c 0)), false), ((.eq p0e1 (.c 6)), true), ((.eq p0e1 (.c 1)), false), ((.eq p0e1 (.c 0)), false), ((.eq p0e1 (.c 5)), false), ((.eq p0e1 (.c 4)), false), ((.eq p0e1 (.c 2)), false), ((.eq p0e1 (.c 3)), false), ((.le p0e3 (.c 10000000000)), true), ((.le (.c 0) p0e3), true), ((.le p0e5 (.c 1000000)), true), ((.le (.c 0) p0e5), true), ((.le p0e7 (.c 2000)), true), ((.le (.c 0) p0e7), true), ((.le p0e9 (.c 1000)), true), ((.le (.c 0) p0e9), true), ((.le p0e1 (.c 6)), true), ((.le (.c 0) p0e1), true), ((.lt (.v 3) (.v 2)), true), ((.le (.c 0) (.v 2)), true), ((.le (.v 2) (.c 1000)), true), ((.le (.c 0) (.v 3)), true), ((.le (.v 3) (.c 1000)), true), ((.le (.c 0) (.v 5)), true), ((.le (.v 5) (.c 25000)), true), ((.le (.c 0) (.v 6)), true), ((.le (.v 6) (.c 10000000000)), true), ((.le (.c 1200) (.v 1)), true), ((.le (.v 1) (.c 1455)), true), ((.le (.c 2400) (.v 14)), true), ((.le (.v 14) (.c 200000)), true), ((.le (.c (-1)) (.v 12)), true), ((.le (.v 12) (.c 1000)), true), ((.le (.c (-1)) (.v 13)), true), ((.le (.v 13) (.c 1000)), true), ((.le (.c 0) (.v 15)), true), ((.le (.v 15) (.c 4611686018427387903)), true)]
noncomputable def p0x18 : Vl := .dead [((.le (.c 100000) p0e27), false), ((.eq (.v 12) (.c (-1))), true), ((.eq p0e11 (.c 0)), false), ((.eq p0e1 (.c 6)), true), ((.eq p0e1 (.c 1)), false), ((.eq p0e1 (.c 0)), false), ((.eq p0e1 (.c 5)), false), ((.eq p0e1 (.c 4)), false), ((.eq p0e1 (.c 2)), false), ((.eq p0e1 (.c 3)), false), ((.le p0e3 (.c 10000000000)), true), ((.le (.c 0) p0e3), true), ((.le p0e5 (.c 1000000)), true), ((.le (.c 0) p0e5), true), ((.le p0e7 (.c 2000)), true), ((.le (.c 0) p0e7), true), ((.le p0e9 (.c 1000)), true), ((.le (.c 0) p0e9), true), ((.le p0e1 (.c 6)), true), ((.le (.c 0) p0e1), true), ((.lt (.v 3) (.v 2)), true), ((.le (.c 0) (.v 2)), true), ((.le (.v 2) (.c 1000)), true), ((.le (.c 0) (.v 3)), true), ((.le (.v 3) (.c 1000)), true), ((.le (.c 0) (.v 5)), true), ((.le (.v 5) (.c 25000)), true), ((.le (.c 0) (.v 6)), true), ((.le (.v 6) (.c 10000000000)), true), ((.le (.c 1200) (.v 1)), true), ((.le (.v 1) (.c 1455)), true), ((.le (.c 2400) (.v 14)), true), ((.le (.v 14) (.c 200000)), true), ((.le (.c (-1)) (.v 12)), true), ((.le (.v 12) (.c 1000)), true), ((.le (.c (-1)) (.v 13)), true), ((.le (.v 13) (.c 1000)), true), ((.le (.c 0) (.v 15)), true), ((.le (.v 15) (.c 4611686018427387903)), true)]
noncomputable def p0x19 : Vl := .go 0 [(6, (.v 6)), (5, (.v 5)), (4, (.c 0)), (8, (.v 8)), (7, (.v 7)), (9, p0e25), (1, (.v 1)), (19, (.c 0)), (18, (.c 0)), (17, (.c 0)), (16, (.c 0)), (15, p0e26), (14, p0e25), (13, (.c (-1))), (12, (.v 12)), (11, (.v 11)), (10, (.v 10)), (3, p0e14), (2, (.v 2))] [(1, (.v 1)), (0, (.v 0))] [(1, p0e31), (0, (.v 0))] [((.le p0e27 (.c 100000000)), true), ((.le (.c 100000) p0e27), true), ((.eq (.v 12) (.c (-1))), false), ((.eq p0e11 (.c 0)), false), ((.eq p0e1 (.c 6)), true), ((.eq p0e1 (.c 1)), false), ((.eq p0e1 (.c 0)), false), ((.eq p0e1 (.c 5)), false), ((.eq p0e1 (.c 4)), false), ((.eq p0e1 (.c 2)), false), ((.eq p0e1 (.c 3)), false), ((.le p0e3 (.c 10000000000)), true), ((.le (.c 0) p0e3), true), ((.le p0e5 (.c 1000000)), true), ((.le (.c 0) p0e5), true), ((.le p0e7 (.c 2000)), true), ((.le (.c 0) p0e7), true), ((.le p0e9 (.c 1000)), true), ((.le (.c 0) p0e9), true), ((.le p0e1 (.c 6)), true), ((.le (.c 0) p0e1), true), ((.lt (.v 3) (.v 2)), true), ((.le (.c 0) (.v 2)), true), ((.le (.v 2) (.c 1000)), true), ((.le (.c 0) (.v 3)), true), ((.le (.v 3) (.c 1000)), true), ((.le (.c 0) (.v 5)), true), ((.le (.v 5) (.c 25000)), true), ((.le (.c 0) (.v 6)), true), ((.le (.v 6) (.c 10000000000)), true), ((.le (.c 1200) (.v 1)), true), ((.le (.v 1) (.c 1455)), true), ((.le (.c 2400) (.v 14)), true), ((.le (.v 14) (.c 200000)), true), ((.le (.c (-1)) (.v 12)), true), ((.le (.v 12) (.c 1000)), true), ((.le (.c (-1)) (.v 13)), true), ((.le (.v 13) (.c 1000)), true), ((.le (.c 0) (.v 15)), true), ((.le (.v 15) (.c 4611686018427387903)), true)] (.exit .normal) (.loop (loopB (prm7 Try.prog).P 7 5) :: loopK (prm7 Try.prog).P 7 5)
noncomputable def p0x20 : Vl := .dead [((.le p0e27 (.c 100000000)), false), ((.le (.c 100000) p0e27), true), ((.eq (.v 12) (.c (-1))), false), ((.eq p0e11 (.c 0)), false), ((.eq p0e1 (.c 6)), true), ((.eq p0e1 (.c 1)), false), ((.eq p0e1 (.c 0)), false), ((.eq p0e1 (.c 5)), false), ((.eq p0e1 (.c 4)), false), ((.eq p0e1 (.c 2)), false), ((.eq p0e1 (.c 3)), false), ((.le p0e3 (.c 10000000000)), true), ((.le (.c 0) p0e3), true), ((.le p0e5 (.c 1000000)), true), ((.le (.c 0) p0e5), true), ((.le p0e7 (.c 2000)), true), ((.le (.c 0) p0e7), true), ((.le p0e9 (.c 1000)), true), ((.le (.c 0) p0e9), true), ((.le p0e1 (.c 6)), true), ((.le (.c 0) p0e1), true), ((.lt (.v 3) (.v 2)), true), ((.le (.c 0) (.v 2)), true), ((.le (.v 2) (.c 1000)), true), ((.le (.c 0) (.v 3)), true), ((.le (.v 3) (.c 1000)), true), ((.le (.c 0) (.v 5)), true), ((.le (.v 5) (.c 25000)), true), ((.le (.c 0) (.v 6)), true), ((.le (.v 6) (.c 10000000000)), true), ((.le (.c 1200) (.v 1)), true), ((.le (.v 1) (.c 1455)), true), ((.le (.c 2400) (.v 14)), true), ((.le (.v 14) (.c 200000)), true), ((.le (.c (-1)) (.v 12)), true), ((.le (.v 12) (.c 1000)), true), ((.le (.c (-1)) (.v 13)), true), ((.le (.v 13) (.c 1000)), true), ((.le (.c 0) (.v 15)), true), ((.le (.v 15) (.c 4611686018427387903)), true)]
noncomputable def p0x21 : Vl := .dead [((.le (.c 100000) p0e27), false), ((.eq (.v 12) (.c (-1))), false), ((.eq p0e11 (.c 0)), false), ((.eq p0e1 (.c 6)), true), ((.eq p0e1 (.c 1)), false), ((.eq p0e1 (.c 0)), false), ((.eq p0e1 (.c 5)), false), ((.eq p0e1 (.c 4)), false), ((.eq p0e1 (.c 2)), false), ((.eq p0e1 (.c 3)), false), ((.le p0e3 (.c 10000000000)), true), ((.le (.c 0) p0e3), true), ((.le p0e5 (.c 1000000)), true), ((.le (.c 0) p0e5), true), ((.le p0e7 (.c 2000)), true), ((.le (.c 0) p0e7), true), ((.le p0e9 (.c 1000)), true), ((.le (.c 0) p0e9), true), ((.le p0e1 (.c 6)), true), ((.le (.c 0) p0e1), true), ((.lt (.v 3) (.v 2)), true), ((.le (.c 0) (.v 2)), true), ((.le (.v 2) (.c 1000)), true), ((.le (.c 0) (.v 3)), true), ((.le (.v 3) (.c 1000)), true), ((.le (.c 0) (.v 5)), true), ((.le (.v 5) (.c 25000)), true), ((.le (.c 0) (.v 6)), true), ((.le (.v 6) (.c 10000000000)), true), ((.le (.c 1200) (.v 1)), true), ((.le (.v 1) (.c 1455)), true), ((.le (.c 2400) (.v 14)), true), ((.le (.v 14) (.c 200000)), true), ((.le (.c (-1)) (.v 12)), true), ((.le (.v 12) (.c 1000)), true), ((.le (.c (-1)) (.v 13)), true), ((.le (.v 13) (.c 1000)), true), ((.le (.c 0) (.v 15)), true), ((.le (.v 15) (.c 4611686018427387903)), true)]
noncomputable def p0x22 : Vl := .go 0 [(6, (.v 6)), (5, (.v 5)), (4, (.v 4)), (8, (.v 8)), (7, (.v 7)), (9, (.v 9)), (1, (.v 1)), (19, (.v 19)), (18, (.v 18)), (17, (.v 17)), (16, (.v 16)), (15, (.v 15)), (14, (.v 14)), (13, (.v 13)), (12, (.v 12)), (11, (.v 11)), (10, (.v 10)), (3, p0e14), (2, (.v 2))] [(1, (.v 1)), (0, (.v 0))] [(1, p0e34), (0, (.v 0))] [((.le p0e12 (.c 100000000)), true), ((.le (.c 100000) p0e12), true), ((.eq (.v 12) (.c (-1))), true), ((.eq p0e1 (.c 6)), false), ((.eq p0e1 (.c 1)), false), ((.eq p0e1 (.c 0)), false), ((.eq p0e1 (.c 5)), false), ((.eq p0e1 (.c 4)), false), ((.eq p0e1 (.c 2)), false), ((.eq p0e1 (.c 3)), false), ((.le p0e3 (.c 10000000000)), true), ((.le (.c 0) p0e3), true), ((.le p0e5 (.c 1000000)), true), ((.le (.c 0) p0e5), true), ((.le p0e7 (.c 2000)), true), ((.le (.c 0) p0e7), true), ((.le p0e9 (.c 1000)), true), ((.le (.c 0) p0e9), true), ((.le p0e1 (.c 6)), true), ((.le (.c 0) p0e1), true), ((.lt (.v 3) (.v 2)), true), ((.le (.c 0) (.v 2)), true), ((.le (.v 2) (.c 1000)), true), ((.le (.c 0) (.v 3)), true), ((.le (.v 3) (.c 1000)), true), ((.le (.c 0) (.v 5)), true), ((.le (.v 5) (.c 25000)), true), ((.le (.c 0) (.v 6)), true), ((.le (.v 6) (.c 10000000000)), true), ((.le (.c 1200) (.v 1)), true), ((.le (.v 1) (.c 1455)), true), ((.le (.c 2400) (.v 14)), true), ((.le (.v 14) (.c 200000)), true), ((.le (.c (-1)) (.v 12)), true), ((.le (.v 12) (.c 1000)), true), ((.le (.c (-1)) (.v 13)), true), ((.le (.v 13) (.c 1000)), true), ((.le (.c 0) (.v 15)), true), ((.le (.v 15) (.c 4611686018427387903)), true)] (.exit .normal) (.loop (loopB (prm7 Try.prog).P 7 5) :: loopK (prm7 Try.prog).P 7 5)
noncomputable def p0x23 : Vl := .dead [((.le p0e12 (.c 100000000)), false), ((.le (.c 100000) p0e12), true), ((.eq (.v 12) (.c (-1))), true), ((.eq p0e1 (.c 6)), false), ((.eq p0e1 (.c 1)), false), ((.eq p0e1 (.c 0)), false), ((.eq p0e1 (.c 5)), false), ((.eq p0e1 (.c 4)), false), ((.eq p0e1 (.c 2)), false), ((.eq p0e1 (.c 3)), false), ((.le p0e3 (.c 10000000000)), true), ((.le (.c 0) p0e3), true), ((.le p0e5 (.c 1000000)), true), ((.le (.c 0) p0e5), true), ((.le p0e7 (.c 2000)), true), ((.le (.c 0) p0e7), true), ((.le p0e9 (.c 1000)), true), ((.le (.c 0) p0e9), true), ((.le p0e1 (.c 6)), true), ((.le (.c 0) p0e1), true), ((.lt (.v 3) (.v 2)), true), ((.le (.c 0) (.v 2)), true), ((.le (.v 2) (.c 1000)), true), ((.le (.c 0) (.v 3)), true), ((.le (.v 3) (.c 1000)), true), ((.le (.c 0) (.v 5)), true), ((.le (.v 5) (.c 25000)), true), ((.le (.c 0) (.v 6)), true), ((.le (.v 6) (.c 10000000000)), true), ((.le (.c 1200) (.v 1)), true), ((.le (.v 1) (.c 1455)), true), ((.le (.c 2400) (.v 14)), true), ((.le (.v 14) (.c 200000)), true), ((.le (.c (-1)) (.v 12)), true), ((.le (.v 12) (.c 1000)), true), ((.le (.c (-1)) (.v 13)), true), ((.le (.v 13) (.c 1000)), true), ((.le (.c 0) (.v 15)), true), ((.le (.v 15) (.c 4611686018427387903)), true)]
noncomputable def p0x24 : Vl := .dead [((.le (.c 100000) p0e12), false), ((.eq (.v 12) (.c (-1))), true), ((.eq p0e1 (.c 6)), false), ((.eq p0e1 (.c 1)), false), ((.eq p0e1 (.c 0)), false), ((.eq p0e1 (.c 5)), false), ((.eq p0e1 (.c 4)), false), ((.eq p0e1 (.c 2)), false), ((.eq p0e1 (.c 3)), false), ((.le p0e3 (.c 10000000000)), true), ((.le (.c 0) p0e3), true), ((.le p0e5 (.c 1000000)), true), ((.le (.c 0) p0e5), true), ((.le p0e7 (.c 2000)), true), ((.le (.c 0) p0e7), true), ((.le p0e9 (.c 1000)), true), ((.le (.c 0) p0e9), true), ((.le p0e1 (.c 6)), true), ((.le (.c 0) p0e1), true), ((.lt (.v 3) (.v 2)), true), ((.le (.c 0) (.v 2)), true), ((.le (.v 2) (.c 1000)), true), ((.le (.c 0) (.v 3)), true), ((.le (.v 3) (.c 1000)), true), ((.le (.c 0) (.v 5)), true), ((.le (.v 5) (.c 25000)), true), ((.le (.c 0) (.v 6)), true), ((.le (.v 6) (.c 10000000000)), true), ((.le (.c 1200) (.v 1)), true), ((.le (.v 1) (.c 1455)), true), ((.le (.c 2400) (.v 14)), true), ((.le (.v 14) (.c 200000)), true), ((.le (.c (-1)) (.v 12)), true), ((.le (.v 12) (.c 1000)), true), ((.le (.c (-1)) (.v 13)), true), ((.le (.v 13) (.c 1000)), true), ((.le (.c 0) (.v 15)), true), ((.le (.v 15) (.c 4611686018427387903)), true)]
noncomputable def p0x25 : Vl := .go 0 [(6, (.v 6)), (5, (.v 5)), (4, (.v 4)), (8, (.v 8)), (7, (.v 7)), (9, (.v 9)), (1, (.v 1)), (19, (.v 19)), (18, (.v 18)), (17, (.v 17)), (16, (.v 16)), (15, (.v 15)), (14, (.v 14)), (13, (.v 13)), (12, (.v 12)), (11, (.v 11)), (10, (.v 10)), (3, p0e14), (2, (.v 2))] [(1, (.v 1)), (0, (.v 0))] [(1, p0e35), (0, (.v 0))] [((.le p0e12 (.c 100000000)), true), ((.le (.c 100000) p0e12), true), ((.eq (.v 12) (.c (-1))), false), ((.eq p0e1 (.c 6)), false), ((.eq p0e1 (.c 1)), false), ((.eq p0e1 (.c 0)), false), ((.eq p0e1 (.c 5)), false), ((.eq p0e1 (.c 4)), false), ((.eq p0e1 (.c 2)), false), ((.eq p0e1 (.c 3)), false), ((.le p0e3 (.c 10000000000)), true), ((.le (.c 0) p0e3), true), ((.le p0e5 (.c 1000000)), true), ((.le (.c 0) p0e5), true), ((.le p0e7 (.c 2000)), true), ((.le (.c 0) p0e7), true), ((.le p0e9 (.c 1000)), true), ((.le (.c 0) p0e9), true), ((.le p0e1 (.c 6)), true), ((.le (.c 0) p0e1), true), ((.lt (.v 3) (.v 2)), true), ((.le (.c 0) (.v 2)), true), ((.le (.v 2) (.c 1000)), true), ((.le (.c 0) (.v 3)), true), ((.le (.v 3) (.c 1000)), true), ((.le (.c 0) (.v 5)), true), ((.le (.v 5) (.c 25000)), true), ((.le (.c 0) (.v 6)), true), ((.le (.v 6) (.c 10000000000)), true), ((.le (.c 1200) (.v 1)), true), ((.le (.v 1) (.c 1455)), true), ((.le (.c 2400) (.v 14)), true), ((.le (.v 14) (.c 200000)), true), ((.le (.c (-1)) (.v 12)), true), ((.le (.v 12) (.c 1000)), true), ((.le (.c (-1)) (.v 13)), true), ((.le (.v 13) (.c 1000)), true), ((.le (.c 0) (.v 15)), true), ((.le (.v 15) (.c 4611686018427387903)), true)] (.exit .normal) (.loop (loopB (prm7 Try.prog).P 7 5) :: loopK (prm7 Try.prog).P 7 5)
noncomputable def p0x26 : Vl := .dead [((.le p0e12 (.c 100000000)), false), ((.le (.c 100000) p0e12), true), ((.eq (.v 12) (.c (-1))), false), ((.eq p0e1 (.c 6)), false), ((.eq p0e1 (.c 1)), false), ((.eq p0e1 (.c 0)), false), ((.eq p0e1 (.c 5)), false), ((.eq p0e1 (.c 4)), false), ((.eq p0e1 (.c 2)), false), ((.eq p0e1 (.c 3)), false), ((.le p0e3 (.c 10000000000)), true), ((.le (.c 0) p0e3), true), ((.le p0e5 (.c 1000000)), true), ((.le (.c 0) p0e5), true), ((.le p0e7 (.c 2000)), true), ((.le (.c 0) p0e7), true), ((.le p0e9 (.c 1000)), true), ((.le (.c 0) p0e9), true), ((.le p0e1 (.c 6)), true), ((.le (.c 0) p0e1), true), ((.lt (.v 3) (.v 2)), true), ((.le (.c 0) (.v 2)), true), ((.le (.v 2) (.c 1000)), true), ((.le (.c 0) (.v 3)), true), ((.le (.v 3) (.c 1000)), true), ((.le (.c 0) (.v 5)), true), ((.le (.v 5) (.c 25000)), true), ((.le (.c 0) (.v 6)), true), ((.le (.v 6) (.c 10000000000)), true), ((.le (.c 1200) (.v 1)), true), ((.le (.v 1) (.c 1455)), true), ((.le (.c 2400) (.v 14)), true), ((.le (.v 14) (.c 200000)), true), ((.le (.c (-1)) (.v 12)), true), ((.le (.v 12) (.c 1000)), true), ((.le (.c (-1)) (.v 13)), true), ((.le (.v 13) (.c 1000)), true), ((.le (.c 0) (.v 15)), true), ((.le (.v 15) (.c 4611686018427387903)), true)]
noncomputable def p0x27 : Vl := .dead [((.le (.c 100000) p0e12), false), ((.eq (.v 12) (.c (-1))), false), ((.eq p0e1 (.c 6)), false), ((.eq p0e1 (.c 1)), false), ((.eq p0e1 (.c 0)), false), ((.eq p0e1 (.c 5)), false), ((.eq p0e1 (.c 4)), false), ((.eq p0e1 (.c 2)), false), ((.eq p0e1 (.c 3)), false), ((.le p0e3 (.c 10000000000)), true), ((.le (.c 0) p0e3), true), ((.le p0e5 (.c 1000000)), true), ((.le (.c 0) p0e5), true), ((.le p0e7 (.c 2000)), true), ((.le (.c 0) p0e7), true), ((.le p0e9 (.c 1000)), true), ((.le (.c 0) p0e9), true), ((.le p0e1 (.c 6)), true), ((.le (.c 0) p0e1), true), ((.lt (.v 3) (.v 2)), true), ((.le (.c 0) (.v 2)), true), ((.le (.v 2) (.c 1000)), true), ((.le (.c 0) (.v 3)), true), ((.le (.v 3) (.c 1000)), true), ((.le (.c 0) (.v 5)), true), ((.le (.v 5) (.c 25000)), true), ((.le (.c 0) (.v 6)), true), ((.le (.v 6) (.c 10000000000)), true), ((.le (.c 1200) (.v 1)), true), ((.le (.v 1) (.c 1455)), true), ((.le (.c 2400) (.v 14)), true), ((.le (.v 14) (.c 200000)), true), ((.le (.c (-1)) (.v 12)), true), ((.le (.v 12) (.c 1000)), true), ((.le (.c (-1)) (.v 13)), true), ((.le (.v 13) (.c 1000)), true), ((.le (.c 0) (.v 15)), true), ((.le (.v 15) (.c 4611686018427387903)), true)]
noncomputable def p0x28 : Vl := .dead [((.le p0e3 (.c 10000000000)), false), ((.le (.c 0) p0e3), true), ((.le p0e5 (.c 1000000)), true), ((.le (.c 0) p0e5), true), ((.le p0e7 (.c 2000)), true), ((.le (.c 0) p0e7), true), ((.le p0e9 (.c 1000)), true), ((.le (.c 0) p0e9), true), ((.le p0e1 (.c 6)), true), ((.le (.c 0) p0e1), true), ((.lt (.v 3) (.v 2)), true), ((.le (.c 0) (.v 2)), true), ((.le (.v 2) (.c 1000)), true), ((.le (.c 0) (.v 3)), true), ((.le (.v 3) (.c 1000)), true), ((.le (.c 0) (.v 5)), true), ((.le (.v 5) (.c 25000)), true), ((.le (.c 0) (.v 6)), true), ((.le (.v 6) (.c 10000000000)), true), ((.le (.c 1200) (.v 1)), true), ((.le (.v 1) (.c 1455)), true), ((.le (.c 2400) (.v 14)), true), ((.le (.v 14) (.c 200000)), true), ((.le (.c (-1)) (.v 12)), true), ((.le (.v 12) (.c 1000)), true), ((.le (.c (-1)) (.v 13)), true), ((.le (.v 13) (.c 1000)), true), ((.le (.c 0) (.v 15)), true), ((.le (.v 15) (.c 4611686018427387903)), true)]
noncomputable def p0x29 : Vl := .dead [((.le (.c 0) p0e3), false), ((.le p0e5 (.c 1000000)), true), ((.le (.c 0) p0e5), true), ((.le p0e7 (.c 2000)), true), ((.le (.c 0) p0e7), true), ((.le p0e9 (.c 1000)), true), ((.le (.c 0) p0e9), true), ((.le p0e1 (.c 6)), true), ((.le (.c 0) p0e1), true), ((.lt (.v 3) (.v 2)), true), ((.le (.c 0) (.v 2)), true), ((.le (.v 2) (.c 1000)), true), ((.le (.c 0) (.v 3)), true), ((.le (.v 3) (.c 1000)), true), ((.le (.c 0) (.v 5)), true), ((.le (.v 5) (.c 25000)), true), ((.le (.c 0) (.v 6)), true), ((.le (.v 6) (.c 10000000000)), true), ((.le (.c 1200) (.v 1)), true), ((.le (.v 1) (.c 1455)), true), ((.le (.c 2400) (.v 14)), true), ((.le (.v 14) (.c 200000)), true), ((.le (.c (-1)) (.v 12)), true), ((.le (.v 12) (.c 1000)), true), ((.le (.c (-1)) (.v 13)), true), ((.le (.v 13) (.c 1000)), true), ((.le (.c 0) (.v 15)), true), ((.le (.v 15) (.c 4611686018427387903)), true)]
noncomputable def p0x30 : Vl := .dead [((.le p0e5 (.c 1000000)), false), ((.le (.c 0) p0e5), true), ((.le p0e7 (.c 2000)), true), ((.le (.c 0) p0e7), true), ((.le p0e9 (.c 1000)), true), ((.le (.c 0) p0e9), true), ((.le p0e1 (.c 6)), true), ((.le (.c 0) p0e1), true), ((.lt (.v 3) (.v 2)), true), ((.le (.c 0) (.v 2)), true), ((.le (.v 2) (.c 1000)), true), ((.le (.c 0) (.v 3)), true), ((.le (.v 3) (.c 1000)), true), ((.le (.c 0) (.v 5)), true), ((.le (.v 5) (.c 25000)), true), ((.le (.c 0) (.v 6)), true), ((.le (.v 6) (.c 10000000000)), true), ((.le (.c 1200) (.v 1)), true), ((.le (.v 1) (.c 1455)), true), ((.le (.c 2400) (.v 14)), true), ((.le (.v 14) (.c 200000)), true), ((.le (.c (-1)) (.v 12)), true), ((.le (.v 12) (.c 1000)), true), ((.le (.c (-1)) (.v 13)), true), ((.le (.v 13) (.c 1000)), true), ((.le (.c 0) (.v 15)), true), ((.le (.v 15) (.c 4611686018427387903)), true)]
noncomputable def p0x31 : Vl := .dead [((.le (.c 0) p0e5), false), ((.le p0e7 (.c 2000)), true), ((.le (.c 0) p0e7), true), ((.le p0e9 (.c 1000)), true), ((.le (.c 0) p0e9), true), ((.le p0e1 (.c 6)), true), ((.le (.c 0) p0e1), true), ((.lt (.v 3) (.v 2)), true), ((.le (.c 0) (.v 2)), true), ((.le (.v 2) (.c 1000)), true), ((.le (.c 0) (.v 3)), true), ((.le (.v 3) (.c 1000)), true), ((.le (.c 0) (.v 5)), true), ((.le (.v 5) (.c 25000)), true), ((.le (.c 0) (.v 6)), true), ((.le (.v 6) (.c 10000000000)), true), ((.le (.c 1200) (.v 1)), true), ((.le (.v 1) (.c 1455)), true), ((.le (.c 2400) (.v 14)), true), ((.le (.v 14) (.c 200000)), true), ((.le (.c (-1)) (.v 12)), true), ((.le (.v 12) (.c 1000)), true), ((.le (.c (-1)) (.v 13)), true), ((.le (.v 13) (.c 1000)), true), ((.le (.c 0) (.v 15)), true), ((.le (.v 15) (.c 4611686018427387903)), true)]
noncomputable def p0x32 : Vl := .dead [((.le p0e7 (.c 2000)), false), ((.le (.c 0) p0e7), true), ((.le p0e9 (.c 1000)), true), ((.le (.c 0) p0e9), true), ((.le p0e1 (.c 6)), true), ((.le (.c 0) p0e1), true), ((.lt (.v 3) (.v 2)), true), ((.le (.c 0) (.v 2)), true), ((.le (.v 2) (.c 1000)), true), ((.le (.c 0) (.v 3)), true), ((.le (.v 3) (.c 1000)), true), ((.le (.c 0) (.v 5)), true), ((.le (.v 5) (.c 25000)), true), ((.le (.c 0) (.v 6)), true), ((.le (.v 6) (.c 10000000000)), true), ((.le (.c 1200) (.v 1)), true), ((.le (.v 1) (.c 1455)), true), ((.le (.c 2400) (.v 14)), true), ((.le (.v 14) (.c 200000)), true), ((.le (.c (-1)) (.v 12)), true), ((.le (.v 12) (.c 1000)), true), ((.le (.c (-1)) (.v 13)), true), ((.le (.v 13) (.c 1000)), true), ((.le (.c 0) (.v 15)), true), ((.le (.v 15) (.c 4611686018427387903)), true)]
noncomputable def p0x33 : Vl := .dead [((.le (.c 0) p0e7), false), ((.le p0e9 (.c 1000)), true), ((.le (.c 0) p0e9), true), ((.le p0e1 (.c 6)), true), ((.le (.c 0) p0e1), true), ((.lt (.v 3) (.v 2)), true), ((.le (.c 0) (.v 2)), true), ((.le (.v 2) (.c 1000)), true), ((.le (.c 0) (.v 3)), true), ((.le (.v 3) (.c 1000)), true), ((.le (.c 0) (.v 5)), true), ((.le (.v 5) (.c 25000)), true), ((.le (.c 0) (.v 6)), true), ((.le (.v 6) (.c 10000000000)), true), ((.le (.c 1200) (.v 1)), true), ((.le (.v 1) (.c 1455)), true), ((.le (.c 2400) (.v 14)), true), ((.le (.v 14) (.c 200000)), true), ((.le (.c (-1)) (.v 12)), true), ((.le (.v 12) (.c 1000)), true), ((.le (.c (-1)) (.v 13)), true), ((.le (.v 13) (.c 1000)), true), ((.le (.c 0) (.v 15)), true), ((.le (.v 15) (.c 4611686018427387903)), true)]
noncomputable def p0x34 : Vl := .dead [((.le p0e9 (.c 1000)), false), ((.le (.c 0) p0e9), true), ((.le p0e1 (.c 6)), true), ((.le (.c 0) p0e1), true), ((.lt (.v 3) (.v 2)), true), ((.le (.c 0) (.v 2)), true), ((.le (.v 2) (.c 1000)), true), ((.le (.c 0) (.v 3)), true), ((.le (.v 3) (.c 1000)), true), ((.le (.c 0) (.v 5)), true), ((.le (.v 5) (.c 25000)), true), ((.le (.c 0) (.v 6)), true), ((.le (.v 6) (.c 10000000000)), true), ((.le (.c 1200) (.v 1)), true), ((.le (.v 1) (.c 1455)), true), ((.le (.c 2400) (.v 14)), true), ((.le (.v 14) (.c 200000)), true), ((.le (.c (-1)) (.v 12)), true), ((.le (.v 12) (.c 1000)), true), ((.le (.c (-1)) (.v 13)), true), ((.le (.v 13) (.c 1000)), true), ((.le (.c 0) (.v 15)), true), ((.le (.v 15) (.c 4611686018427387903)), true)]
noncomputable def p0x35 : Vl := .dead [((.le (.c 0) p0e9), false), ((.le p0e1 (.c 6)), true), ((.le (.c 0) p0e1), true), ((.lt (.v 3) (.v 2)), true), ((.le (.c 0) (.v 2)), true), ((.le (.v 2) (.c 1000)), true), ((.le (.c 0) (.v 3)), true), ((.le (.v 3) (.c 1000)), true), ((.le (.c 0) (.v 5)), true), ((.le (.v 5) (.c 25000)), true), ((.le (.c 0) (.v 6)), true), ((.le (.v 6) (.c 10000000000)), true), ((.le (.c 1200) (.v 1)), true), ((.le (.v 1) (.c 1455)), true), ((.le (.c 2400) (.v 14)), true), ((.le (.v 14) (.c 200000)), true), ((.le (.c (-1)) (.v 12)), true), ((.le (.v 12) (.c 1000)), true), ((.le (.c (-1)) (.v 13)), true), ((.le (.v 13) (.c 1000)), true), ((.le (.c 0) (.v 15)), true), ((.le (.v 15) (.c 4611686018427387903)), true)]
noncomputable def p0x36 : Vl := .dead [((.le p0e1 (.c 6)), false), ((.le (.c 0) p0e1), true), ((.lt (.v 3) (.v 2)), true), ((.le (.c 0) (.v 2)), true), ((.le (.v 2) (.c 1000)), true), ((.le (.c 0) (.v 3)), true), ((.le (.v 3) (.c 1000)), true), ((.le (.c 0) (.v 5)), true), ((.le (.v 5) (.c 25000)), true), ((.le (.c 0) (.v 6)), true), ((.le (.v 6) (.c 10000000000)), true), ((.le (.c 1200) (.v 1)), true), ((.le (.v 1) (.c 1455)), true), ((.le (.c 2400) (.v 14)), true), ((.le (.v 14) (.c 200000)), true), ((.le (.c (-1)) (.v 12)), true), ((.le (.v 12) (.c 1000)), true), ((.le (.c (-1)) (.v 13)), true), ((.le (.v 13) (.c 1000)), true), ((.le (.c 0) (.v 15)), true), ((.le (.v 15) (.c 4611686018427387903)), true)]
noncomputable def p0x37 : Vl := .dead [((.le (.c 0) p0e1), false), ((.lt (.v 3) (.v 2)), true), ((.le (.c 0) (.v 2)), true), ((.le (.v 2) (.c 1000)), true), ((.le (.c 0) (.v 3)), true), ((.le (.v 3) (.c 1000)), true), ((.le (.c 0) (.v 5)), true), ((.le (.v 5) (.c 25000)), true), ((.le (.c 0) (.v 6)), true), ((.le (.v 6) (.c 10000000000)), true), ((.le (.c 1200) (.v 1)), true), ((.le (.v 1) (.c 1455)), true), ((.le (.c 2400) (.v 14)), true), ((.le (.v 14) (.c 200000)), true), ((.le (.c (-1)) (.v 12)), true), ((.le (.v 12) (.c 1000)), true), ((.le (.c (-1)) (.v 13)), true), ((.le (.v 13) (.c 1000)), true), ((.le (.c 0) (.v 15)), true), ((.le (.v 15) (.c 4611686018427387903)), true)]
noncomputable def p0x38 : Vl := .out 0 [.a (.v 0) (.v 0) (.v 2) 6, .i (.v 2) (.v 2), .a (.v 1) p0e36 (.v 2) 6, .i (.v 3) (.v 2)] [((.lt (.v 3) (.v 2)), false), ((.le (.c 0) (.v 2)), true), ((.le (.v 2) (.c 1000)), true), ((.le (.c 0) (.v 3)), true), ((.le (.v 3) (.c 1000)), true), ((.le (.c 0) (.v 5)), true), ((.le (.v 5) (.c 25000)), true), ((.le (.c 0) (.v 6)), true), ((.le (.v 6) (.c 10000000000)), true), ((.le (.c 1200) (.v 1)), true), ((.le (.v 1) (.c 1455)), true), ((.le (.c 2400) (.v 14)), true), ((.le (.v 14) (.c 200000)), true), ((.le (.c (-1)) (.v 12)), true), ((.le (.v 12) (.c 1000)), true), ((.le (.c (-1)) (.v 13)), true), ((.le (.v 13) (.c 1000)), true), ((.le (.c 0) (.v 15)), true), ((.le (.v 15) (.c 4611686018427387903)), true)]
noncomputable def p0ls : List Vl := [p0x0, p0x1, p0x2, p0x3, p0x4, p0x5, p0x6, p0x7, p0x8, p0x9, p0x10, p0x11, p0x12, p0x13, p0x14, p0x15, p0x16, p0x17, p0x18, p0x19, p0x20, p0x21, p0x22, p0x23, p0x24, p0x25, p0x26, p0x27, p0x28, p0x29, p0x30, p0x31, p0x32, p0x33, p0x34, p0x35, p0x36, p0x37, p0x38]
theorem p0run : (run (prm7 Try.prog) 900 (ptD (pts7 Try.prog) 0 7)).map (vOf (prm7 Try.prog) ct7 (pts7 Try.prog)) = p0ls := by kernel_rfl
-- 39 ways; terms: p0e0, p0e1, p0e2, p0e3, p0e4, p0e5, p0e6, p0e7, p0e8, p0e9, p0e10, p0e11, p0e12, p0e13, p0e14, p0e15, p0e16, p0e17, p0e18, p0e19, p0e20, p0e21, p0e22, p0e23, p0e24, p0e25, p0e26, p0e27, p0e28, p0e29, p0e30, p0e31, p0e32, p0e33, p0e34, p0e35, p0e36


theorem prm7_ok (E : Env) (hE : E.fn = fns) : PrmOk E (prm7 Try.prog) where
  ct := by
    intro c hc
    simp only [prm7, List.mem_cons, List.not_mem_nil, or_false] at hc
    rw [hE]
    rcases hc with rfl | rfl | rfl | rfl | rfl
    · exact ct30_ok
    · exact ct29_ok
    · exact ct50_ok
    · exact ct51_ok
    · exact ct12_ok
  mix := by kernel_rfl
  okf := okf_call
  body := okf_body
  mts := by intro x hx; cases hx
  dfr := by
    intro f hf a w
    simp only [prm7, List.mem_cons, List.not_mem_nil, or_false] at hf
    subst hf
    exact catch_idle a w
  dfk := by
    intro f hf
    simp only [prm7, List.mem_cons, List.not_mem_nil, or_false] at hf
    subst hf; decide
def cS (E : Env) : CS := ⟨E.i 12, E.i 11, E.i 13, E.i 14, E.i 15, E.i 5, E.i 6⟩
structure I7 (E0 E : Env) (i : Nat) : Prop where
  h1 : E.i 1 = E0.i 1
  h2 : E.i 2 = E0.i 2
  h3 : E.i 3 = i
  le : (i : Int) ≤ E0.i 2
  ha : E.a 0 = E0.a 0
  st : cS E = cAt (E0.i 1) (E0.a 0) i
  row : ∀ j, j < i * 6 → E.a 1 j = outA (E0.i 1) (E0.a 0) j
theorem fin7 {E0 E E' : Env} {i : Nat} (hI : I7 E0 E i) (hlt : (i : Int) < E0.i 2) {k n b f t : Int} (hk : E0.a 0 (6 * i) = k) (hn : E0.a 0 (6 * i + 1) = n) (hb : E0.a 0 (6 * i + 2) = b) (hf : E0.a 0 (6 * i + 3) = f) (ht : E0.a 0 (6 * i + 4) = t)
    (h1 : E'.i 1 = E.i 1) (h2 : E'.i 2 = E.i 2) (h3 : E'.i 3 = E.i 3 + 1) (ha : E'.a 0 = E.a 0) (hS : cS E' = cStep (E.i 1) (cS E) k n b f t) {e : SE} {l : SL}
    (he : (e.den E).toNat = i * 6) (harr : E'.a 1 = (AE.tl (.v 1) e l).den E) (hc : ∀ c, c < 6 → l.nth E c = cOut (E.i 1) (cStep (E.i 1) (cS E) k n b f t) f t c) : I7 E0 E' (i + 1) where
  h1 := h1.trans hI.h1
  h2 := h2.trans hI.h2
  h3 := by rw [h3, hI.h3]; omega
  le := by omega
  ha := ha.trans hI.ha
  st := by rw [hS, hI.st, hI.h1]; subst hk; subst hn; subst hb; subst hf; subst ht; rfl
  row j hj := by
    rw [harr]
    simp only [AE.den, he]
    split
    · rename_i h; exact hI.row j h
    · rename_i h
      obtain ⟨c, rfl⟩ : ∃ c, j = i * 6 + c := ⟨j - i * 6, by omega⟩
      have hc' : c < 6 := by omega
      have e1 : (i * 6 + c) / 6 = i := by omega
      have e2 : (i * 6 + c) % 6 = c := by omega
      rw [Nat.add_sub_cancel_left, hc c hc', hI.h1, hI.st]
      unfold outA
      rw [e1, e2]
      subst hk; subst hn; subst hb; subst hf; subst ht; rfl
theorem g0_den {E : Env} (hE : E.fn = fns) : (SB.ap 0 (.i (.v 1) (.a (.v 0) (.i (.v 2) .nil)))).den E = true ↔ scrOk (E.i 1) (E.a 0) (E.i 2).toNat := by
  show E.fn.g 0 [.i (E.i 1), .a ((AE.v 0).den E), .i (E.i 2)] = true ↔ _
  rw [hE]
  exact @decide_eq_true_iff _ (Classical.propDecidable _)
theorem pre7 {E0 : Env} (hE : E0.fn = fns) (hF : Facts E0 ct7.pre) : (1200 ≤ E0.i 1 ∧ E0.i 1 ≤ 1455) ∧ (0 ≤ E0.i 2 ∧ E0.i 2 ≤ 1000) ∧ scrOk (E0.i 1) (E0.a 0) (E0.i 2).toNat := by
  simp only [ct7, bd, List.cons_append, List.nil_append, facts_cons, facts_nil, le_t, d_c, d_v, and_true, g0_den hE] at hF
  exact ⟨⟨hF.1, hF.2.1⟩, ⟨hF.2.2.1, hF.2.2.2.1⟩, hF.2.2.2.2⟩
theorem recT {x y : Int} (h : x ≠ -1) : b2i (decide (x ≤ y)) = b2i (decide (x ≠ -1 ∧ x ≤ y)) := by
  congr 1; exact decide_eq_decide.2 ⟨fun a => ⟨h, a⟩, fun a => a.2⟩
theorem recF {x y : Int} (h : x = -1) : b2i false = b2i (decide (x ≠ -1 ∧ x ≤ y)) := by
  congr 1; exact (decide_eq_false (fun a => a.1 h)).symm
theorem ct7_ok : CtOk Try.prog fns ct7 := by
  refine ct_of_pts (p := prm7 Try.prog) (pts := pts7 Try.prog) (n := 900) (c0 := enterD (prm7 Try.prog) ct7) (fun E hE => prm7_ok E hE) rfl (by intro q hq; cases hq) Try.func7 (by kernel_rfl) ?_ (fun E0 _ E => ∃ i, I7 E0 E i) (fun E0 _ E => (E0.i 2 - E.i 3).toNat) pals (by kernel_rfl) ?_ ?_
  · intro t ht
    simp only [pts7, List.mem_cons, List.not_mem_nil, or_false] at ht
    subst ht
    exact ⟨by kernel_rfl, by decide⟩
  · intro E hE hF
    obtain ⟨b1, b2, hst⟩ := pre7 hE hF
    refine ⟨fun a ha => ?_, fun x hx => ?_⟩
    · obtain rfl := Option.some.inj ha; intro q hq; cases hq
    · unfold pals at hx
      simp only [List.mem_cons, List.not_mem_nil, or_false] at hx
      subst hx
      intro hf
      exact ⟨⟨_, rfl, .inl ⟨rfl, rfl⟩⟩, fun o => ⟨⟨0, ⟨rfl, rfl, rfl, b2.1, rfl, rfl, fun j hj => by omega⟩⟩, fun b hb => by cases hb⟩⟩
  · intro k t ht
    have hk : k = 0 := by
      have := (List.getElem?_eq_some_iff.1 ht).1
      simp [pts7] at this; omega
    subst hk
    refine ⟨p0ls, by rw [← ptD_some ht ct7.g]; exact p0run, fun E0 E hE0 hE hF0 ⟨i, hI⟩ => ?_⟩
    obtain ⟨b1, b2, hst⟩ := pre7 hE0 hF0
    have hle := hI.le
    have hok := cAt_ok b1 hst i (by omega)
    have hsi := hI.st
    rw [← hsi] at hok
    obtain ⟨k1, k2, k3, k4, k5, k6⟩ := hok
    change -1 ≤ E.i 12 ∧ E.i 12 ≤ 1000 at k1
    change -1 ≤ E.i 13 ∧ E.i 13 ≤ 1000 at k2
    change 2400 ≤ E.i 14 ∧ E.i 14 ≤ 200000 at k3
    change 0 ≤ E.i 15 ∧ E.i 15 ≤ 4611686018427387903 at k4
    change 0 ≤ E.i 5 ∧ E.i 5 ≤ 25000 at k5
    change 0 ≤ E.i 6 ∧ E.i 6 ≤ 10000000000 at k6
    have h3 := hI.h3; have h1 := hI.h1; have h2 := hI.h2
    have he0 : (p0e0.den E).toNat = i * 6 := by simp only [p0e0, d_mul, d_v, d_c, h3]; omega
    have he1 : (p0e8.den E).toNat = 6 * i + 1 := by simp only [p0e8, p0e0, d_add, d_mul, d_v, d_c, h3]; omega
    have he2 : (p0e6.den E).toNat = 6 * i + 2 := by simp only [p0e6, p0e0, d_add, d_mul, d_v, d_c, h3]; omega
    have he3 : (p0e4.den E).toNat = 6 * i + 3 := by simp only [p0e4, p0e0, d_add, d_mul, d_v, d_c, h3]; omega
    have he4 : (p0e2.den E).toNat = 6 * i + 4 := by simp only [p0e2, p0e0, d_add, d_mul, d_v, d_c, h3]; omega
    have he5 : (p0e10.den E).toNat = 6 * i + 5 := by simp only [p0e10, p0e0, d_add, d_mul, d_v, d_c, h3]; omega
    have hk0 : E0.a 0 (6 * i) = p0e1.den E := by simp only [p0e1, d_rd, d_av, he0, hI.ha, Nat.mul_comm]
    have hk1 : E0.a 0 (6 * i + 1) = p0e9.den E := by simp only [p0e9, d_rd, d_av, he1, hI.ha]
    have hk2 : E0.a 0 (6 * i + 2) = p0e7.den E := by simp only [p0e7, d_rd, d_av, he2, hI.ha]
    have hk3 : E0.a 0 (6 * i + 3) = p0e5.den E := by simp only [p0e5, d_rd, d_av, he3, hI.ha]
    have hk4 : E0.a 0 (6 * i + 4) = p0e3.den E := by simp only [p0e3, d_rd, d_av, he4, hI.ha]
    have hk5 : E0.a 0 (6 * i + 5) = p0e11.den E := by simp only [p0e11, d_rd, d_av, he5, hI.ha]
    have hstep : (E.i 3 < E.i 2) → okStep (cS E) (p0e1.den E) (p0e9.den E) (p0e7.den E) (p0e5.den E) (p0e3.den E) (p0e11.den E) := fun h => by
      rw [hsi, ← hk0, ← hk1, ← hk2, ← hk3, ← hk4, ← hk5]; exact hst i (by omega)
    have hhalf : (E.i 14).tdiv 2 = E.i 14 / 2 := tdn (by omega)
    refine ⟨?_, fun x hx => ?_⟩
    · obtain rfl := Option.some.inj ht
      simp only [pacB, cwB, bd, List.cons_append, List.nil_append, facts_cons, facts_nil, le_t, eq_t, d_c, d_v, and_true]
      omega
    · unfold p0ls at hx
      simp only [List.mem_cons, List.not_mem_nil, or_false] at hx
      rcases hx with rfl | rfl | rfl | rfl | rfl | rfl | rfl | rfl | rfl | rfl | rfl | rfl | rfl | rfl | rfl | rfl | rfl | rfl | rfl | rfl | rfl | rfl | rfl | rfl | rfl | rfl | rfl | rfl | rfl | rfl | rfl | rfl | rfl | rfl | rfl | rfl | rfl | rfl | rfl
      · -- p0x0
        intro hf
        skip
        simp only [facts_cons, facts_nil, lt_t, lt_f, le_t, le_f, eq_t, eq_f, and_true, d_c, d_v, d_bv] at hf
        have hs := hstep (by omega)
        obtain ⟨hs1, hs2⟩ := hs
        change (_ ∧ _) ∨ (_ ∧ E.i 14 ≤ 190000 ∧ E.i 13 = -1 ∧ E.i 15 = 4611686018427387903) ∨ (_ ∧ _) at hs2
        first
          | omega
          | (have r1 := pRate_ok (cw := E.i 14) (sst := E.i 15) k3
             have r2 := pRate_ok (cw := ackCw (E.i 14) (p0e5.den E) (E.i 1)) (sst := E.i 15) (ackCw_ok (by omega) (by omega))
             simp only [p0e0, p0e1, p0e2, p0e3, p0e4, p0e5, p0e6, p0e7, p0e8, p0e9, p0e10, p0e11, p0e12, p0e13, p0e14, p0e15, p0e16, p0e17, p0e18, p0e19, p0e20, p0e21, p0e22, p0e23, p0e24, p0e25, p0e26, p0e27, p0e28, p0e29, p0e30, p0e31, p0e32, p0e33, p0e34, p0e35, p0e36, d_c, d_v, d_ap, d_sli, d_slnil, d_bv, d_bc, d_mul, d_add, d_sub, d_wrap, d_tdiv, d_mx, hE, fnsf0, fnsf1, fnsf2, fnsf3, fnsf4, fnsf5] at hf r2
             omega)
          | (have r1 := pRate_ok (cw := E.i 14) (sst := E.i 15) k3
             simp only [p0e0, p0e1, p0e2, p0e3, p0e4, p0e5, p0e6, p0e7, p0e8, p0e9, p0e10, p0e11, p0e12, p0e13, p0e14, p0e15, p0e16, p0e17, p0e18, p0e19, p0e20, p0e21, p0e22, p0e23, p0e24, p0e25, p0e26, p0e27, p0e28, p0e29, p0e30, p0e31, p0e32, p0e33, p0e34, p0e35, p0e36, d_c, d_v, d_ap, d_sli, d_slnil, d_bv, d_bc, d_mul, d_add, d_sub, d_wrap, d_tdiv, d_mx, hE, fnsf0, fnsf1, fnsf2, fnsf3, fnsf4, fnsf5] at hf
             omega)
          | (have r1 := pRate_ok (cw := E.i 1 * 2) (sst := E.i 14 / 2) (by omega)
             simp only [p0e0, p0e1, p0e2, p0e3, p0e4, p0e5, p0e6, p0e7, p0e8, p0e9, p0e10, p0e11, p0e12, p0e13, p0e14, p0e15, p0e16, p0e17, p0e18, p0e19, p0e20, p0e21, p0e22, p0e23, p0e24, p0e25, p0e26, p0e27, p0e28, p0e29, p0e30, p0e31, p0e32, p0e33, p0e34, p0e35, p0e36, d_c, d_v, d_ap, d_sli, d_slnil, d_bv, d_bc, d_mul, d_add, d_sub, d_wrap, d_tdiv, d_mx, hE, fnsf0, fnsf1, fnsf2, fnsf3, fnsf4, fnsf5, hhalf] at hf
             omega)
      · -- p0x1
        intro hf
        skip
        simp only [facts_cons, facts_nil, lt_t, lt_f, le_t, le_f, eq_t, eq_f, and_true, d_c, d_v, d_bv] at hf
        have hs := hstep (by omega)
        obtain ⟨hs1, hs2⟩ := hs
        change (_ ∧ _) ∨ (_ ∧ E.i 14 ≤ 190000 ∧ E.i 13 = -1 ∧ E.i 15 = 4611686018427387903) ∨ (_ ∧ _) at hs2
        first
          | omega
          | (have r1 := pRate_ok (cw := E.i 14) (sst := E.i 15) k3
             have r2 := pRate_ok (cw := ackCw (E.i 14) (p0e5.den E) (E.i 1)) (sst := E.i 15) (ackCw_ok (by omega) (by omega))
             simp only [p0e0, p0e1, p0e2, p0e3, p0e4, p0e5, p0e6, p0e7, p0e8, p0e9, p0e10, p0e11, p0e12, p0e13, p0e14, p0e15, p0e16, p0e17, p0e18, p0e19, p0e20, p0e21, p0e22, p0e23, p0e24, p0e25, p0e26, p0e27, p0e28, p0e29, p0e30, p0e31, p0e32, p0e33, p0e34, p0e35, p0e36, d_c, d_v, d_ap, d_sli, d_slnil, d_bv, d_bc, d_mul, d_add, d_sub, d_wrap, d_tdiv, d_mx, hE, fnsf0, fnsf1, fnsf2, fnsf3, fnsf4, fnsf5] at hf r2
             omega)
          | (have r1 := pRate_ok (cw := E.i 14) (sst := E.i 15) k3
             simp only [p0e0, p0e1, p0e2, p0e3, p0e4, p0e5, p0e6, p0e7, p0e8, p0e9, p0e10, p0e11, p0e12, p0e13, p0e14, p0e15, p0e16, p0e17, p0e18, p0e19, p0e20, p0e21, p0e22, p0e23, p0e24, p0e25, p0e26, p0e27, p0e28, p0e29, p0e30, p0e31, p0e32, p0e33, p0e34, p0e35, p0e36, d_c, d_v, d_ap, d_sli, d_slnil, d_bv, d_bc, d_mul, d_add, d_sub, d_wrap, d_tdiv, d_mx, hE, fnsf0, fnsf1, fnsf2, fnsf3, fnsf4, fnsf5] at hf
             omega)
          | (have r1 := pRate_ok (cw := E.i 1 * 2) (sst := E.i 14 / 2) (by omega)
             simp only [p0e0, p0e1, p0e2, p0e3, p0e4, p0e5, p0e6, p0e7, p0e8, p0e9, p0e10, p0e11, p0e12, p0e13, p0e14, p0e15, p0e16, p0e17, p0e18, p0e19, p0e20, p0e21, p0e22, p0e23, p0e24, p0e25, p0e26, p0e27, p0e28, p0e29, p0e30, p0e31, p0e32, p0e33, p0e34, p0e35, p0e36, d_c, d_v, d_ap, d_sli, d_slnil, d_bv, d_bc, d_mul, d_add, d_sub, d_wrap, d_tdiv, d_mx, hE, fnsf0, fnsf1, fnsf2, fnsf3, fnsf4, fnsf5, hhalf] at hf
             omega)
      · -- p0x2
        intro hf
        skip
        simp only [facts_cons, facts_nil, lt_t, lt_f, le_t, le_f, eq_t, eq_f, and_true, d_c, d_v, d_bv] at hf
        have hs := hstep (by omega)
        obtain ⟨hs1, hs2⟩ := hs
        change (_ ∧ _) ∨ (_ ∧ E.i 14 ≤ 190000 ∧ E.i 13 = -1 ∧ E.i 15 = 4611686018427387903) ∨ (_ ∧ _) at hs2
        first
          | omega
          | (have r1 := pRate_ok (cw := E.i 14) (sst := E.i 15) k3
             have r2 := pRate_ok (cw := ackCw (E.i 14) (p0e5.den E) (E.i 1)) (sst := E.i 15) (ackCw_ok (by omega) (by omega))
             simp only [p0e0, p0e1, p0e2, p0e3, p0e4, p0e5, p0e6, p0e7, p0e8, p0e9, p0e10, p0e11, p0e12, p0e13, p0e14, p0e15, p0e16, p0e17, p0e18, p0e19, p0e20, p0e21, p0e22, p0e23, p0e24, p0e25, p0e26, p0e27, p0e28, p0e29, p0e30, p0e31, p0e32, p0e33, p0e34, p0e35, p0e36, d_c, d_v, d_ap, d_sli, d_slnil, d_bv, d_bc, d_mul, d_add, d_sub, d_wrap, d_tdiv, d_mx, hE, fnsf0, fnsf1, fnsf2, fnsf3, fnsf4, fnsf5] at hf r2
             omega)
          | (have r1 := pRate_ok (cw := E.i 14) (sst := E.i 15) k3
             simp only [p0e0, p0e1, p0e2, p0e3, p0e4, p0e5, p0e6, p0e7, p0e8, p0e9, p0e10, p0e11, p0e12, p0e13, p0e14, p0e15, p0e16, p0e17, p0e18, p0e19, p0e20, p0e21, p0e22, p0e23, p0e24, p0e25, p0e26, p0e27, p0e28, p0e29, p0e30, p0e31, p0e32, p0e33, p0e34, p0e35, p0e36, d_c, d_v, d_ap, d_sli, d_slnil, d_bv, d_bc, d_mul, d_add, d_sub, d_wrap, d_tdiv, d_mx, hE, fnsf0, fnsf1, fnsf2, fnsf3, fnsf4, fnsf5] at hf
             omega)
          | (have r1 := pRate_ok (cw := E.i 1 * 2) (sst := E.i 14 / 2) (by omega)
             simp only [p0e0, p0e1, p0e2, p0e3, p0e4, p0e5, p0e6, p0e7, p0e8, p0e9, p0e10, p0e11, p0e12, p0e13, p0e14, p0e15, p0e16, p0e17, p0e18, p0e19, p0e20, p0e21, p0e22, p0e23, p0e24, p0e25, p0e26, p0e27, p0e28, p0e29, p0e30, p0e31, p0e32, p0e33, p0e34, p0e35, p0e36, d_c, d_v, d_ap, d_sli, d_slnil, d_bv, d_bc, d_mul, d_add, d_sub, d_wrap, d_tdiv, d_mx, hE, fnsf0, fnsf1, fnsf2, fnsf3, fnsf4, fnsf5, hhalf] at hf
             omega)
      · -- p0x3
        intro hf
        skip
        simp only [facts_cons, facts_nil, lt_t, lt_f, le_t, le_f, eq_t, eq_f, and_true, d_c, d_v, d_bv] at hf
        have hs := hstep (by omega)
        obtain ⟨hs1, hs2⟩ := hs
        change (_ ∧ _) ∨ (_ ∧ E.i 14 ≤ 190000 ∧ E.i 13 = -1 ∧ E.i 15 = 4611686018427387903) ∨ (_ ∧ _) at hs2
        first
          | omega
          | (have r1 := pRate_ok (cw := E.i 14) (sst := E.i 15) k3
             have r2 := pRate_ok (cw := ackCw (E.i 14) (p0e5.den E) (E.i 1)) (sst := E.i 15) (ackCw_ok (by omega) (by omega))
             simp only [p0e0, p0e1, p0e2, p0e3, p0e4, p0e5, p0e6, p0e7, p0e8, p0e9, p0e10, p0e11, p0e12, p0e13, p0e14, p0e15, p0e16, p0e17, p0e18, p0e19, p0e20, p0e21, p0e22, p0e23, p0e24, p0e25, p0e26, p0e27, p0e28, p0e29, p0e30, p0e31, p0e32, p0e33, p0e34, p0e35, p0e36, d_c, d_v, d_ap, d_sli, d_slnil, d_bv, d_bc, d_mul, d_add, d_sub, d_wrap, d_tdiv, d_mx, hE, fnsf0, fnsf1, fnsf2, fnsf3, fnsf4, fnsf5] at hf r2
             omega)
          | (have r1 := pRate_ok (cw := E.i 14) (sst := E.i 15) k3
             simp only [p0e0, p0e1, p0e2, p0e3, p0e4, p0e5, p0e6, p0e7, p0e8, p0e9, p0e10, p0e11, p0e12, p0e13, p0e14, p0e15, p0e16, p0e17, p0e18, p0e19, p0e20, p0e21, p0e22, p0e23, p0e24, p0e25, p0e26, p0e27, p0e28, p0e29, p0e30, p0e31, p0e32, p0e33, p0e34, p0e35, p0e36, d_c, d_v, d_ap, d_sli, d_slnil, d_bv, d_bc, d_mul, d_add, d_sub, d_wrap, d_tdiv, d_mx, hE, fnsf0, fnsf1, fnsf2, fnsf3, fnsf4, fnsf5] at hf
             omega)
          | (have r1 := pRate_ok (cw := E.i 1 * 2) (sst := E.i 14 / 2) (by omega)
             simp only [p0e0, p0e1, p0e2, p0e3, p0e4, p0e5, p0e6, p0e7, p0e8, p0e9, p0e10, p0e11, p0e12, p0e13, p0e14, p0e15, p0e16, p0e17, p0e18, p0e19, p0e20, p0e21, p0e22, p0e23, p0e24, p0e25, p0e26, p0e27, p0e28, p0e29, p0e30, p0e31, p0e32, p0e33, p0e34, p0e35, p0e36, d_c, d_v, d_ap, d_sli, d_slnil, d_bv, d_bc, d_mul, d_add, d_sub, d_wrap, d_tdiv, d_mx, hE, fnsf0, fnsf1, fnsf2, fnsf3, fnsf4, fnsf5, hhalf] at hf
             omega)
      · -- p0x4
        intro hf
        skip
        simp only [facts_cons, facts_nil, lt_t, lt_f, le_t, le_f, eq_t, eq_f, and_true, d_c, d_v, d_bv] at hf
        have hs := hstep (by omega)
        obtain ⟨hs1, hs2⟩ := hs
        change (_ ∧ _) ∨ (_ ∧ E.i 14 ≤ 190000 ∧ E.i 13 = -1 ∧ E.i 15 = 4611686018427387903) ∨ (_ ∧ _) at hs2
        first
          | omega
          | (have r1 := pRate_ok (cw := E.i 14) (sst := E.i 15) k3
             have r2 := pRate_ok (cw := ackCw (E.i 14) (p0e5.den E) (E.i 1)) (sst := E.i 15) (ackCw_ok (by omega) (by omega))
             simp only [p0e0, p0e1, p0e2, p0e3, p0e4, p0e5, p0e6, p0e7, p0e8, p0e9, p0e10, p0e11, p0e12, p0e13, p0e14, p0e15, p0e16, p0e17, p0e18, p0e19, p0e20, p0e21, p0e22, p0e23, p0e24, p0e25, p0e26, p0e27, p0e28, p0e29, p0e30, p0e31, p0e32, p0e33, p0e34, p0e35, p0e36, d_c, d_v, d_ap, d_sli, d_slnil, d_bv, d_bc, d_mul, d_add, d_sub, d_wrap, d_tdiv, d_mx, hE, fnsf0, fnsf1, fnsf2, fnsf3, fnsf4, fnsf5] at hf r2
             omega)
          | (have r1 := pRate_ok (cw := E.i 14) (sst := E.i 15) k3
             simp only [p0e0, p0e1, p0e2, p0e3, p0e4, p0e5, p0e6, p0e7, p0e8, p0e9, p0e10, p0e11, p0e12, p0e13, p0e14, p0e15, p0e16, p0e17, p0e18, p0e19, p0e20, p0e21, p0e22, p0e23, p0e24, p0e25, p0e26, p0e27, p0e28, p0e29, p0e30, p0e31, p0e32, p0e33, p0e34, p0e35, p0e36, d_c, d_v, d_ap, d_sli, d_slnil, d_bv, d_bc, d_mul, d_add, d_sub, d_wrap, d_tdiv, d_mx, hE, fnsf0, fnsf1, fnsf2, fnsf3, fnsf4, fnsf5] at hf
             omega)
          | (have r1 := pRate_ok (cw := E.i 1 * 2) (sst := E.i 14 / 2) (by omega)
             simp only [p0e0, p0e1, p0e2, p0e3, p0e4, p0e5, p0e6, p0e7, p0e8, p0e9, p0e10, p0e11, p0e12, p0e13, p0e14, p0e15, p0e16, p0e17, p0e18, p0e19, p0e20, p0e21, p0e22, p0e23, p0e24, p0e25, p0e26, p0e27, p0e28, p0e29, p0e30, p0e31, p0e32, p0e33, p0e34, p0e35, p0e36, d_c, d_v, d_ap, d_sli, d_slnil, d_bv, d_bc, d_mul, d_add, d_sub, d_wrap, d_tdiv, d_mx, hE, fnsf0, fnsf1, fnsf2, fnsf3, fnsf4, fnsf5, hhalf] at hf
             omega)
      · -- p0x5
        intro hf
        refine ⟨⟨_, rfl, .inr ⟨rfl, rfl⟩⟩, fun o => ?_⟩
        have hK : p0e1.den E = 0 := by
          have := hf ((.eq p0e1 (.c 0)), true) (by simp)
          simpa only [eq_t, d_c] using this
        have hlt : E.i 3 < E.i 2 := by
          have := hf ((.lt (.v 3) (.v 2)), true) (by simp)
          simpa only [lt_t, d_v] using this
        have hbud : p0e13.den E = pSent (p0e3.den E) (p0e7.den E) (pRate (E.i 14) (E.i 15)) (E.i 5) (E.i 6) := by simp only [p0e0, p0e1, p0e2, p0e3, p0e4, p0e5, p0e6, p0e7, p0e8, p0e9, p0e10, p0e11, p0e12, p0e13, p0e14, p0e15, p0e16, p0e17, p0e18, p0e19, p0e20, p0e21, p0e22, p0e23, p0e24, p0e25, p0e26, p0e27, p0e28, p0e29, p0e30, p0e31, p0e32, p0e33, p0e34, p0e35, p0e36, d_c, d_v, d_ap, d_sli, d_slnil, d_bv, d_bc, d_mul, d_add, d_sub, d_wrap, d_tdiv, d_mx, hE, fnsf0, fnsf1, fnsf2, fnsf3, fnsf4, fnsf5]
        have hcell0 : (SE.den E (.v 14)) = E.i 14 := by simp only [p0e0, p0e1, p0e2, p0e3, p0e4, p0e5, p0e6, p0e7, p0e8, p0e9, p0e10, p0e11, p0e12, p0e13, p0e14, p0e15, p0e16, p0e17, p0e18, p0e19, p0e20, p0e21, p0e22, p0e23, p0e24, p0e25, p0e26, p0e27, p0e28, p0e29, p0e30, p0e31, p0e32, p0e33, p0e34, p0e35, p0e36, d_c, d_v, d_ap, d_sli, d_slnil, d_bv, d_bc, d_mul, d_add, d_sub, d_wrap, d_tdiv, d_mx, hE, fnsf0, fnsf1, fnsf2, fnsf3, fnsf4, fnsf5]
        have hcell1 : (SE.den E (.v 15)) = E.i 15 := by simp only [p0e0, p0e1, p0e2, p0e3, p0e4, p0e5, p0e6, p0e7, p0e8, p0e9, p0e10, p0e11, p0e12, p0e13, p0e14, p0e15, p0e16, p0e17, p0e18, p0e19, p0e20, p0e21, p0e22, p0e23, p0e24, p0e25, p0e26, p0e27, p0e28, p0e29, p0e30, p0e31, p0e32, p0e33, p0e34, p0e35, p0e36, d_c, d_v, d_ap, d_sli, d_slnil, d_bv, d_bc, d_mul, d_add, d_sub, d_wrap, d_tdiv, d_mx, hE, fnsf0, fnsf1, fnsf2, fnsf3, fnsf4, fnsf5]
        have hcell4 : p0e15.den E = pBudget (p0e3.den E) (pRate (E.i 14) (E.i 15)) (pSent (p0e3.den E) (p0e7.den E) (pRate (E.i 14) (E.i 15)) (E.i 5) (E.i 6)) (p0e3.den E) := by simp only [p0e0, p0e1, p0e2, p0e3, p0e4, p0e5, p0e6, p0e7, p0e8, p0e9, p0e10, p0e11, p0e12, p0e13, p0e14, p0e15, p0e16, p0e17, p0e18, p0e19, p0e20, p0e21, p0e22, p0e23, p0e24, p0e25, p0e26, p0e27, p0e28, p0e29, p0e30, p0e31, p0e32, p0e33, p0e34, p0e35, p0e36, d_c, d_v, d_ap, d_sli, d_slnil, d_bv, d_bc, d_mul, d_add, d_sub, d_wrap, d_tdiv, d_mx, hE, fnsf0, fnsf1, fnsf2, fnsf3, fnsf4, fnsf5]
        have hcell5 : p0e16.den E = pUntil (pRate (E.i 14) (E.i 15)) (pSent (p0e3.den E) (p0e7.den E) (pRate (E.i 14) (E.i 15)) (E.i 5) (E.i 6)) (p0e3.den E) := by simp only [p0e0, p0e1, p0e2, p0e3, p0e4, p0e5, p0e6, p0e7, p0e8, p0e9, p0e10, p0e11, p0e12, p0e13, p0e14, p0e15, p0e16, p0e17, p0e18, p0e19, p0e20, p0e21, p0e22, p0e23, p0e24, p0e25, p0e26, p0e27, p0e28, p0e29, p0e30, p0e31, p0e32, p0e33, p0e34, p0e35, p0e36, d_c, d_v, d_ap, d_sli, d_slnil, d_bv, d_bc, d_mul, d_add, d_sub, d_wrap, d_tdiv, d_mx, hE, fnsf0, fnsf1, fnsf2, fnsf3, fnsf4, fnsf5]
        refine ⟨⟨i + 1, fin7 hI (by omega) (hk0.trans hK) hk1 hk2 hk3 hk4 rfl rfl rfl rfl (CS.ext rfl rfl rfl rfl rfl hbud rfl) (e := p0e0) (l := (.i (.v 14) (.b (.lt (.v 14) (.v 15)) (.b (.c false) (.b (.lt p0e5 (.v 14)) (.b (.le (.v 1) p0e15) (.i p0e16 .nil))))))) he0 rfl ?_⟩, fun b hb => ?_⟩
        · intro c hc
          match c, hc with
          | 0, _ => exact hcell0
          | 1, _ =>
            show b2i (decide (SE.den E (.v 14) < SE.den E (.v 15))) = b2i (decide (E.i 14 < E.i 15))
            rw [hcell0, hcell1]
          | 2, _ =>
            exact recF (by show E.i 12 = -1; have := hf ((.eq (.v 12) (.c (-1))), true) (by simp); simpa only [eq_t, d_v, d_c] using this)
          | 3, _ =>
            show b2i (decide (p0e5.den E < SE.den E (.v 14))) = b2i (decide (p0e5.den E < E.i 14))
            rw [hcell0]
          | 4, _ =>
            show b2i (decide (E.i 1 ≤ p0e15.den E)) = b2i (decide (E.i 1 ≤ pBudget (p0e3.den E) (pRate (E.i 14) (E.i 15)) (pSent (p0e3.den E) (p0e7.den E) (pRate (E.i 14) (E.i 15)) (E.i 5) (E.i 6)) (p0e3.den E)))
            rw [hcell4]
          | 5, _ => exact hcell5
        · obtain rfl := Option.some.inj hb
          show (E0.i 2 - (E.i 3 + 1)).toNat < _
          omega
      · -- p0x6
        intro hf
        refine ⟨⟨_, rfl, .inr ⟨rfl, rfl⟩⟩, fun o => ?_⟩
        have hK : p0e1.den E = 0 := by
          have := hf ((.eq p0e1 (.c 0)), true) (by simp)
          simpa only [eq_t, d_c] using this
        have hlt : E.i 3 < E.i 2 := by
          have := hf ((.lt (.v 3) (.v 2)), true) (by simp)
          simpa only [lt_t, d_v] using this
        have hbud : p0e13.den E = pSent (p0e3.den E) (p0e7.den E) (pRate (E.i 14) (E.i 15)) (E.i 5) (E.i 6) := by simp only [p0e0, p0e1, p0e2, p0e3, p0e4, p0e5, p0e6, p0e7, p0e8, p0e9, p0e10, p0e11, p0e12, p0e13, p0e14, p0e15, p0e16, p0e17, p0e18, p0e19, p0e20, p0e21, p0e22, p0e23, p0e24, p0e25, p0e26, p0e27, p0e28, p0e29, p0e30, p0e31, p0e32, p0e33, p0e34, p0e35, p0e36, d_c, d_v, d_ap, d_sli, d_slnil, d_bv, d_bc, d_mul, d_add, d_sub, d_wrap, d_tdiv, d_mx, hE, fnsf0, fnsf1, fnsf2, fnsf3, fnsf4, fnsf5]
        have hcell0 : (SE.den E (.v 14)) = E.i 14 := by simp only [p0e0, p0e1, p0e2, p0e3, p0e4, p0e5, p0e6, p0e7, p0e8, p0e9, p0e10, p0e11, p0e12, p0e13, p0e14, p0e15, p0e16, p0e17, p0e18, p0e19, p0e20, p0e21, p0e22, p0e23, p0e24, p0e25, p0e26, p0e27, p0e28, p0e29, p0e30, p0e31, p0e32, p0e33, p0e34, p0e35, p0e36, d_c, d_v, d_ap, d_sli, d_slnil, d_bv, d_bc, d_mul, d_add, d_sub, d_wrap, d_tdiv, d_mx, hE, fnsf0, fnsf1, fnsf2, fnsf3, fnsf4, fnsf5]
        have hcell1 : (SE.den E (.v 15)) = E.i 15 := by simp only [p0e0, p0e1, p0e2, p0e3, p0e4, p0e5, p0e6, p0e7, p0e8, p0e9, p0e10, p0e11, p0e12, p0e13, p0e14, p0e15, p0e16, p0e17, p0e18, p0e19, p0e20, p0e21, p0e22, p0e23, p0e24, p0e25, p0e26, p0e27, p0e28, p0e29, p0e30, p0e31, p0e32, p0e33, p0e34, p0e35, p0e36, d_c, d_v, d_ap, d_sli, d_slnil, d_bv, d_bc, d_mul, d_add, d_sub, d_wrap, d_tdiv, d_mx, hE, fnsf0, fnsf1, fnsf2, fnsf3, fnsf4, fnsf5]
        have hcell4 : p0e15.den E = pBudget (p0e3.den E) (pRate (E.i 14) (E.i 15)) (pSent (p0e3.den E) (p0e7.den E) (pRate (E.i 14) (E.i 15)) (E.i 5) (E.i 6)) (p0e3.den E) := by simp only [p0e0, p0e1, p0e2, p0e3, p0e4, p0e5, p0e6, p0e7, p0e8, p0e9, p0e10, p0e11, p0e12, p0e13, p0e14, p0e15, p0e16, p0e17, p0e18, p0e19, p0e20, p0e21, p0e22, p0e23, p0e24, p0e25, p0e26, p0e27, p0e28, p0e29, p0e30, p0e31, p0e32, p0e33, p0e34, p0e35, p0e36, d_c, d_v, d_ap, d_sli, d_slnil, d_bv, d_bc, d_mul, d_add, d_sub, d_wrap, d_tdiv, d_mx, hE, fnsf0, fnsf1, fnsf2, fnsf3, fnsf4, fnsf5]
        have hcell5 : p0e16.den E = pUntil (pRate (E.i 14) (E.i 15)) (pSent (p0e3.den E) (p0e7.den E) (pRate (E.i 14) (E.i 15)) (E.i 5) (E.i 6)) (p0e3.den E) := by simp only [p0e0, p0e1, p0e2, p0e3, p0e4, p0e5, p0e6, p0e7, p0e8, p0e9, p0e10, p0e11, p0e12, p0e13, p0e14, p0e15, p0e16, p0e17, p0e18, p0e19, p0e20, p0e21, p0e22, p0e23, p0e24, p0e25, p0e26, p0e27, p0e28, p0e29, p0e30, p0e31, p0e32, p0e33, p0e34, p0e35, p0e36, d_c, d_v, d_ap, d_sli, d_slnil, d_bv, d_bc, d_mul, d_add, d_sub, d_wrap, d_tdiv, d_mx, hE, fnsf0, fnsf1, fnsf2, fnsf3, fnsf4, fnsf5]
        refine ⟨⟨i + 1, fin7 hI (by omega) (hk0.trans hK) hk1 hk2 hk3 hk4 rfl rfl rfl rfl (CS.ext rfl rfl rfl rfl rfl hbud rfl) (e := p0e0) (l := (.i (.v 14) (.b (.lt (.v 14) (.v 15)) (.b (.le (.v 12) (.v 13)) (.b (.lt p0e5 (.v 14)) (.b (.le (.v 1) p0e15) (.i p0e16 .nil))))))) he0 rfl ?_⟩, fun b hb => ?_⟩
        · intro c hc
          match c, hc with
          | 0, _ => exact hcell0
          | 1, _ =>
            show b2i (decide (SE.den E (.v 14) < SE.den E (.v 15))) = b2i (decide (E.i 14 < E.i 15))
            rw [hcell0, hcell1]
          | 2, _ =>
            exact recT (by show E.i 12 ≠ -1; have := hf ((.eq (.v 12) (.c (-1))), false) (by simp); simpa only [eq_f, d_v, d_c] using this)
          | 3, _ =>
            show b2i (decide (p0e5.den E < SE.den E (.v 14))) = b2i (decide (p0e5.den E < E.i 14))
            rw [hcell0]
          | 4, _ =>
            show b2i (decide (E.i 1 ≤ p0e15.den E)) = b2i (decide (E.i 1 ≤ pBudget (p0e3.den E) (pRate (E.i 14) (E.i 15)) (pSent (p0e3.den E) (p0e7.den E) (pRate (E.i 14) (E.i 15)) (E.i 5) (E.i 6)) (p0e3.den E)))
            rw [hcell4]
          | 5, _ => exact hcell5
        · obtain rfl := Option.some.inj hb
          show (E0.i 2 - (E.i 3 + 1)).toNat < _
          omega
      · -- p0x7
        intro hf
        skip
        simp only [facts_cons, facts_nil, lt_t, lt_f, le_t, le_f, eq_t, eq_f, and_true, d_c, d_v, d_bv] at hf
        have hs := hstep (by omega)
        obtain ⟨hs1, hs2⟩ := hs
        change (_ ∧ _) ∨ (_ ∧ E.i 14 ≤ 190000 ∧ E.i 13 = -1 ∧ E.i 15 = 4611686018427387903) ∨ (_ ∧ _) at hs2
        first
          | omega
          | (have r1 := pRate_ok (cw := E.i 14) (sst := E.i 15) k3
             have r2 := pRate_ok (cw := ackCw (E.i 14) (p0e5.den E) (E.i 1)) (sst := E.i 15) (ackCw_ok (by omega) (by omega))
             simp only [p0e0, p0e1, p0e2, p0e3, p0e4, p0e5, p0e6, p0e7, p0e8, p0e9, p0e10, p0e11, p0e12, p0e13, p0e14, p0e15, p0e16, p0e17, p0e18, p0e19, p0e20, p0e21, p0e22, p0e23, p0e24, p0e25, p0e26, p0e27, p0e28, p0e29, p0e30, p0e31, p0e32, p0e33, p0e34, p0e35, p0e36, d_c, d_v, d_ap, d_sli, d_slnil, d_bv, d_bc, d_mul, d_add, d_sub, d_wrap, d_tdiv, d_mx, hE, fnsf0, fnsf1, fnsf2, fnsf3, fnsf4, fnsf5] at hf r2
             omega)
          | (have r1 := pRate_ok (cw := E.i 14) (sst := E.i 15) k3
             simp only [p0e0, p0e1, p0e2, p0e3, p0e4, p0e5, p0e6, p0e7, p0e8, p0e9, p0e10, p0e11, p0e12, p0e13, p0e14, p0e15, p0e16, p0e17, p0e18, p0e19, p0e20, p0e21, p0e22, p0e23, p0e24, p0e25, p0e26, p0e27, p0e28, p0e29, p0e30, p0e31, p0e32, p0e33, p0e34, p0e35, p0e36, d_c, d_v, d_ap, d_sli, d_slnil, d_bv, d_bc, d_mul, d_add, d_sub, d_wrap, d_tdiv, d_mx, hE, fnsf0, fnsf1, fnsf2, fnsf3, fnsf4, fnsf5] at hf
             omega)
          | (have r1 := pRate_ok (cw := E.i 1 * 2) (sst := E.i 14 / 2) (by omega)
             simp only [p0e0, p0e1, p0e2, p0e3, p0e4, p0e5, p0e6, p0e7, p0e8, p0e9, p0e10, p0e11, p0e12, p0e13, p0e14, p0e15, p0e16, p0e17, p0e18, p0e19, p0e20, p0e21, p0e22, p0e23, p0e24, p0e25, p0e26, p0e27, p0e28, p0e29, p0e30, p0e31, p0e32, p0e33, p0e34, p0e35, p0e36, d_c, d_v, d_ap, d_sli, d_slnil, d_bv, d_bc, d_mul, d_add, d_sub, d_wrap, d_tdiv, d_mx, hE, fnsf0, fnsf1, fnsf2, fnsf3, fnsf4, fnsf5, hhalf] at hf
             omega)
      · -- p0x8
        intro hf
        skip
        simp only [facts_cons, facts_nil, lt_t, lt_f, le_t, le_f, eq_t, eq_f, and_true, d_c, d_v, d_bv] at hf
        have hs := hstep (by omega)
        obtain ⟨hs1, hs2⟩ := hs
        change (_ ∧ _) ∨ (_ ∧ E.i 14 ≤ 190000 ∧ E.i 13 = -1 ∧ E.i 15 = 4611686018427387903) ∨ (_ ∧ _) at hs2
        first
          | omega
          | (have r1 := pRate_ok (cw := E.i 14) (sst := E.i 15) k3
             have r2 := pRate_ok (cw := ackCw (E.i 14) (p0e5.den E) (E.i 1)) (sst := E.i 15) (ackCw_ok (by omega) (by omega))
             simp only [p0e0, p0e1, p0e2, p0e3, p0e4, p0e5, p0e6, p0e7, p0e8, p0e9, p0e10, p0e11, p0e12, p0e13, p0e14, p0e15, p0e16, p0e17, p0e18, p0e19, p0e20, p0e21, p0e22, p0e23, p0e24, p0e25, p0e26, p0e27, p0e28, p0e29, p0e30, p0e31, p0e32, p0e33, p0e34, p0e35, p0e36, d_c, d_v, d_ap, d_sli, d_slnil, d_bv, d_bc, d_mul, d_add, d_sub, d_wrap, d_tdiv, d_mx, hE, fnsf0, fnsf1, fnsf2, fnsf3, fnsf4, fnsf5] at hf r2
             omega)
          | (have r1 := pRate_ok (cw := E.i 14) (sst := E.i 15) k3
             simp only [p0e0, p0e1, p0e2, p0e3, p0e4, p0e5, p0e6, p0e7, p0e8, p0e9, p0e10, p0e11, p0e12, p0e13, p0e14, p0e15, p0e16, p0e17, p0e18, p0e19, p0e20, p0e21, p0e22, p0e23, p0e24, p0e25, p0e26, p0e27, p0e28, p0e29, p0e30, p0e31, p0e32, p0e33, p0e34, p0e35, p0e36, d_c, d_v, d_ap, d_sli, d_slnil, d_bv, d_bc, d_mul, d_add, d_sub, d_wrap, d_tdiv, d_mx, hE, fnsf0, fnsf1, fnsf2, fnsf3, fnsf4, fnsf5] at hf
             omega)
          | (have r1 := pRate_ok (cw := E.i 1 * 2) (sst := E.i 14 / 2) (by omega)
             simp only [p0e0, p0e1, p0e2, p0e3, p0e4, p0e5, p0e6, p0e7, p0e8, p0e9, p0e10, p0e11, p0e12, p0e13, p0e14, p0e15, p0e16, p0e17, p0e18, p0e19, p0e20, p0e21, p0e22, p0e23, p0e24, p0e25, p0e26, p0e27, p0e28, p0e29, p0e30, p0e31, p0e32, p0e33, p0e34, p0e35, p0e36, d_c, d_v, d_ap, d_sli, d_slnil, d_bv, d_bc, d_mul, d_add, d_sub, d_wrap, d_tdiv, d_mx, hE, fnsf0, fnsf1, fnsf2, fnsf3, fnsf4, fnsf5, hhalf] at hf
             omega)
      · -- p0x9
        intro hf
        refine ⟨⟨_, rfl, .inr ⟨rfl, rfl⟩⟩, fun o => ?_⟩
        have hK : p0e1.den E = 1 := by
          have := hf ((.eq p0e1 (.c 1)), true) (by simp)
          simpa only [eq_t, d_c] using this
        have hlt : E.i 3 < E.i 2 := by
          have := hf ((.lt (.v 3) (.v 2)), true) (by simp)
          simpa only [lt_t, d_v] using this
        have hcw : p0e19.den E = ackCw (E.i 14) (p0e5.den E) (E.i 1) := by simp only [p0e0, p0e1, p0e2, p0e3, p0e4, p0e5, p0e6, p0e7, p0e8, p0e9, p0e10, p0e11, p0e12, p0e13, p0e14, p0e15, p0e16, p0e17, p0e18, p0e19, p0e20, p0e21, p0e22, p0e23, p0e24, p0e25, p0e26, p0e27, p0e28, p0e29, p0e30, p0e31, p0e32, p0e33, p0e34, p0e35, p0e36, d_c, d_v, d_ap, d_sli, d_slnil, d_bv, d_bc, d_mul, d_add, d_sub, d_wrap, d_tdiv, d_mx, hE, fnsf0, fnsf1, fnsf2, fnsf3, fnsf4, fnsf5]
        have hcell0 : (SE.den E (p0e19)) = ackCw (E.i 14) (p0e5.den E) (E.i 1) := by simp only [p0e0, p0e1, p0e2, p0e3, p0e4, p0e5, p0e6, p0e7, p0e8, p0e9, p0e10, p0e11, p0e12, p0e13, p0e14, p0e15, p0e16, p0e17, p0e18, p0e19, p0e20, p0e21, p0e22, p0e23, p0e24, p0e25, p0e26, p0e27, p0e28, p0e29, p0e30, p0e31, p0e32, p0e33, p0e34, p0e35, p0e36, d_c, d_v, d_ap, d_sli, d_slnil, d_bv, d_bc, d_mul, d_add, d_sub, d_wrap, d_tdiv, d_mx, hE, fnsf0, fnsf1, fnsf2, fnsf3, fnsf4, fnsf5]
        have hcell1 : (SE.den E (.v 15)) = E.i 15 := by simp only [p0e0, p0e1, p0e2, p0e3, p0e4, p0e5, p0e6, p0e7, p0e8, p0e9, p0e10, p0e11, p0e12, p0e13, p0e14, p0e15, p0e16, p0e17, p0e18, p0e19, p0e20, p0e21, p0e22, p0e23, p0e24, p0e25, p0e26, p0e27, p0e28, p0e29, p0e30, p0e31, p0e32, p0e33, p0e34, p0e35, p0e36, d_c, d_v, d_ap, d_sli, d_slnil, d_bv, d_bc, d_mul, d_add, d_sub, d_wrap, d_tdiv, d_mx, hE, fnsf0, fnsf1, fnsf2, fnsf3, fnsf4, fnsf5]
        have hcell4 : p0e22.den E = pBudget (p0e3.den E) (pRate (ackCw (E.i 14) (p0e5.den E) (E.i 1)) (E.i 15)) (E.i 5) (E.i 6) := by simp only [p0e0, p0e1, p0e2, p0e3, p0e4, p0e5, p0e6, p0e7, p0e8, p0e9, p0e10, p0e11, p0e12, p0e13, p0e14, p0e15, p0e16, p0e17, p0e18, p0e19, p0e20, p0e21, p0e22, p0e23, p0e24, p0e25, p0e26, p0e27, p0e28, p0e29, p0e30, p0e31, p0e32, p0e33, p0e34, p0e35, p0e36, d_c, d_v, d_ap, d_sli, d_slnil, d_bv, d_bc, d_mul, d_add, d_sub, d_wrap, d_tdiv, d_mx, hE, fnsf0, fnsf1, fnsf2, fnsf3, fnsf4, fnsf5]
        have hcell5 : p0e23.den E = pUntil (pRate (ackCw (E.i 14) (p0e5.den E) (E.i 1)) (E.i 15)) (E.i 5) (E.i 6) := by simp only [p0e0, p0e1, p0e2, p0e3, p0e4, p0e5, p0e6, p0e7, p0e8, p0e9, p0e10, p0e11, p0e12, p0e13, p0e14, p0e15, p0e16, p0e17, p0e18, p0e19, p0e20, p0e21, p0e22, p0e23, p0e24, p0e25, p0e26, p0e27, p0e28, p0e29, p0e30, p0e31, p0e32, p0e33, p0e34, p0e35, p0e36, d_c, d_v, d_ap, d_sli, d_slnil, d_bv, d_bc, d_mul, d_add, d_sub, d_wrap, d_tdiv, d_mx, hE, fnsf0, fnsf1, fnsf2, fnsf3, fnsf4, fnsf5]
        refine ⟨⟨i + 1, fin7 hI (by omega) (hk0.trans hK) hk1 hk2 hk3 hk4 rfl rfl rfl rfl (CS.ext rfl rfl rfl hcw rfl rfl rfl) (e := p0e0) (l := (.i p0e19 (.b (.lt p0e19 (.v 15)) (.b (.le p0e20 (.v 13)) (.b (.lt p0e5 p0e19) (.b (.le (.v 1) p0e22) (.i p0e23 .nil))))))) he0 rfl ?_⟩, fun b hb => ?_⟩
        · intro c hc
          match c, hc with
          | 0, _ => exact hcell0
          | 1, _ =>
            show b2i (decide (SE.den E (p0e19) < SE.den E (.v 15))) = b2i (decide (ackCw (E.i 14) (p0e5.den E) (E.i 1) < E.i 15))
            rw [hcell0, hcell1]
          | 2, _ =>
            exact recT (by show imx (p0e9.den E) (E.i 12) ≠ -1; have := (hstep hlt).1.1; have := imx_or (p0e9.den E) (E.i 12); omega)
          | 3, _ =>
            show b2i (decide (p0e5.den E < SE.den E (p0e19))) = b2i (decide (p0e5.den E < ackCw (E.i 14) (p0e5.den E) (E.i 1)))
            rw [hcell0]
          | 4, _ =>
            show b2i (decide (E.i 1 ≤ p0e22.den E)) = b2i (decide (E.i 1 ≤ pBudget (p0e3.den E) (pRate (ackCw (E.i 14) (p0e5.den E) (E.i 1)) (E.i 15)) (E.i 5) (E.i 6)))
            rw [hcell4]
          | 5, _ => exact hcell5
        · obtain rfl := Option.some.inj hb
          show (E0.i 2 - (E.i 3 + 1)).toNat < _
          omega
      · -- p0x10
        intro hf
        skip
        simp only [facts_cons, facts_nil, lt_t, lt_f, le_t, le_f, eq_t, eq_f, and_true, d_c, d_v, d_bv] at hf
        have hs := hstep (by omega)
        obtain ⟨hs1, hs2⟩ := hs
        change (_ ∧ _) ∨ (_ ∧ E.i 14 ≤ 190000 ∧ E.i 13 = -1 ∧ E.i 15 = 4611686018427387903) ∨ (_ ∧ _) at hs2
        first
          | omega
          | (have r1 := pRate_ok (cw := E.i 14) (sst := E.i 15) k3
             have r2 := pRate_ok (cw := ackCw (E.i 14) (p0e5.den E) (E.i 1)) (sst := E.i 15) (ackCw_ok (by omega) (by omega))
             simp only [p0e0, p0e1, p0e2, p0e3, p0e4, p0e5, p0e6, p0e7, p0e8, p0e9, p0e10, p0e11, p0e12, p0e13, p0e14, p0e15, p0e16, p0e17, p0e18, p0e19, p0e20, p0e21, p0e22, p0e23, p0e24, p0e25, p0e26, p0e27, p0e28, p0e29, p0e30, p0e31, p0e32, p0e33, p0e34, p0e35, p0e36, d_c, d_v, d_ap, d_sli, d_slnil, d_bv, d_bc, d_mul, d_add, d_sub, d_wrap, d_tdiv, d_mx, hE, fnsf0, fnsf1, fnsf2, fnsf3, fnsf4, fnsf5] at hf r2
             omega)
          | (have r1 := pRate_ok (cw := E.i 14) (sst := E.i 15) k3
             simp only [p0e0, p0e1, p0e2, p0e3, p0e4, p0e5, p0e6, p0e7, p0e8, p0e9, p0e10, p0e11, p0e12, p0e13, p0e14, p0e15, p0e16, p0e17, p0e18, p0e19, p0e20, p0e21, p0e22, p0e23, p0e24, p0e25, p0e26, p0e27, p0e28, p0e29, p0e30, p0e31, p0e32, p0e33, p0e34, p0e35, p0e36, d_c, d_v, d_ap, d_sli, d_slnil, d_bv, d_bc, d_mul, d_add, d_sub, d_wrap, d_tdiv, d_mx, hE, fnsf0, fnsf1, fnsf2, fnsf3, fnsf4, fnsf5] at hf
             omega)
          | (have r1 := pRate_ok (cw := E.i 1 * 2) (sst := E.i 14 / 2) (by omega)
             simp only [p0e0, p0e1, p0e2, p0e3, p0e4, p0e5, p0e6, p0e7, p0e8, p0e9, p0e10, p0e11, p0e12, p0e13, p0e14, p0e15, p0e16, p0e17, p0e18, p0e19, p0e20, p0e21, p0e22, p0e23, p0e24, p0e25, p0e26, p0e27, p0e28, p0e29, p0e30, p0e31, p0e32, p0e33, p0e34, p0e35, p0e36, d_c, d_v, d_ap, d_sli, d_slnil, d_bv, d_bc, d_mul, d_add, d_sub, d_wrap, d_tdiv, d_mx, hE, fnsf0, fnsf1, fnsf2, fnsf3, fnsf4, fnsf5, hhalf] at hf
             omega)
      · -- p0x11
        intro hf
        skip
        simp only [facts_cons, facts_nil, lt_t, lt_f, le_t, le_f, eq_t, eq_f, and_true, d_c, d_v, d_bv] at hf
        have hs := hstep (by omega)
        obtain ⟨hs1, hs2⟩ := hs
        change (_ ∧ _) ∨ (_ ∧ E.i 14 ≤ 190000 ∧ E.i 13 = -1 ∧ E.i 15 = 4611686018427387903) ∨ (_ ∧ _) at hs2
        first
          | omega
          | (have r1 := pRate_ok (cw := E.i 14) (sst := E.i 15) k3
             have r2 := pRate_ok (cw := ackCw (E.i 14) (p0e5.den E) (E.i 1)) (sst := E.i 15) (ackCw_ok (by omega) (by omega))
             simp only [p0e0, p0e1, p0e2, p0e3, p0e4, p0e5, p0e6, p0e7, p0e8, p0e9, p0e10, p0e11, p0e12, p0e13, p0e14, p0e15, p0e16, p0e17, p0e18, p0e19, p0e20, p0e21, p0e22, p0e23, p0e24, p0e25, p0e26, p0e27, p0e28, p0e29, p0e30, p0e31, p0e32, p0e33, p0e34, p0e35, p0e36, d_c, d_v, d_ap, d_sli, d_slnil, d_bv, d_bc, d_mul, d_add, d_sub, d_wrap, d_tdiv, d_mx, hE, fnsf0, fnsf1, fnsf2, fnsf3, fnsf4, fnsf5] at hf r2
             omega)
          | (have r1 := pRate_ok (cw := E.i 14) (sst := E.i 15) k3
             simp only [p0e0, p0e1, p0e2, p0e3, p0e4, p0e5, p0e6, p0e7, p0e8, p0e9, p0e10, p0e11, p0e12, p0e13, p0e14, p0e15, p0e16, p0e17, p0e18, p0e19, p0e20, p0e21, p0e22, p0e23, p0e24, p0e25, p0e26, p0e27, p0e28, p0e29, p0e30, p0e31, p0e32, p0e33, p0e34, p0e35, p0e36, d_c, d_v, d_ap, d_sli, d_slnil, d_bv, d_bc, d_mul, d_add, d_sub, d_wrap, d_tdiv, d_mx, hE, fnsf0, fnsf1, fnsf2, fnsf3, fnsf4, fnsf5] at hf
             omega)
          | (have r1 := pRate_ok (cw := E.i 1 * 2) (sst := E.i 14 / 2) (by omega)
             simp only [p0e0, p0e1, p0e2, p0e3, p0e4, p0e5, p0e6, p0e7, p0e8, p0e9, p0e10, p0e11, p0e12, p0e13, p0e14, p0e15, p0e16, p0e17, p0e18, p0e19, p0e20, p0e21, p0e22, p0e23, p0e24, p0e25, p0e26, p0e27, p0e28, p0e29, p0e30, p0e31, p0e32, p0e33, p0e34, p0e35, p0e36, d_c, d_v, d_ap, d_sli, d_slnil, d_bv, d_bc, d_mul, d_add, d_sub, d_wrap, d_tdiv, d_mx, hE, fnsf0, fnsf1, fnsf2, fnsf3, fnsf4, fnsf5, hhalf] at hf
             omega)
      · -- p0x12
        intro hf
        skip
        simp only [facts_cons, facts_nil, lt_t, lt_f, le_t, le_f, eq_t, eq_f, and_true, d_c, d_v, d_bv] at hf
        have hs := hstep (by omega)
        obtain ⟨hs1, hs2⟩ := hs
        change (_ ∧ _) ∨ (_ ∧ E.i 14 ≤ 190000 ∧ E.i 13 = -1 ∧ E.i 15 = 4611686018427387903) ∨ (_ ∧ _) at hs2
        first
          | omega
          | (have r1 := pRate_ok (cw := E.i 14) (sst := E.i 15) k3
             have r2 := pRate_ok (cw := ackCw (E.i 14) (p0e5.den E) (E.i 1)) (sst := E.i 15) (ackCw_ok (by omega) (by omega))
             simp only [p0e0, p0e1, p0e2, p0e3, p0e4, p0e5, p0e6, p0e7, p0e8, p0e9, p0e10, p0e11, p0e12, p0e13, p0e14, p0e15, p0e16, p0e17, p0e18, p0e19, p0e20, p0e21, p0e22, p0e23, p0e24, p0e25, p0e26, p0e27, p0e28, p0e29, p0e30, p0e31, p0e32, p0e33, p0e34, p0e35, p0e36, d_c, d_v, d_ap, d_sli, d_slnil, d_bv, d_bc, d_mul, d_add, d_sub, d_wrap, d_tdiv, d_mx, hE, fnsf0, fnsf1, fnsf2, fnsf3, fnsf4, fnsf5] at hf r2
             omega)
          | (have r1 := pRate_ok (cw := E.i 14) (sst := E.i 15) k3
             simp only [p0e0, p0e1, p0e2, p0e3, p0e4, p0e5, p0e6, p0e7, p0e8, p0e9, p0e10, p0e11, p0e12, p0e13, p0e14, p0e15, p0e16, p0e17, p0e18, p0e19, p0e20, p0e21, p0e22, p0e23, p0e24, p0e25, p0e26, p0e27, p0e28, p0e29, p0e30, p0e31, p0e32, p0e33, p0e34, p0e35, p0e36, d_c, d_v, d_ap, d_sli, d_slnil, d_bv, d_bc, d_mul, d_add, d_sub, d_wrap, d_tdiv, d_mx, hE, fnsf0, fnsf1, fnsf2, fnsf3, fnsf4, fnsf5] at hf
             omega)
          | (have r1 := pRate_ok (cw := E.i 1 * 2) (sst := E.i 14 / 2) (by omega)
             simp only [p0e0, p0e1, p0e2, p0e3, p0e4, p0e5, p0e6, p0e7, p0e8, p0e9, p0e10, p0e11, p0e12, p0e13, p0e14, p0e15, p0e16, p0e17, p0e18, p0e19, p0e20, p0e21, p0e22, p0e23, p0e24, p0e25, p0e26, p0e27, p0e28, p0e29, p0e30, p0e31, p0e32, p0e33, p0e34, p0e35, p0e36, d_c, d_v, d_ap, d_sli, d_slnil, d_bv, d_bc, d_mul, d_add, d_sub, d_wrap, d_tdiv, d_mx, hE, fnsf0, fnsf1, fnsf2, fnsf3, fnsf4, fnsf5, hhalf] at hf
             omega)
      · -- p0x13
        intro hf
        skip
        simp only [facts_cons, facts_nil, lt_t, lt_f, le_t, le_f, eq_t, eq_f, and_true, d_c, d_v, d_bv] at hf
        have hs := hstep (by omega)
        obtain ⟨hs1, hs2⟩ := hs
        change (_ ∧ _) ∨ (_ ∧ E.i 14 ≤ 190000 ∧ E.i 13 = -1 ∧ E.i 15 = 4611686018427387903) ∨ (_ ∧ _) at hs2
        first
          | omega
          | (have r1 := pRate_ok (cw := E.i 14) (sst := E.i 15) k3
             have r2 := pRate_ok (cw := ackCw (E.i 14) (p0e5.den E) (E.i 1)) (sst := E.i 15) (ackCw_ok (by omega) (by omega))
             simp only [p0e0, p0e1, p0e2, p0e3, p0e4, p0e5, p0e6, p0e7, p0e8, p0e9, p0e10, p0e11, p0e12, p0e13, p0e14, p0e15, p0e16, p0e17, p0e18, p0e19, p0e20, p0e21, p0e22, p0e23, p0e24, p0e25, p0e26, p0e27, p0e28, p0e29, p0e30, p0e31, p0e32, p0e33, p0e34, p0e35, p0e36, d_c, d_v, d_ap, d_sli, d_slnil, d_bv, d_bc, d_mul, d_add, d_sub, d_wrap, d_tdiv, d_mx, hE, fnsf0, fnsf1, fnsf2, fnsf3, fnsf4, fnsf5] at hf r2
             omega)
          | (have r1 := pRate_ok (cw := E.i 14) (sst := E.i 15) k3
             simp only [p0e0, p0e1, p0e2, p0e3, p0e4, p0e5, p0e6, p0e7, p0e8, p0e9, p0e10, p0e11, p0e12, p0e13, p0e14, p0e15, p0e16, p0e17, p0e18, p0e19, p0e20, p0e21, p0e22, p0e23, p0e24, p0e25, p0e26, p0e27, p0e28, p0e29, p0e30, p0e31, p0e32, p0e33, p0e34, p0e35, p0e36, d_c, d_v, d_ap, d_sli, d_slnil, d_bv, d_bc, d_mul, d_add, d_sub, d_wrap, d_tdiv, d_mx, hE, fnsf0, fnsf1, fnsf2, fnsf3, fnsf4, fnsf5] at hf
             omega)
          | (have r1 := pRate_ok (cw := E.i 1 * 2) (sst := E.i 14 / 2) (by omega)
             simp only [p0e0, p0e1, p0e2, p0e3, p0e4, p0e5, p0e6, p0e7, p0e8, p0e9, p0e10, p0e11, p0e12, p0e13, p0e14, p0e15, p0e16, p0e17, p0e18, p0e19, p0e20, p0e21, p0e22, p0e23, p0e24, p0e25, p0e26, p0e27, p0e28, p0e29, p0e30, p0e31, p0e32, p0e33, p0e34, p0e35, p0e36, d_c, d_v, d_ap, d_sli, d_slnil, d_bv, d_bc, d_mul, d_add, d_sub, d_wrap, d_tdiv, d_mx, hE, fnsf0, fnsf1, fnsf2, fnsf3, fnsf4, fnsf5, hhalf] at hf
             omega)
      · -- p0x14
        intro hf
        skip
        simp only [facts_cons, facts_nil, lt_t, lt_f, le_t, le_f, eq_t, eq_f, and_true, d_c, d_v, d_bv] at hf
        have hs := hstep (by omega)
        obtain ⟨hs1, hs2⟩ := hs
        change (_ ∧ _) ∨ (_ ∧ E.i 14 ≤ 190000 ∧ E.i 13 = -1 ∧ E.i 15 = 4611686018427387903) ∨ (_ ∧ _) at hs2
        first
          | omega
          | (have r1 := pRate_ok (cw := E.i 14) (sst := E.i 15) k3
             have r2 := pRate_ok (cw := ackCw (E.i 14) (p0e5.den E) (E.i 1)) (sst := E.i 15) (ackCw_ok (by omega) (by omega))
             simp only [p0e0, p0e1, p0e2, p0e3, p0e4, p0e5, p0e6, p0e7, p0e8, p0e9, p0e10, p0e11, p0e12, p0e13, p0e14, p0e15, p0e16, p0e17, p0e18, p0e19, p0e20, p0e21, p0e22, p0e23, p0e24, p0e25, p0e26, p0e27, p0e28, p0e29, p0e30, p0e31, p0e32, p0e33, p0e34, p0e35, p0e36, d_c, d_v, d_ap, d_sli, d_slnil, d_bv, d_bc, d_mul, d_add, d_sub, d_wrap, d_tdiv, d_mx, hE, fnsf0, fnsf1, fnsf2, fnsf3, fnsf4, fnsf5] at hf r2
             omega)
          | (have r1 := pRate_ok (cw := E.i 14) (sst := E.i 15) k3
             simp only [p0e0, p0e1, p0e2, p0e3, p0e4, p0e5, p0e6, p0e7, p0e8, p0e9, p0e10, p0e11, p0e12, p0e13, p0e14, p0e15, p0e16, p0e17, p0e18, p0e19, p0e20, p0e21, p0e22, p0e23, p0e24, p0e25, p0e26, p0e27, p0e28, p0e29, p0e30, p0e31, p0e32, p0e33, p0e34, p0e35, p0e36, d_c, d_v, d_ap, d_sli, d_slnil, d_bv, d_bc, d_mul, d_add, d_sub, d_wrap, d_tdiv, d_mx, hE, fnsf0, fnsf1, fnsf2, fnsf3, fnsf4, fnsf5] at hf
             omega)
          | (have r1 := pRate_ok (cw := E.i 1 * 2) (sst := E.i 14 / 2) (by omega)
             simp only [p0e0, p0e1, p0e2, p0e3, p0e4, p0e5, p0e6, p0e7, p0e8, p0e9, p0e10, p0e11, p0e12, p0e13, p0e14, p0e15, p0e16, p0e17, p0e18, p0e19, p0e20, p0e21, p0e22, p0e23, p0e24, p0e25, p0e26, p0e27, p0e28, p0e29, p0e30, p0e31, p0e32, p0e33, p0e34, p0e35, p0e36, d_c, d_v, d_ap, d_sli, d_slnil, d_bv, d_bc, d_mul, d_add, d_sub, d_wrap, d_tdiv, d_mx, hE, fnsf0, fnsf1, fnsf2, fnsf3, fnsf4, fnsf5, hhalf] at hf
             omega)
      · -- p0x15
        intro hf
        skip
        simp only [facts_cons, facts_nil, lt_t, lt_f, le_t, le_f, eq_t, eq_f, and_true, d_c, d_v, d_bv] at hf
        have hs := hstep (by omega)
        obtain ⟨hs1, hs2⟩ := hs
        change (_ ∧ _) ∨ (_ ∧ E.i 14 ≤ 190000 ∧ E.i 13 = -1 ∧ E.i 15 = 4611686018427387903) ∨ (_ ∧ _) at hs2
        first
          | omega
          | (have r1 := pRate_ok (cw := E.i 14) (sst := E.i 15) k3
             have r2 := pRate_ok (cw := ackCw (E.i 14) (p0e5.den E) (E.i 1)) (sst := E.i 15) (ackCw_ok (by omega) (by omega))
             simp only [p0e0, p0e1, p0e2, p0e3, p0e4, p0e5, p0e6, p0e7, p0e8, p0e9, p0e10, p0e11, p0e12, p0e13, p0e14, p0e15, p0e16, p0e17, p0e18, p0e19, p0e20, p0e21, p0e22, p0e23, p0e24, p0e25, p0e26, p0e27, p0e28, p0e29, p0e30, p0e31, p0e32, p0e33, p0e34, p0e35, p0e36, d_c, d_v, d_ap, d_sli, d_slnil, d_bv, d_bc, d_mul, d_add, d_sub, d_wrap, d_tdiv, d_mx, hE, fnsf0, fnsf1, fnsf2, fnsf3, fnsf4, fnsf5] at hf r2
             omega)
          | (have r1 := pRate_ok (cw := E.i 14) (sst := E.i 15) k3
             simp only [p0e0, p0e1, p0e2, p0e3, p0e4, p0e5, p0e6, p0e7, p0e8, p0e9, p0e10, p0e11, p0e12, p0e13, p0e14, p0e15, p0e16, p0e17, p0e18, p0e19, p0e20, p0e21, p0e22, p0e23, p0e24, p0e25, p0e26, p0e27, p0e28, p0e29, p0e30, p0e31, p0e32, p0e33, p0e34, p0e35, p0e36, d_c, d_v, d_ap, d_sli, d_slnil, d_bv, d_bc, d_mul, d_add, d_sub, d_wrap, d_tdiv, d_mx, hE, fnsf0, fnsf1, fnsf2, fnsf3, fnsf4, fnsf5] at hf
             omega)
          | (have r1 := pRate_ok (cw := E.i 1 * 2) (sst := E.i 14 / 2) (by omega)
             simp only [p0e0, p0e1, p0e2, p0e3, p0e4, p0e5, p0e6, p0e7, p0e8, p0e9, p0e10, p0e11, p0e12, p0e13, p0e14, p0e15, p0e16, p0e17, p0e18, p0e19, p0e20, p0e21, p0e22, p0e23, p0e24, p0e25, p0e26, p0e27, p0e28, p0e29, p0e30, p0e31, p0e32, p0e33, p0e34, p0e35, p0e36, d_c, d_v, d_ap, d_sli, d_slnil, d_bv, d_bc, d_mul, d_add, d_sub, d_wrap, d_tdiv, d_mx, hE, fnsf0, fnsf1, fnsf2, fnsf3, fnsf4, fnsf5, hhalf] at hf
             omega)
      · -- p0x16
        intro hf
        refine ⟨⟨_, rfl, .inr ⟨rfl, rfl⟩⟩, fun o => ?_⟩
        have hK : p0e1.den E = 6 := by
          have := hf ((.eq p0e1 (.c 6)), true) (by simp)
          simpa only [eq_t, d_c] using this
        have hlt : E.i 3 < E.i 2 := by
          have := hf ((.lt (.v 3) (.v 2)), true) (by simp)
          simpa only [lt_t, d_v] using this
        have hsst : p0e26.den E = E.i 14 / 2 := by simp only [p0e26, d_c, d_v, d_ap, d_sli, d_slnil, d_bv, d_bc, d_mul, d_add, d_sub, d_wrap, d_tdiv, d_mx, hE, fnsf0, fnsf1, fnsf2, fnsf3, fnsf4, fnsf5, hhalf]
        have hcell0 : (SE.den E (p0e25)) = E.i 1 * 2 := by simp only [p0e0, p0e1, p0e2, p0e3, p0e4, p0e5, p0e6, p0e7, p0e8, p0e9, p0e10, p0e11, p0e12, p0e13, p0e14, p0e15, p0e16, p0e17, p0e18, p0e19, p0e20, p0e21, p0e22, p0e23, p0e24, p0e25, p0e26, p0e27, p0e28, p0e29, p0e30, p0e31, p0e32, p0e33, p0e34, p0e35, p0e36, d_c, d_v, d_ap, d_sli, d_slnil, d_bv, d_bc, d_mul, d_add, d_sub, d_wrap, d_tdiv, d_mx, hE, fnsf0, fnsf1, fnsf2, fnsf3, fnsf4, fnsf5]
        have hcell1 : (SE.den E (p0e26)) = E.i 14 / 2 := by simp only [p0e0, p0e1, p0e2, p0e3, p0e4, p0e5, p0e6, p0e7, p0e8, p0e9, p0e10, p0e11, p0e12, p0e13, p0e14, p0e15, p0e16, p0e17, p0e18, p0e19, p0e20, p0e21, p0e22, p0e23, p0e24, p0e25, p0e26, p0e27, p0e28, p0e29, p0e30, p0e31, p0e32, p0e33, p0e34, p0e35, p0e36, d_c, d_v, d_ap, d_sli, d_slnil, d_bv, d_bc, d_mul, d_add, d_sub, d_wrap, d_tdiv, d_mx, hE, fnsf0, fnsf1, fnsf2, fnsf3, fnsf4, fnsf5, hhalf]
        have hcell4 : p0e28.den E = pBudget (p0e3.den E) (pRate (E.i 1 * 2) (E.i 14 / 2)) (E.i 5) (E.i 6) := by simp only [p0e0, p0e1, p0e2, p0e3, p0e4, p0e5, p0e6, p0e7, p0e8, p0e9, p0e10, p0e11, p0e12, p0e13, p0e14, p0e15, p0e16, p0e17, p0e18, p0e19, p0e20, p0e21, p0e22, p0e23, p0e24, p0e25, p0e26, p0e27, p0e28, p0e29, p0e30, p0e31, p0e32, p0e33, p0e34, p0e35, p0e36, d_c, d_v, d_ap, d_sli, d_slnil, d_bv, d_bc, d_mul, d_add, d_sub, d_wrap, d_tdiv, d_mx, hE, fnsf0, fnsf1, fnsf2, fnsf3, fnsf4, fnsf5, hhalf]
        have hcell5 : p0e29.den E = pUntil (pRate (E.i 1 * 2) (E.i 14 / 2)) (E.i 5) (E.i 6) := by simp only [p0e0, p0e1, p0e2, p0e3, p0e4, p0e5, p0e6, p0e7, p0e8, p0e9, p0e10, p0e11, p0e12, p0e13, p0e14, p0e15, p0e16, p0e17, p0e18, p0e19, p0e20, p0e21, p0e22, p0e23, p0e24, p0e25, p0e26, p0e27, p0e28, p0e29, p0e30, p0e31, p0e32, p0e33, p0e34, p0e35, p0e36, d_c, d_v, d_ap, d_sli, d_slnil, d_bv, d_bc, d_mul, d_add, d_sub, d_wrap, d_tdiv, d_mx, hE, fnsf0, fnsf1, fnsf2, fnsf3, fnsf4, fnsf5, hhalf]
        refine ⟨⟨i + 1, fin7 hI (by omega) (hk0.trans hK) hk1 hk2 hk3 hk4 rfl rfl rfl rfl (CS.ext rfl rfl rfl rfl hsst rfl rfl) (e := p0e0) (l := (.i p0e25 (.b (.lt p0e25 p0e26) (.b (.c false) (.b (.lt p0e5 p0e25) (.b (.le (.v 1) p0e28) (.i p0e29 .nil))))))) he0 rfl ?_⟩, fun b hb => ?_⟩
        · intro c hc
          match c, hc with
          | 0, _ => exact hcell0
          | 1, _ =>
            show b2i (decide (SE.den E (p0e25) < SE.den E (p0e26))) = b2i (decide (E.i 1 * 2 < E.i 14 / 2))
            rw [hcell0, hcell1]
          | 2, _ =>
            exact recF (by show E.i 12 = -1; have := hf ((.eq (.v 12) (.c (-1))), true) (by simp); simpa only [eq_t, d_v, d_c] using this)
          | 3, _ =>
            show b2i (decide (p0e5.den E < SE.den E (p0e25))) = b2i (decide (p0e5.den E < E.i 1 * 2))
            rw [hcell0]
          | 4, _ =>
            show b2i (decide (E.i 1 ≤ p0e28.den E)) = b2i (decide (E.i 1 ≤ pBudget (p0e3.den E) (pRate (E.i 1 * 2) (E.i 14 / 2)) (E.i 5) (E.i 6)))
            rw [hcell4]
          | 5, _ => exact hcell5
        · obtain rfl := Option.some.inj hb
          show (E0.i 2 - (E.i 3 + 1)).toNat < _
          omega
      · -- p0x17
        intro hf
        skip
        simp only [facts_cons, facts_nil, lt_t, lt_f, le_t, le_f, eq_t, eq_f, and_true, d_c, d_v, d_bv] at hf
        have hs := hstep (by omega)
        obtain ⟨hs1, hs2⟩ := hs
        change (_ ∧ _) ∨ (_ ∧ E.i 14 ≤ 190000 ∧ E.i 13 = -1 ∧ E.i 15 = 4611686018427387903) ∨ (_ ∧ _) at hs2
        first
          | omega
          | (have r1 := pRate_ok (cw := E.i 14) (sst := E.i 15) k3
             have r2 := pRate_ok (cw := ackCw (E.i 14) (p0e5.den E) (E.i 1)) (sst := E.i 15) (ackCw_ok (by omega) (by omega))
             simp only [p0e0, p0e1, p0e2, p0e3, p0e4, p0e5, p0e6, p0e7, p0e8, p0e9, p0e10, p0e11, p0e12, p0e13, p0e14, p0e15, p0e16, p0e17, p0e18, p0e19, p0e20, p0e21, p0e22, p0e23, p0e24, p0e25, p0e26, p0e27, p0e28, p0e29, p0e30, p0e31, p0e32, p0e33, p0e34, p0e35, p0e36, d_c, d_v, d_ap, d_sli, d_slnil, d_bv, d_bc, d_mul, d_add, d_sub, d_wrap, d_tdiv, d_mx, hE, fnsf0, fnsf1, fnsf2, fnsf3, fnsf4, fnsf5] at hf r2
             omega)
          | (have r1 := pRate_ok (cw := E.i 14) (sst := E.i 15) k3
             simp only [p0e0, p0e1, p0e2, p0e3, p0e4, p0e5, p0e6, p0e7, p0e8, p0e9, p0e10, p0e11, p0e12, p0e13, p0e14, p0e15, p0e16, p0e17, p0e18, p0e19, p0e20, p0e21, p0e22, p0e23, p0e24, p0e25, p0e26, p0e27, p0e28, p0e29, p0e30, p0e31, p0e32, p0e33, p0e34, p0e35, p0e36, d_c, d_v, d_ap, d_sli, d_slnil, d_bv, d_bc, d_mul, d_add, d_sub, d_wrap, d_tdiv, d_mx, hE, fnsf0, fnsf1, fnsf2, fnsf3, fnsf4, fnsf5] at hf
             omega)
          | (have r1 := pRate_ok (cw := E.i 1 * 2) (sst := E.i 14 / 2) (by omega)
             simp only [p0e0, p0e1, p0e2, p0e3, p0e4, p0e5, p0e6, p0e7, p0e8, p0e9, p0e10, p0e11, p0e12, p0e13, p0e14, p0e15, p0e16, p0e17, p0e18, p0e19, p0e20, p0e21, p0e22, p0e23, p0e24, p0e25, p0e26, p0e27, p0e28, p0e29, p0e30, p0e31, p0e32, p0e33, p0e34, p0e35, p0e36, d_c, d_v, d_ap, d_sli, d_slnil, d_bv, d_bc, d_mul, d_add, d_sub, d_wrap, d_tdiv, d_mx, hE, fnsf0, fnsf1, fnsf2, fnsf3, fnsf4, fnsf5, hhalf] at hf
             omega)
      · -- p0x18
        intro hf
        skip
        simp only [facts_cons, facts_nil, lt_t, lt_f, le_t, le_f, eq_t, eq_f, and_true, d_c, d_v, d_bv] at hf
        have hs := hstep (by omega)
        obtain ⟨hs1, hs2⟩ := hs
        change (_ ∧ _) ∨ (_ ∧ E.i 14 ≤ 190000 ∧ E.i 13 = -1 ∧ E.i 15 = 4611686018427387903) ∨ (_ ∧ _) at hs2
        first
          | omega
          | (have r1 := pRate_ok (cw := E.i 14) (sst := E.i 15) k3
             have r2 := pRate_ok (cw := ackCw (E.i 14) (p0e5.den E) (E.i 1)) (sst := E.i 15) (ackCw_ok (by omega) (by omega))
             simp only [p0e0, p0e1, p0e2, p0e3, p0e4, p0e5, p0e6, p0e7, p0e8, p0e9, p0e10, p0e11, p0e12, p0e13, p0e14, p0e15, p0e16, p0e17, p0e18, p0e19, p0e20, p0e21, p0e22, p0e23, p0e24, p0e25, p0e26, p0e27, p0e28, p0e29, p0e30, p0e31, p0e32, p0e33, p0e34, p0e35, p0e36, d_c, d_v, d_ap, d_sli, d_slnil, d_bv, d_bc, d_mul, d_add, d_sub, d_wrap, d_tdiv, d_mx, hE, fnsf0, fnsf1, fnsf2, fnsf3, fnsf4, fnsf5] at hf r2
             omega)
          | (have r1 := pRate_ok (cw := E.i 14) (sst := E.i 15) k3
             simp only [p0e0, p0e1, p0e2, p0e3, p0e4, p0e5, p0e6, p0e7, p0e8, p0e9, p0e10, p0e11, p0e12, p0e13, p0e14, p0e15, p0e16, p0e17, p0e18, p0e19, p0e20, p0e21, p0e22, p0e23, p0e24, p0e25, p0e26, p0e27, p0e28, p0e29, p0e30, p0e31, p0e32, p0e33, p0e34, p0e35, p0e36, d_c, d_v, d_ap, d_sli, d_slnil, d_bv, d_bc, d_mul, d_add, d_sub, d_wrap, d_tdiv, d_mx, hE, fnsf0, fnsf1, fnsf2, fnsf3, fnsf4, fnsf5] at hf
             omega)
          | (have r1 := pRate_ok (cw := E.i 1 * 2) (sst := E.i 14 / 2) (by omega)
             simp only [p0e0, p0e1, p0e2, p0e3, p0e4, p0e5, p0e6, p0e7, p0e8, p0e9, p0e10, p0e11, p0e12, p0e13, p0e14, p0e15, p0e16, p0e17, p0e18, p0e19, p0e20, p0e21, p0e22, p0e23, p0e24, p0e25, p0e26, p0e27, p0e28, p0e29, p0e30, p0e31, p0e32, p0e33, p0e34, p0e35, p0e36, d_c, d_v, d_ap, d_sli, d_slnil, d_bv, d_bc, d_mul, d_add, d_sub, d_wrap, d_tdiv, d_mx, hE, fnsf0, fnsf1, fnsf2, fnsf3, fnsf4, fnsf5, hhalf] at hf
             omega)
      · -- p0x19
        intro hf
        refine ⟨⟨_, rfl, .inr ⟨rfl, rfl⟩⟩, fun o => ?_⟩
        have hK : p0e1.den E = 6 := by
          have := hf ((.eq p0e1 (.c 6)), true) (by simp)
          simpa only [eq_t, d_c] using this
        have hlt : E.i 3 < E.i 2 := by
          have := hf ((.lt (.v 3) (.v 2)), true) (by simp)
          simpa only [lt_t, d_v] using this
        have hsst : p0e26.den E = E.i 14 / 2 := by simp only [p0e26, d_c, d_v, d_ap, d_sli, d_slnil, d_bv, d_bc, d_mul, d_add, d_sub, d_wrap, d_tdiv, d_mx, hE, fnsf0, fnsf1, fnsf2, fnsf3, fnsf4, fnsf5, hhalf]
        have hcell0 : (SE.den E (p0e25)) = E.i 1 * 2 := by simp only [p0e0, p0e1, p0e2, p0e3, p0e4, p0e5, p0e6, p0e7, p0e8, p0e9, p0e10, p0e11, p0e12, p0e13, p0e14, p0e15, p0e16, p0e17, p0e18, p0e19, p0e20, p0e21, p0e22, p0e23, p0e24, p0e25, p0e26, p0e27, p0e28, p0e29, p0e30, p0e31, p0e32, p0e33, p0e34, p0e35, p0e36, d_c, d_v, d_ap, d_sli, d_slnil, d_bv, d_bc, d_mul, d_add, d_sub, d_wrap, d_tdiv, d_mx, hE, fnsf0, fnsf1, fnsf2, fnsf3, fnsf4, fnsf5]
        have hcell1 : (SE.den E (p0e26)) = E.i 14 / 2 := by simp only [p0e0, p0e1, p0e2, p0e3, p0e4, p0e5, p0e6, p0e7, p0e8, p0e9, p0e10, p0e11, p0e12, p0e13, p0e14, p0e15, p0e16, p0e17, p0e18, p0e19, p0e20, p0e21, p0e22, p0e23, p0e24, p0e25, p0e26, p0e27, p0e28, p0e29, p0e30, p0e31, p0e32, p0e33, p0e34, p0e35, p0e36, d_c, d_v, d_ap, d_sli, d_slnil, d_bv, d_bc, d_mul, d_add, d_sub, d_wrap, d_tdiv, d_mx, hE, fnsf0, fnsf1, fnsf2, fnsf3, fnsf4, fnsf5, hhalf]
        have hcell4 : p0e28.den E = pBudget (p0e3.den E) (pRate (E.i 1 * 2) (E.i 14 / 2)) (E.i 5) (E.i 6) := by simp only [p0e0, p0e1, p0e2, p0e3, p0e4, p0e5, p0e6, p0e7, p0e8, p0e9, p0e10, p0e11, p0e12, p0e13, p0e14, p0e15, p0e16, p0e17, p0e18, p0e19, p0e20, p0e21, p0e22, p0e23, p0e24, p0e25, p0e26, p0e27, p0e28, p0e29, p0e30, p0e31, p0e32, p0e33, p0e34, p0e35, p0e36, d_c, d_v, d_ap, d_sli, d_slnil, d_bv, d_bc, d_mul, d_add, d_sub, d_wrap, d_tdiv, d_mx, hE, fnsf0, fnsf1, fnsf2, fnsf3, fnsf4, fnsf5, hhalf]
        have hcell5 : p0e29.den E = pUntil (pRate (E.i 1 * 2) (E.i 14 / 2)) (E.i 5) (E.i 6) := by simp only [p0e0, p0e1, p0e2, p0e3, p0e4, p0e5, p0e6, p0e7, p0e8, p0e9, p0e10, p0e11, p0e12, p0e13, p0e14, p0e15, p0e16, p0e17, p0e18, p0e19, p0e20, p0e21, p0e22, p0e23, p0e24, p0e25, p0e26, p0e27, p0e28, p0e29, p0e30, p0e31, p0e32, p0e33, p0e34, p0e35, p0e36, d_c, d_v, d_ap, d_sli, d_slnil, d_bv, d_bc, d_mul, d_add, d_sub, d_wrap, d_tdiv, d_mx, hE, fnsf0, fnsf1, fnsf2, fnsf3, fnsf4, fnsf5, hhalf]
        refine ⟨⟨i + 1, fin7 hI (by omega) (hk0.trans hK) hk1 hk2 hk3 hk4 rfl rfl rfl rfl (CS.ext rfl rfl rfl rfl hsst rfl rfl) (e := p0e0) (l := (.i p0e25 (.b (.lt p0e25 p0e26) (.b (.le (.v 12) (.c (-1))) (.b (.lt p0e5 p0e25) (.b (.le (.v 1) p0e28) (.i p0e29 .nil))))))) he0 rfl ?_⟩, fun b hb => ?_⟩
        · intro c hc
          match c, hc with
          | 0, _ => exact hcell0
          | 1, _ =>
            show b2i (decide (SE.den E (p0e25) < SE.den E (p0e26))) = b2i (decide (E.i 1 * 2 < E.i 14 / 2))
            rw [hcell0, hcell1]
          | 2, _ =>
            exact recT (by show E.i 12 ≠ -1; have := hf ((.eq (.v 12) (.c (-1))), false) (by simp); simpa only [eq_f, d_v, d_c] using this)
          | 3, _ =>
            show b2i (decide (p0e5.den E < SE.den E (p0e25))) = b2i (decide (p0e5.den E < E.i 1 * 2))
            rw [hcell0]
          | 4, _ =>
            show b2i (decide (E.i 1 ≤ p0e28.den E)) = b2i (decide (E.i 1 ≤ pBudget (p0e3.den E) (pRate (E.i 1 * 2) (E.i 14 / 2)) (E.i 5) (E.i 6)))
            rw [hcell4]
          | 5, _ => exact hcell5
        · obtain rfl := Option.some.inj hb
          show (E0.i 2 - (E.i 3 + 1)).toNat < _
          omega
      · -- p0x20
        intro hf
        skip
        simp only [facts_cons, facts_nil, lt_t, lt_f, le_t, le_f, eq_t, eq_f, and_true, d_c, d_v, d_bv] at hf
        have hs := hstep (by omega)
        obtain ⟨hs1, hs2⟩ := hs
        change (_ ∧ _) ∨ (_ ∧ E.i 14 ≤ 190000 ∧ E.i 13 = -1 ∧ E.i 15 = 4611686018427387903) ∨ (_ ∧ _) at hs2
        first
          | omega
          | (have r1 := pRate_ok (cw := E.i 14) (sst := E.i 15) k3
             have r2 := pRate_ok (cw := ackCw (E.i 14) (p0e5.den E) (E.i 1)) (sst := E.i 15) (ackCw_ok (by omega) (by omega))
             simp only [p0e0, p0e1, p0e2, p0e3, p0e4, p0e5, p0e6, p0e7, p0e8, p0e9, p0e10, p0e11, p0e12, p0e13, p0e14, p0e15, p0e16, p0e17, p0e18, p0e19, p0e20, p0e21, p0e22, p0e23, p0e24, p0e25, p0e26, p0e27, p0e28, p0e29, p0e30, p0e31, p0e32, p0e33, p0e34, p0e35, p0e36, d_c, d_v, d_ap, d_sli, d_slnil, d_bv, d_bc, d_mul, d_add, d_sub, d_wrap, d_tdiv, d_mx, hE, fnsf0, fnsf1, fnsf2, fnsf3, fnsf4, fnsf5] at hf r2
             omega)
          | (have r1 := pRate_ok (cw := E.i 14) (sst := E.i 15) k3
             simp only [p0e0, p0e1, p0e2, p0e3, p0e4, p0e5, p0e6, p0e7, p0e8, p0e9, p0e10, p0e11, p0e12, p0e13, p0e14, p0e15, p0e16, p0e17, p0e18, p0e19, p0e20, p0e21, p0e22, p0e23, p0e24, p0e25, p0e26, p0e27, p0e28, p0e29, p0e30, p0e31, p0e32, p0e33, p0e34, p0e35, p0e36, d_c, d_v, d_ap, d_sli, d_slnil, d_bv, d_bc, d_mul, d_add, d_sub, d_wrap, d_tdiv, d_mx, hE, fnsf0, fnsf1, fnsf2, fnsf3, fnsf4, fnsf5] at hf
             omega)
          | (have r1 := pRate_ok (cw := E.i 1 * 2) (sst := E.i 14 / 2) (by omega)
             simp only [p0e0, p0e1, p0e2, p0e3, p0e4, p0e5, p0e6, p0e7, p0e8, p0e9, p0e10, p0e11, p0e12, p0e13, p0e14, p0e15, p0e16, p0e17, p0e18, p0e19, p0e20, p0e21, p0e22, p0e23, p0e24, p0e25, p0e26, p0e27, p0e28, p0e29, p0e30, p0e31, p0e32, p0e33, p0e34, p0e35, p0e36, d_c, d_v, d_ap, d_sli, d_slnil, d_bv, d_bc, d_mul, d_add, d_sub, d_wrap, d_tdiv, d_mx, hE, fnsf0, fnsf1, fnsf2, fnsf3, fnsf4, fnsf5, hhalf] at hf
             omega)
      · -- p0x21
        intro hf
        skip
        simp only [facts_cons, facts_nil, lt_t, lt_f, le_t, le_f, eq_t, eq_f, and_true, d_c, d_v, d_bv] at hf
        have hs := hstep (by omega)
        obtain ⟨hs1, hs2⟩ := hs
        change (_ ∧ _) ∨ (_ ∧ E.i 14 ≤ 190000 ∧ E.i 13 = -1 ∧ E.i 15 = 4611686018427387903) ∨ (_ ∧ _) at hs2
        first
          | omega
          | (have r1 := pRate_ok (cw := E.i 14) (sst := E.i 15) k3
             have r2 := pRate_ok (cw := ackCw (E.i 14) (p0e5.den E) (E.i 1)) (sst := E.i 15) (ackCw_ok (by omega) (by omega))
             simp only [p0e0, p0e1, p0e2, p0e3, p0e4, p0e5, p0e6, p0e7, p0e8, p0e9, p0e10, p0e11, p0e12, p0e13, p0e14, p0e15, p0e16, p0e17, p0e18, p0e19, p0e20, p0e21, p0e22, p0e23, p0e24, p0e25, p0e26, p0e27, p0e28, p0e29, p0e30, p0e31, p0e32, p0e33, p0e34, p0e35, p0e36, d_c, d_v, d_ap, d_sli, d_slnil, d_bv, d_bc, d_mul, d_add, d_sub, d_wrap, d_tdiv, d_mx, hE, fnsf0, fnsf1, fnsf2, fnsf3, fnsf4, fnsf5] at hf r2
             omega)
          | (have r1 := pRate_ok (cw := E.i 14) (sst := E.i 15) k3
             simp only [p0e0, p0e1, p0e2, p0e3, p0e4, p0e5, p0e6, p0e7, p0e8, p0e9, p0e10, p0e11, p0e12, p0e13, p0e14, p0e15, p0e16, p0e17, p0e18, p0e19, p0e20, p0e21, p0e22, p0e23, p0e24, p0e25, p0e26, p0e27, p0e28, p0e29, p0e30, p0e31, p0e32, p0e33, p0e34, p0e35, p0e36, d_c, d_v, d_ap, d_sli, d_slnil, d_bv, d_bc, d_mul, d_add, d_sub, d_wrap, d_tdiv, d_mx, hE, fnsf0, fnsf1, fnsf2, fnsf3, fnsf4, fnsf5] at hf
             omega)
          | (have r1 := pRate_ok (cw := E.i 1 * 2) (sst := E.i 14 / 2) (by omega)
             simp only [p0e0, p0e1, p0e2, p0e3, p0e4, p0e5, p0e6, p0e7, p0e8, p0e9, p0e10, p0e11, p0e12, p0e13, p0e14, p0e15, p0e16, p0e17, p0e18, p0e19, p0e20, p0e21, p0e22, p0e23, p0e24, p0e25, p0e26, p0e27, p0e28, p0e29, p0e30, p0e31, p0e32, p0e33, p0e34, p0e35, p0e36, d_c, d_v, d_ap, d_sli, d_slnil, d_bv, d_bc, d_mul, d_add, d_sub, d_wrap, d_tdiv, d_mx, hE, fnsf0, fnsf1, fnsf2, fnsf3, fnsf4, fnsf5, hhalf] at hf
             omega)
      · -- p0x22
        intro hf
        exfalso
        simp only [facts_cons, facts_nil, lt_t, lt_f, le_t, le_f, eq_t, eq_f, and_true, d_c, d_v, d_bv] at hf
        have hs := hstep (by omega)
        obtain ⟨hs1, hs2⟩ := hs
        change (_ ∧ _) ∨ (_ ∧ E.i 14 ≤ 190000 ∧ E.i 13 = -1 ∧ E.i 15 = 4611686018427387903) ∨ (_ ∧ _) at hs2
        first
          | omega
          | (have r1 := pRate_ok (cw := E.i 14) (sst := E.i 15) k3
             have r2 := pRate_ok (cw := ackCw (E.i 14) (p0e5.den E) (E.i 1)) (sst := E.i 15) (ackCw_ok (by omega) (by omega))
             simp only [p0e0, p0e1, p0e2, p0e3, p0e4, p0e5, p0e6, p0e7, p0e8, p0e9, p0e10, p0e11, p0e12, p0e13, p0e14, p0e15, p0e16, p0e17, p0e18, p0e19, p0e20, p0e21, p0e22, p0e23, p0e24, p0e25, p0e26, p0e27, p0e28, p0e29, p0e30, p0e31, p0e32, p0e33, p0e34, p0e35, p0e36, d_c, d_v, d_ap, d_sli, d_slnil, d_bv, d_bc, d_mul, d_add, d_sub, d_wrap, d_tdiv, d_mx, hE, fnsf0, fnsf1, fnsf2, fnsf3, fnsf4, fnsf5] at hf r2
             omega)
          | (have r1 := pRate_ok (cw := E.i 14) (sst := E.i 15) k3
             simp only [p0e0, p0e1, p0e2, p0e3, p0e4, p0e5, p0e6, p0e7, p0e8, p0e9, p0e10, p0e11, p0e12, p0e13, p0e14, p0e15, p0e16, p0e17, p0e18, p0e19, p0e20, p0e21, p0e22, p0e23, p0e24, p0e25, p0e26, p0e27, p0e28, p0e29, p0e30, p0e31, p0e32, p0e33, p0e34, p0e35, p0e36, d_c, d_v, d_ap, d_sli, d_slnil, d_bv, d_bc, d_mul, d_add, d_sub, d_wrap, d_tdiv, d_mx, hE, fnsf0, fnsf1, fnsf2, fnsf3, fnsf4, fnsf5] at hf
             omega)
          | (have r1 := pRate_ok (cw := E.i 1 * 2) (sst := E.i 14 / 2) (by omega)
             simp only [p0e0, p0e1, p0e2, p0e3, p0e4, p0e5, p0e6, p0e7, p0e8, p0e9, p0e10, p0e11, p0e12, p0e13, p0e14, p0e15, p0e16, p0e17, p0e18, p0e19, p0e20, p0e21, p0e22, p0e23, p0e24, p0e25, p0e26, p0e27, p0e28, p0e29, p0e30, p0e31, p0e32, p0e33, p0e34, p0e35, p0e36, d_c, d_v, d_ap, d_sli, d_slnil, d_bv, d_bc, d_mul, d_add, d_sub, d_wrap, d_tdiv, d_mx, hE, fnsf0, fnsf1, fnsf2, fnsf3, fnsf4, fnsf5, hhalf] at hf
             omega)
      · -- p0x23
        intro hf
        skip
        simp only [facts_cons, facts_nil, lt_t, lt_f, le_t, le_f, eq_t, eq_f, and_true, d_c, d_v, d_bv] at hf
        have hs := hstep (by omega)
        obtain ⟨hs1, hs2⟩ := hs
        change (_ ∧ _) ∨ (_ ∧ E.i 14 ≤ 190000 ∧ E.i 13 = -1 ∧ E.i 15 = 4611686018427387903) ∨ (_ ∧ _) at hs2
        first
          | omega
          | (have r1 := pRate_ok (cw := E.i 14) (sst := E.i 15) k3
             have r2 := pRate_ok (cw := ackCw (E.i 14) (p0e5.den E) (E.i 1)) (sst := E.i 15) (ackCw_ok (by omega) (by omega))
             simp only [p0e0, p0e1, p0e2, p0e3, p0e4, p0e5, p0e6, p0e7, p0e8, p0e9, p0e10, p0e11, p0e12, p0e13, p0e14, p0e15, p0e16, p0e17, p0e18, p0e19, p0e20, p0e21, p0e22, p0e23, p0e24, p0e25, p0e26, p0e27, p0e28, p0e29, p0e30, p0e31, p0e32, p0e33, p0e34, p0e35, p0e36, d_c, d_v, d_ap, d_sli, d_slnil, d_bv, d_bc, d_mul, d_add, d_sub, d_wrap, d_tdiv, d_mx, hE, fnsf0, fnsf1, fnsf2, fnsf3, fnsf4, fnsf5] at hf r2
             omega)
          | (have r1 := pRate_ok (cw := E.i 14) (sst := E.i 15) k3
             simp only [p0e0, p0e1, p0e2, p0e3, p0e4, p0e5, p0e6, p0e7, p0e8, p0e9, p0e10, p0e11, p0e12, p0e13, p0e14, p0e15, p0e16, p0e17, p0e18, p0e19, p0e20, p0e21, p0e22, p0e23, p0e24, p0e25, p0e26, p0e27, p0e28, p0e29, p0e30, p0e31, p0e32, p0e33, p0e34, p0e35, p0e36, d_c, d_v, d_ap, d_sli, d_slnil, d_bv, d_bc, d_mul, d_add, d_sub, d_wrap, d_tdiv, d_mx, hE, fnsf0, fnsf1, fnsf2, fnsf3, fnsf4, fnsf5] at hf
             omega)
          | (have r1 := pRate_ok (cw := E.i 1 * 2) (sst := E.i 14 / 2) (by omega)
             simp only [p0e0, p0e1, p0e2, p0e3, p0e4, p0e5, p0e6, p0e7, p0e8, p0e9, p0e10, p0e11, p0e12, p0e13, p0e14, p0e15, p0e16, p0e17, p0e18, p0e19, p0e20, p0e21, p0e22, p0e23, p0e24, p0e25, p0e26, p0e27, p0e28, p0e29, p0e30, p0e31, p0e32, p0e33, p0e34, p0e35, p0e36, d_c, d_v, d_ap, d_sli, d_slnil, d_bv, d_bc, d_mul, d_add, d_sub, d_wrap, d_tdiv, d_mx, hE, fnsf0, fnsf1, fnsf2, fnsf3, fnsf4, fnsf5, hhalf] at hf
             omega)
      · -- p0x24
        intro hf
        skip
        simp only [facts_cons, facts_nil, lt_t, lt_f, le_t, le_f, eq_t, eq_f, and_true, d_c, d_v, d_bv] at hf
        have hs := hstep (by omega)
        obtain ⟨hs1, hs2⟩ := hs
        change (_ ∧ _) ∨ (_ ∧ E.i 14 ≤ 190000 ∧ E.i 13 = -1 ∧ E.i 15 = 4611686018427387903) ∨ (_ ∧ _) at hs2
        first
          | omega
          | (have r1 := pRate_ok (cw := E.i 14) (sst := E.i 15) k3
             have r2 := pRate_ok (cw := ackCw (E.i 14) (p0e5.den E) (E.i 1)) (sst := E.i 15) (ackCw_ok (by omega) (by omega))
             simp only [p0e0, p0e1, p0e2, p0e3, p0e4, p0e5, p0e6, p0e7, p0e8, p0e9, p0e10, p0e11, p0e12, p0e13, p0e14, p0e15, p0e16, p0e17, p0e18, p0e19, p0e20, p0e21, p0e22, p0e23, p0e24, p0e25, p0e26, p0e27, p0e28, p0e29, p0e30, p0e31, p0e32, p0e33, p0e34, p0e35, p0e36, d_c, d_v, d_ap, d_sli, d_slnil, d_bv, d_bc, d_mul, d_add, d_sub, d_wrap, d_tdiv, d_mx, hE, fnsf0, fnsf1, fnsf2, fnsf3, fnsf4, fnsf5] at hf r2
             omega)
          | (have r1 := pRate_ok (cw := E.i 14) (sst := E.i 15) k3
             simp only [p0e0, p0e1, p0e2, p0e3, p0e4, p0e5, p0e6, p0e7, p0e8, p0e9, p0e10, p0e11, p0e12, p0e13, p0e14, p0e15, p0e16, p0e17, p0e18, p0e19, p0e20, p0e21, p0e22, p0e23, p0e24, p0e25, p0e26, p0e27, p0e28, p0e29, p0e30, p0e31, p0e32, p0e33, p0e34, p0e35, p0e36, d_c, d_v, d_ap, d_sli, d_slnil, d_bv, d_bc, d_mul, d_add, d_sub, d_wrap, d_tdiv, d_mx, hE, fnsf0, fnsf1, fnsf2, fnsf3, fnsf4, fnsf5] at hf
             omega)
          | (have r1 := pRate_ok (cw := E.i 1 * 2) (sst := E.i 14 / 2) (by omega)
             simp only [p0e0, p0e1, p0e2, p0e3, p0e4, p0e5, p0e6, p0e7, p0e8, p0e9, p0e10, p0e11, p0e12, p0e13, p0e14, p0e15, p0e16, p0e17, p0e18, p0e19, p0e20, p0e21, p0e22, p0e23, p0e24, p0e25, p0e26, p0e27, p0e28, p0e29, p0e30, p0e31, p0e32, p0e33, p0e34, p0e35, p0e36, d_c, d_v, d_ap, d_sli, d_slnil, d_bv, d_bc, d_mul, d_add, d_sub, d_wrap, d_tdiv, d_mx, hE, fnsf0, fnsf1, fnsf2, fnsf3, fnsf4, fnsf5, hhalf] at hf
             omega)
      · -- p0x25
        intro hf
        exfalso
        simp only [facts_cons, facts_nil, lt_t, lt_f, le_t, le_f, eq_t, eq_f, and_true, d_c, d_v, d_bv] at hf
        have hs := hstep (by omega)
        obtain ⟨hs1, hs2⟩ := hs
        change (_ ∧ _) ∨ (_ ∧ E.i 14 ≤ 190000 ∧ E.i 13 = -1 ∧ E.i 15 = 4611686018427387903) ∨ (_ ∧ _) at hs2
        first
          | omega
          | (have r1 := pRate_ok (cw := E.i 14) (sst := E.i 15) k3
             have r2 := pRate_ok (cw := ackCw (E.i 14) (p0e5.den E) (E.i 1)) (sst := E.i 15) (ackCw_ok (by omega) (by omega))
             simp only [p0e0, p0e1, p0e2, p0e3, p0e4, p0e5, p0e6, p0e7, p0e8, p0e9, p0e10, p0e11, p0e12, p0e13, p0e14, p0e15, p0e16, p0e17, p0e18, p0e19, p0e20, p0e21, p0e22, p0e23, p0e24, p0e25, p0e26, p0e27, p0e28, p0e29, p0e30, p0e31, p0e32, p0e33, p0e34, p0e35, p0e36, d_c, d_v, d_ap, d_sli, d_slnil, d_bv, d_bc, d_mul, d_add, d_sub, d_wrap, d_tdiv, d_mx, hE, fnsf0, fnsf1, fnsf2, fnsf3, fnsf4, fnsf5] at hf r2
             omega)
          | (have r1 := pRate_ok (cw := E.i 14) (sst := E.i 15) k3
             simp only [p0e0, p0e1, p0e2, p0e3, p0e4, p0e5, p0e6, p0e7, p0e8, p0e9, p0e10, p0e11, p0e12, p0e13, p0e14, p0e15, p0e16, p0e17, p0e18, p0e19, p0e20, p0e21, p0e22, p0e23, p0e24, p0e25, p0e26, p0e27, p0e28, p0e29, p0e30, p0e31, p0e32, p0e33, p0e34, p0e35, p0e36, d_c, d_v, d_ap, d_sli, d_slnil, d_bv, d_bc, d_mul, d_add, d_sub, d_wrap, d_tdiv, d_mx, hE, fnsf0, fnsf1, fnsf2, fnsf3, fnsf4, fnsf5] at hf
             omega)
          | (have r1 := pRate_ok (cw := E.i 1 * 2) (sst := E.i 14 / 2) (by omega)
             simp only [p0e0, p0e1, p0e2, p0e3, p0e4, p0e5, p0e6, p0e7, p0e8, p0e9, p0e10, p0e11, p0e12, p0e13, p0e14, p0e15, p0e16, p0e17, p0e18, p0e19, p0e20, p0e21, p0e22, p0e23, p0e24, p0e25, p0e26, p0e27, p0e28, p0e29, p0e30, p0e31, p0e32, p0e33, p0e34, p0e35, p0e36, d_c, d_v, d_ap, d_sli, d_slnil, d_bv, d_bc, d_mul, d_add, d_sub, d_wrap, d_tdiv, d_mx, hE, fnsf0, fnsf1, fnsf2, fnsf3, fnsf4, fnsf5, hhalf] at hf
             omega)
      · -- p0x26
        intro hf
        skip
        simp only [facts_cons, facts_nil, lt_t, lt_f, le_t, le_f, eq_t, eq_f, and_true, d_c, d_v, d_bv] at hf
        have hs := hstep (by omega)
        obtain ⟨hs1, hs2⟩ := hs
        change (_ ∧ _) ∨ (_ ∧ E.i 14 ≤ 190000 ∧ E.i 13 = -1 ∧ E.i 15 = 4611686018427387903) ∨ (_ ∧ _) at hs2
        first
          | omega
          | (have r1 := pRate_ok (cw := E.i 14) (sst := E.i 15) k3
             have r2 := pRate_ok (cw := ackCw (E.i 14) (p0e5.den E) (E.i 1)) (sst := E.i 15) (ackCw_ok (by omega) (by omega))
             simp only [p0e0, p0e1, p0e2, p0e3, p0e4, p0e5, p0e6, p0e7, p0e8, p0e9, p0e10, p0e11, p0e12, p0e13, p0e14, p0e15, p0e16, p0e17, p0e18, p0e19, p0e20, p0e21, p0e22, p0e23, p0e24, p0e25, p0e26, p0e27, p0e28, p0e29, p0e30, p0e31, p0e32, p0e33, p0e34, p0e35, p0e36, d_c, d_v, d_ap, d_sli, d_slnil, d_bv, d_bc, d_mul, d_add, d_sub, d_wrap, d_tdiv, d_mx, hE, fnsf0, fnsf1, fnsf2, fnsf3, fnsf4, fnsf5] at hf r2
             omega)
          | (have r1 := pRate_ok (cw := E.i 14) (sst := E.i 15) k3
             simp only [p0e0, p0e1, p0e2, p0e3, p0e4, p0e5, p0e6, p0e7, p0e8, p0e9, p0e10, p0e11, p0e12, p0e13, p0e14, p0e15, p0e16, p0e17, p0e18, p0e19, p0e20, p0e21, p0e22, p0e23, p0e24, p0e25, p0e26, p0e27, p0e28, p0e29, p0e30, p0e31, p0e32, p0e33, p0e34, p0e35, p0e36, d_c, d_v, d_ap, d_sli, d_slnil, d_bv, d_bc, d_mul, d_add, d_sub, d_wrap, d_tdiv, d_mx, hE, fnsf0, fnsf1, fnsf2, fnsf3, fnsf4, fnsf5] at hf
             omega)
          | (have r1 := pRate_ok (cw := E.i 1 * 2) (sst := E.i 14 / 2) (by omega)
             simp only [p0e0, p0e1, p0e2, p0e3, p0e4, p0e5, p0e6, p0e7, p0e8, p0e9, p0e10, p0e11, p0e12, p0e13, p0e14, p0e15, p0e16, p0e17, p0e18, p0e19, p0e20, p0e21, p0e22, p0e23, p0e24, p0e25, p0e26, p0e27, p0e28, p0e29, p0e30, p0e31, p0e32, p0e33, p0e34, p0e35, p0e36, d_c, d_v, d_ap, d_sli, d_slnil, d_bv, d_bc, d_mul, d_add, d_sub, d_wrap, d_tdiv, d_mx, hE, fnsf0, fnsf1, fnsf2, fnsf3, fnsf4, fnsf5, hhalf] at hf
             omega)
      · -- p0x27
        intro hf
        skip
        simp only [facts_cons, facts_nil, lt_t, lt_f, le_t, le_f, eq_t, eq_f, and_true, d_c, d_v, d_bv] at hf
        have hs := hstep (by omega)
        obtain ⟨hs1, hs2⟩ := hs
        change (_ ∧ _) ∨ (_ ∧ E.i 14 ≤ 190000 ∧ E.i 13 = -1 ∧ E.i 15 = 4611686018427387903) ∨ (_ ∧ _) at hs2
        first
          | omega
          | (have r1 := pRate_ok (cw := E.i 14) (sst := E.i 15) k3
             have r2 := pRate_ok (cw := ackCw (E.i 14) (p0e5.den E) (E.i 1)) (sst := E.i 15) (ackCw_ok (by omega) (by omega))
             simp only [p0e0, p0e1, p0e2, p0e3, p0e4, p0e5, p0e6, p0e7, p0e8, p0e9, p0e10, p0e11, p0e12, p0e13, p0e14, p0e15, p0e16, p0e17, p0e18, p0e19, p0e20, p0e21, p0e22, p0e23, p0e24, p0e25, p0e26, p0e27, p0e28, p0e29, p0e30, p0e31, p0e32, p0e33, p0e34, p0e35, p0e36, d_c, d_v, d_ap, d_sli, d_slnil, d_bv, d_bc, d_mul, d_add, d_sub, d_wrap, d_tdiv, d_mx, hE, fnsf0, fnsf1, fnsf2, fnsf3, fnsf4, fnsf5] at hf r2
             omega)
          | (have r1 := pRate_ok (cw := E.i 14) (sst := E.i 15) k3
             simp only [p0e0, p0e1, p0e2, p0e3, p0e4, p0e5, p0e6, p0e7, p0e8, p0e9, p0e10, p0e11, p0e12, p0e13, p0e14, p0e15, p0e16, p0e17, p0e18, p0e19, p0e20, p0e21, p0e22, p0e23, p0e24, p0e25, p0e26, p0e27, p0e28, p0e29, p0e30, p0e31, p0e32, p0e33, p0e34, p0e35, p0e36, d_c, d_v, d_ap, d_sli, d_slnil, d_bv, d_bc, d_mul, d_add, d_sub, d_wrap, d_tdiv, d_mx, hE, fnsf0, fnsf1, fnsf2, fnsf3, fnsf4, fnsf5] at hf
             omega)
          | (have r1 := pRate_ok (cw := E.i 1 * 2) (sst := E.i 14 / 2) (by omega)
             simp only [p0e0, p0e1, p0e2, p0e3, p0e4, p0e5, p0e6, p0e7, p0e8, p0e9, p0e10, p0e11, p0e12, p0e13, p0e14, p0e15, p0e16, p0e17, p0e18, p0e19, p0e20, p0e21, p0e22, p0e23, p0e24, p0e25, p0e26, p0e27, p0e28, p0e29, p0e30, p0e31, p0e32, p0e33, p0e34, p0e35, p0e36, d_c, d_v, d_ap, d_sli, d_slnil, d_bv, d_bc, d_mul, d_add, d_sub, d_wrap, d_tdiv, d_mx, hE, fnsf0, fnsf1, fnsf2, fnsf3, fnsf4, fnsf5, hhalf] at hf
             omega)
      · -- p0x28
        intro hf
        skip
        simp only [facts_cons, facts_nil, lt_t, lt_f, le_t, le_f, eq_t, eq_f, and_true, d_c, d_v, d_bv] at hf
        have hs := hstep (by omega)
        obtain ⟨hs1, hs2⟩ := hs
        change (_ ∧ _) ∨ (_ ∧ E.i 14 ≤ 190000 ∧ E.i 13 = -1 ∧ E.i 15 = 4611686018427387903) ∨ (_ ∧ _) at hs2
        first
          | omega
          | (have r1 := pRate_ok (cw := E.i 14) (sst := E.i 15) k3
             have r2 := pRate_ok (cw := ackCw (E.i 14) (p0e5.den E) (E.i 1)) (sst := E.i 15) (ackCw_ok (by omega) (by omega))
             simp only [p0e0, p0e1, p0e2, p0e3, p0e4, p0e5, p0e6, p0e7, p0e8, p0e9, p0e10, p0e11, p0e12, p0e13, p0e14, p0e15, p0e16, p0e17, p0e18, p0e19, p0e20, p0e21, p0e22, p0e23, p0e24, p0e25, p0e26, p0e27, p0e28, p0e29, p0e30, p0e31, p0e32, p0e33, p0e34, p0e35, p0e36, d_c, d_v, d_ap, d_sli, d_slnil, d_bv, d_bc, d_mul, d_add, d_sub, d_wrap, d_tdiv, d_mx, hE, fnsf0, fnsf1, fnsf2, fnsf3, fnsf4, fnsf5] at hf r2
             omega)
          | (have r1 := pRate_ok (cw := E.i 14) (sst := E.i 15) k3
             simp only [p0e0, p0e1, p0e2, p0e3, p0e4, p0e5, p0e6, p0e7, p0e8, p0e9, p0e10, p0e11, p0e12, p0e13, p0e14, p0e15, p0e16, p0e17, p0e18, p0e19, p0e20, p0e21, p0e22, p0e23, p0e24, p0e25, p0e26, p0e27, p0e28, p0e29, p0e30, p0e31, p0e32, p0e33, p0e34, p0e35, p0e36, d_c, d_v, d_ap, d_sli, d_slnil, d_bv, d_bc, d_mul, d_add, d_sub, d_wrap, d_tdiv, d_mx, hE, fnsf0, fnsf1, fnsf2, fnsf3, fnsf4, fnsf5] at hf
             omega)
          | (have r1 := pRate_ok (cw := E.i 1 * 2) (sst := E.i 14 / 2) (by omega)
             simp only [p0e0, p0e1, p0e2, p0e3, p0e4, p0e5, p0e6, p0e7, p0e8, p0e9, p0e10, p0e11, p0e12, p0e13, p0e14, p0e15, p0e16, p0e17, p0e18, p0e19, p0e20, p0e21, p0e22, p0e23, p0e24, p0e25, p0e26, p0e27, p0e28, p0e29, p0e30, p0e31, p0e32, p0e33, p0e34, p0e35, p0e36, d_c, d_v, d_ap, d_sli, d_slnil, d_bv, d_bc, d_mul, d_add, d_sub, d_wrap, d_tdiv, d_mx, hE, fnsf0, fnsf1, fnsf2, fnsf3, fnsf4, fnsf5, hhalf] at hf
             omega)
      · -- p0x29
        intro hf
        skip
        simp only [facts_cons, facts_nil, lt_t, lt_f, le_t, le_f, eq_t, eq_f, and_true, d_c, d_v, d_bv] at hf
        have hs := hstep (by omega)
        obtain ⟨hs1, hs2⟩ := hs
        change (_ ∧ _) ∨ (_ ∧ E.i 14 ≤ 190000 ∧ E.i 13 = -1 ∧ E.i 15 = 4611686018427387903) ∨ (_ ∧ _) at hs2
        first
          | omega
          | (have r1 := pRate_ok (cw := E.i 14) (sst := E.i 15) k3
             have r2 := pRate_ok (cw := ackCw (E.i 14) (p0e5.den E) (E.i 1)) (sst := E.i 15) (ackCw_ok (by omega) (by omega))
             simp only [p0e0, p0e1, p0e2, p0e3, p0e4, p0e5, p0e6, p0e7, p0e8, p0e9, p0e10, p0e11, p0e12, p0e13, p0e14, p0e15, p0e16, p0e17, p0e18, p0e19, p0e20, p0e21, p0e22, p0e23, p0e24, p0e25, p0e26, p0e27, p0e28, p0e29, p0e30, p0e31, p0e32, p0e33, p0e34, p0e35, p0e36, d_c, d_v, d_ap, d_sli, d_slnil, d_bv, d_bc, d_mul, d_add, d_sub, d_wrap, d_tdiv, d_mx, hE, fnsf0, fnsf1, fnsf2, fnsf3, fnsf4, fnsf5] at hf r2
             omega)
          | (have r1 := pRate_ok (cw := E.i 14) (sst := E.i 15) k3
             simp only [p0e0, p0e1, p0e2, p0e3, p0e4, p0e5, p0e6, p0e7, p0e8, p0e9, p0e10, p0e11, p0e12, p0e13, p0e14, p0e15, p0e16, p0e17, p0e18, p0e19, p0e20, p0e21, p0e22, p0e23, p0e24, p0e25, p0e26, p0e27, p0e28, p0e29, p0e30, p0e31, p0e32, p0e33, p0e34, p0e35, p0e36, d_c, d_v, d_ap, d_sli, d_slnil, d_bv, d_bc, d_mul, d_add, d_sub, d_wrap, d_tdiv, d_mx, hE, fnsf0, fnsf1, fnsf2, fnsf3, fnsf4, fnsf5] at hf
             omega)
          | (have r1 := pRate_ok (cw := E.i 1 * 2) (sst := E.i 14 / 2) (by omega)
             simp only [p0e0, p0e1, p0e2, p0e3, p0e4, p0e5, p0e6, p0e7, p0e8, p0e9, p0e10, p0e11, p0e12, p0e13, p0e14, p0e15, p0e16, p0e17, p0e18, p0e19, p0e20, p0e21, p0e22, p0e23, p0e24, p0e25, p0e26, p0e27, p0e28, p0e29, p0e30, p0e31, p0e32, p0e33, p0e34, p0e35, p0e36, d_c, d_v, d_ap, d_sli, d_slnil, d_bv, d_bc, d_mul, d_add, d_sub, d_wrap, d_tdiv, d_mx, hE, fnsf0, fnsf1, fnsf2, fnsf3, fnsf4, fnsf5, hhalf] at hf
             omega)
      · -- p0x30
        intro hf
        skip
        simp only [facts_cons, facts_nil, lt_t, lt_f, le_t, le_f, eq_t, eq_f, and_true, d_c, d_v, d_bv] at hf
        have hs := hstep (by omega)
        obtain ⟨hs1, hs2⟩ := hs
        change (_ ∧ _) ∨ (_ ∧ E.i 14 ≤ 190000 ∧ E.i 13 = -1 ∧ E.i 15 = 4611686018427387903) ∨ (_ ∧ _) at hs2
        first
          | omega
          | (have r1 := pRate_ok (cw := E.i 14) (sst := E.i 15) k3
             have r2 := pRate_ok (cw := ackCw (E.i 14) (p0e5.den E) (E.i 1)) (sst := E.i 15) (ackCw_ok (by omega) (by omega))
             simp only [p0e0, p0e1, p0e2, p0e3, p0e4, p0e5, p0e6, p0e7, p0e8, p0e9, p0e10, p0e11, p0e12, p0e13, p0e14, p0e15, p0e16, p0e17, p0e18, p0e19, p0e20, p0e21, p0e22, p0e23, p0e24, p0e25, p0e26, p0e27, p0e28, p0e29, p0e30, p0e31, p0e32, p0e33, p0e34, p0e35, p0e36, d_c, d_v, d_ap, d_sli, d_slnil, d_bv, d_bc, d_mul, d_add, d_sub, d_wrap, d_tdiv, d_mx, hE, fnsf0, fnsf1, fnsf2, fnsf3, fnsf4, fnsf5] at hf r2
             omega)
          | (have r1 := pRate_ok (cw := E.i 14) (sst := E.i 15) k3
             simp only [p0e0, p0e1, p0e2, p0e3, p0e4, p0e5, p0e6, p0e7, p0e8, p0e9, p0e10, p0e11, p0e12, p0e13, p0e14, p0e15, p0e16, p0e17, p0e18, p0e19, p0e20, p0e21, p0e22, p0e23, p0e24, p0e25, p0e26, p0e27, p0e28, p0e29, p0e30, p0e31, p0e32, p0e33, p0e34, p0e35, p0e36, d_c, d_v, d_ap, d_sli, d_slnil, d_bv, d_bc, d_mul, d_add, d_sub, d_wrap, d_tdiv, d_mx, hE, fnsf0, fnsf1, fnsf2, fnsf3, fnsf4, fnsf5] at hf
             omega)
          | (have r1 := pRate_ok (cw := E.i 1 * 2) (sst := E.i 14 / 2) (by omega)
             simp only [p0e0, p0e1, p0e2, p0e3, p0e4, p0e5, p0e6, p0e7, p0e8, p0e9, p0e10, p0e11, p0e12, p0e13, p0e14, p0e15, p0e16, p0e17, p0e18, p0e19, p0e20, p0e21, p0e22, p0e23, p0e24, p0e25, p0e26, p0e27, p0e28, p0e29, p0e30, p0e31, p0e32, p0e33, p0e34, p0e35, p0e36, d_c, d_v, d_ap, d_sli, d_slnil, d_bv, d_bc, d_mul, d_add, d_sub, d_wrap, d_tdiv, d_mx, hE, fnsf0, fnsf1, fnsf2, fnsf3, fnsf4, fnsf5, hhalf] at hf
             omega)
      · -- p0x31
        intro hf
        skip
        simp only [facts_cons, facts_nil, lt_t, lt_f, le_t, le_f, eq_t, eq_f, and_true, d_c, d_v, d_bv] at hf
        have hs := hstep (by omega)
        obtain ⟨hs1, hs2⟩ := hs
        change (_ ∧ _) ∨ (_ ∧ E.i 14 ≤ 190000 ∧ E.i 13 = -1 ∧ E.i 15 = 4611686018427387903) ∨ (_ ∧ _) at hs2
        first
          | omega
          | (have r1 := pRate_ok (cw := E.i 14) (sst := E.i 15) k3
             have r2 := pRate_ok (cw := ackCw (E.i 14) (p0e5.den E) (E.i 1)) (sst := E.i 15) (ackCw_ok (by omega) (by omega))
             simp only [p0e0, p0e1, p0e2, p0e3, p0e4, p0e5, p0e6, p0e7, p0e8, p0e9, p0e10, p0e11, p0e12, p0e13, p0e14, p0e15, p0e16, p0e17, p0e18, p0e19, p0e20, p0e21, p0e22, p0e23, p0e24, p0e25, p0e26, p0e27, p0e28, p0e29, p0e30, p0e31, p0e32, p0e33, p0e34, p0e35, p0e36, d_c, d_v, d_ap, d_sli, d_slnil, d_bv, d_bc, d_mul, d_add, d_sub, d_wrap, d_tdiv, d_mx, hE, fnsf0, fnsf1, fnsf2, fnsf3, fnsf4, fnsf5] at hf r2
             omega)
          | (have r1 := pRate_ok (cw := E.i 14) (sst := E.i 15) k3
             simp only [p0e0, p0e1, p0e2, p0e3, p0e4, p0e5, p0e6, p0e7, p0e8, p0e9, p0e10, p0e11, p0e12, p0e13, p0e14, p0e15, p0e16, p0e17, p0e18, p0e19, p0e20, p0e21, p0e22, p0e23, p0e24, p0e25, p0e26, p0e27, p0e28, p0e29, p0e30, p0e31, p0e32, p0e33, p0e34, p0e35, p0e36, d_c, d_v, d_ap, d_sli, d_slnil, d_bv, d_bc, d_mul, d_add, d_sub, d_wrap, d_tdiv, d_mx, hE, fnsf0, fnsf1, fnsf2, fnsf3, fnsf4, fnsf5] at hf
             omega)
          | (have r1 := pRate_ok (cw := E.i 1 * 2) (sst := E.i 14 / 2) (by omega)
             simp only [p0e0, p0e1, p0e2, p0e3, p0e4, p0e5, p0e6, p0e7, p0e8, p0e9, p0e10, p0e11, p0e12, p0e13, p0e14, p0e15, p0e16, p0e17, p0e18, p0e19, p0e20, p0e21, p0e22, p0e23, p0e24, p0e25, p0e26, p0e27, p0e28, p0e29, p0e30, p0e31, p0e32, p0e33, p0e34, p0e35, p0e36, d_c, d_v, d_ap, d_sli, d_slnil, d_bv, d_bc, d_mul, d_add, d_sub, d_wrap, d_tdiv, d_mx, hE, fnsf0, fnsf1, fnsf2, fnsf3, fnsf4, fnsf5, hhalf] at hf
             omega)
      · -- p0x32
        intro hf
        skip
        simp only [facts_cons, facts_nil, lt_t, lt_f, le_t, le_f, eq_t, eq_f, and_true, d_c, d_v, d_bv] at hf
        have hs := hstep (by omega)
        obtain ⟨hs1, hs2⟩ := hs
        change (_ ∧ _) ∨ (_ ∧ E.i 14 ≤ 190000 ∧ E.i 13 = -1 ∧ E.i 15 = 4611686018427387903) ∨ (_ ∧ _) at hs2
        first
          | omega
          | (have r1 := pRate_ok (cw := E.i 14) (sst := E.i 15) k3
             have r2 := pRate_ok (cw := ackCw (E.i 14) (p0e5.den E) (E.i 1)) (sst := E.i 15) (ackCw_ok (by omega) (by omega))
             simp only [p0e0, p0e1, p0e2, p0e3, p0e4, p0e5, p0e6, p0e7, p0e8, p0e9, p0e10, p0e11, p0e12, p0e13, p0e14, p0e15, p0e16, p0e17, p0e18, p0e19, p0e20, p0e21, p0e22, p0e23, p0e24, p0e25, p0e26, p0e27, p0e28, p0e29, p0e30, p0e31, p0e32, p0e33, p0e34, p0e35, p0e36, d_c, d_v, d_ap, d_sli, d_slnil, d_bv, d_bc, d_mul, d_add, d_sub, d_wrap, d_tdiv, d_mx, hE, fnsf0, fnsf1, fnsf2, fnsf3, fnsf4, fnsf5] at hf r2
             omega)
          | (have r1 := pRate_ok (cw := E.i 14) (sst := E.i 15) k3
             simp only [p0e0, p0e1, p0e2, p0e3, p0e4, p0e5, p0e6, p0e7, p0e8, p0e9, p0e10, p0e11, p0e12, p0e13, p0e14, p0e15, p0e16, p0e17, p0e18, p0e19, p0e20, p0e21, p0e22, p0e23, p0e24, p0e25, p0e26, p0e27, p0e28, p0e29, p0e30, p0e31, p0e32, p0e33, p0e34, p0e35, p0e36, d_c, d_v, d_ap, d_sli, d_slnil, d_bv, d_bc, d_mul, d_add, d_sub, d_wrap, d_tdiv, d_mx, hE, fnsf0, fnsf1, fnsf2, fnsf3, fnsf4, fnsf5] at hf
             omega)
          | (have r1 := pRate_ok (cw := E.i 1 * 2) (sst := E.i 14 / 2) (by omega)
             simp only [p0e0, p0e1, p0e2, p0e3, p0e4, p0e5, p0e6, p0e7, p0e8, p0e9, p0e10, p0e11, p0e12, p0e13, p0e14, p0e15, p0e16, p0e17, p0e18, p0e19, p0e20, p0e21, p0e22, p0e23, p0e24, p0e25, p0e26, p0e27, p0e28, p0e29, p0e30, p0e31, p0e32, p0e33, p0e34, p0e35, p0e36, d_c, d_v, d_ap, d_sli, d_slnil, d_bv, d_bc, d_mul, d_add, d_sub, d_wrap, d_tdiv, d_mx, hE, fnsf0, fnsf1, fnsf2, fnsf3, fnsf4, fnsf5, hhalf] at hf
             omega)
      · -- p0x33
        intro hf
        skip
        simp only [facts_cons, facts_nil, lt_t, lt_f, le_t, le_f, eq_t, eq_f, and_true, d_c, d_v, d_bv] at hf
        have hs := hstep (by omega)
        obtain ⟨hs1, hs2⟩ := hs
        change (_ ∧ _) ∨ (_ ∧ E.i 14 ≤ 190000 ∧ E.i 13 = -1 ∧ E.i 15 = 4611686018427387903) ∨ (_ ∧ _) at hs2
        first
          | omega
          | (have r1 := pRate_ok (cw := E.i 14) (sst := E.i 15) k3
             have r2 := pRate_ok (cw := ackCw (E.i 14) (p0e5.den E) (E.i 1)) (sst := E.i 15) (ackCw_ok (by omega) (by omega))
             simp only [p0e0, p0e1, p0e2, p0e3, p0e4, p0e5, p0e6, p0e7, p0e8, p0e9, p0e10, p0e11, p0e12, p0e13, p0e14, p0e15, p0e16, p0e17, p0e18, p0e19, p0e20, p0e21, p0e22, p0e23, p0e24, p0e25, p0e26, p0e27, p0e28, p0e29, p0e30, p0e31, p0e32, p0e33, p0e34, p0e35, p0e36, d_c, d_v, d_ap, d_sli, d_slnil, d_bv, d_bc, d_mul, d_add, d_sub, d_wrap, d_tdiv, d_mx, hE, fnsf0, fnsf1, fnsf2, fnsf3, fnsf4, fnsf5] at hf r2
             omega)
          | (have r1 := pRate_ok (cw := E.i 14) (sst := E.i 15) k3
             simp only [p0e0, p0e1, p0e2, p0e3, p0e4, p0e5, p0e6, p0e7, p0e8, p0e9, p0e10, p0e11, p0e12, p0e13, p0e14, p0e15, p0e16, p0e17, p0e18, p0e19, p0e20, p0e21, p0e22, p0e23, p0e24, p0e25, p0e26, p0e27, p0e28, p0e29, p0e30, p0e31, p0e32, p0e33, p0e34, p0e35, p0e36, d_c, d_v, d_ap, d_sli, d_slnil, d_bv, d_bc, d_mul, d_add, d_sub, d_wrap, d_tdiv, d_mx, hE, fnsf0, fnsf1, fnsf2, fnsf3, fnsf4, fnsf5] at hf
             omega)
          | (have r1 := pRate_ok (cw := E.i 1 * 2) (sst := E.i 14 / 2) (by omega)
             simp only [p0e0, p0e1, p0e2, p0e3, p0e4, p0e5, p0e6, p0e7, p0e8, p0e9, p0e10, p0e11, p0e12, p0e13, p0e14, p0e15, p0e16, p0e17, p0e18, p0e19, p0e20, p0e21, p0e22, p0e23, p0e24, p0e25, p0e26, p0e27, p0e28, p0e29, p0e30, p0e31, p0e32, p0e33, p0e34, p0e35, p0e36, d_c, d_v, d_ap, d_sli, d_slnil, d_bv, d_bc, d_mul, d_add, d_sub, d_wrap, d_tdiv, d_mx, hE, fnsf0, fnsf1, fnsf2, fnsf3, fnsf4, fnsf5, hhalf] at hf
             omega)
      · -- p0x34
        intro hf
        skip
        simp only [facts_cons, facts_nil, lt_t, lt_f, le_t, le_f, eq_t, eq_f, and_true, d_c, d_v, d_bv] at hf
        have hs := hstep (by omega)
        obtain ⟨hs1, hs2⟩ := hs
        change (_ ∧ _) ∨ (_ ∧ E.i 14 ≤ 190000 ∧ E.i 13 = -1 ∧ E.i 15 = 4611686018427387903) ∨ (_ ∧ _) at hs2
        first
          | omega
          | (have r1 := pRate_ok (cw := E.i 14) (sst := E.i 15) k3
             have r2 := pRate_ok (cw := ackCw (E.i 14) (p0e5.den E) (E.i 1)) (sst := E.i 15) (ackCw_ok (by omega) (by omega))
             simp only [p0e0, p0e1, p0e2, p0e3, p0e4, p0e5, p0e6, p0e7, p0e8, p0e9, p0e10, p0e11, p0e12, p0e13, p0e14, p0e15, p0e16, p0e17, p0e18, p0e19, p0e20, p0e21, p0e22, p0e23, p0e24, p0e25, p0e26, p0e27, p0e28, p0e29, p0e30, p0e31, p0e32, p0e33, p0e34, p0e35, p0e36, d_c, d_v, d_ap, d_sli, d_slnil, d_bv, d_bc, d_mul, d_add, d_sub, d_wrap, d_tdiv, d_mx, hE, fnsf0, fnsf1, fnsf2, fnsf3, fnsf4, fnsf5] at hf r2
             omega)
          | (have r1 := pRate_ok (cw := E.i 14) (sst := E.i 15) k3
             simp only [p0e0, p0e1, p0e2, p0e3, p0e4, p0e5, p0e6, p0e7, p0e8, p0e9, p0e10, p0e11, p0e12, p0e13, p0e14, p0e15, p0e16, p0e17, p0e18, p0e19, p0e20, p0e21, p0e22, p0e23, p0e24, p0e25, p0e26, p0e27, p0e28, p0e29, p0e30, p0e31, p0e32, p0e33, p0e34, p0e35, p0e36, d_c, d_v, d_ap, d_sli, d_slnil, d_bv, d_bc, d_mul, d_add, d_sub, d_wrap, d_tdiv, d_mx, hE, fnsf0, fnsf1, fnsf2, fnsf3, fnsf4, fnsf5] at hf
             omega)
          | (have r1 := pRate_ok (cw := E.i 1 * 2) (sst := E.i 14 / 2) (by omega)
             simp only [p0e0, p0e1, p0e2, p0e3, p0e4, p0e5, p0e6, p0e7, p0e8, p0e9, p0e10, p0e11, p0e12, p0e13, p0e14, p0e15, p0e16, p0e17, p0e18, p0e19, p0e20, p0e21, p0e22, p0e23, p0e24, p0e25, p0e26, p0e27, p0e28, p0e29, p0e30, p0e31, p0e32, p0e33, p0e34, p0e35, p0e36, d_c, d_v, d_ap, d_sli, d_slnil, d_bv, d_bc, d_mul, d_add, d_sub, d_wrap, d_tdiv, d_mx, hE, fnsf0, fnsf1, fnsf2, fnsf3, fnsf4, fnsf5, hhalf] at hf
             omega)
      · -- p0x35
        intro hf
        skip
        simp only [facts_cons, facts_nil, lt_t, lt_f, le_t, le_f, eq_t, eq_f, and_true, d_c, d_v, d_bv] at hf
        have hs := hstep (by omega)
        obtain ⟨hs1, hs2⟩ := hs
        change (_ ∧ _) ∨ (_ ∧ E.i 14 ≤ 190000 ∧ E.i 13 = -1 ∧ E.i 15 = 4611686018427387903) ∨ (_ ∧ _) at hs2
        first
          | omega
          | (have r1 := pRate_ok (cw := E.i 14) (sst := E.i 15) k3
             have r2 := pRate_ok (cw := ackCw (E.i 14) (p0e5.den E) (E.i 1)) (sst := E.i 15) (ackCw_ok (by omega) (by omega))
             simp only [p0e0, p0e1, p0e2, p0e3, p0e4, p0e5, p0e6, p0e7, p0e8, p0e9, p0e10, p0e11, p0e12, p0e13, p0e14, p0e15, p0e16, p0e17, p0e18, p0e19, p0e20, p0e21, p0e22, p0e23, p0e24, p0e25, p0e26, p0e27, p0e28, p0e29, p0e30, p0e31, p0e32, p0e33, p0e34, p0e35, p0e36, d_c, d_v, d_ap, d_sli, d_slnil, d_bv, d_bc, d_mul, d_add, d_sub, d_wrap, d_tdiv, d_mx, hE, fnsf0, fnsf1, fnsf2, fnsf3, fnsf4, fnsf5] at hf r2
             omega)
          | (have r1 := pRate_ok (cw := E.i 14) (sst := E.i 15) k3
             simp only [p0e0, p0e1, p0e2, p0e3, p0e4, p0e5, p0e6, p0e7, p0e8, p0e9, p0e10, p0e11, p0e12, p0e13, p0e14, p0e15, p0e16, p0e17, p0e18, p0e19, p0e20, p0e21, p0e22, p0e23, p0e24, p0e25, p0e26, p0e27, p0e28, p0e29, p0e30, p0e31, p0e32, p0e33, p0e34, p0e35, p0e36, d_c, d_v, d_ap, d_sli, d_slnil, d_bv, d_bc, d_mul, d_add, d_sub, d_wrap, d_tdiv, d_mx, hE, fnsf0, fnsf1, fnsf2, fnsf3, fnsf4, fnsf5] at hf
             omega)
          | (have r1 := pRate_ok (cw := E.i 1 * 2) (sst := E.i 14 / 2) (by omega)
             simp only [p0e0, p0e1, p0e2, p0e3, p0e4, p0e5, p0e6, p0e7, p0e8, p0e9, p0e10, p0e11, p0e12, p0e13, p0e14, p0e15, p0e16, p0e17, p0e18, p0e19, p0e20, p0e21, p0e22, p0e23, p0e24, p0e25, p0e26, p0e27, p0e28, p0e29, p0e30, p0e31, p0e32, p0e33, p0e34, p0e35, p0e36, d_c, d_v, d_ap, d_sli, d_slnil, d_bv, d_bc, d_mul, d_add, d_sub, d_wrap, d_tdiv, d_mx, hE, fnsf0, fnsf1, fnsf2, fnsf3, fnsf4, fnsf5, hhalf] at hf
             omega)
      · -- p0x36
        intro hf
        skip
        simp only [facts_cons, facts_nil, lt_t, lt_f, le_t, le_f, eq_t, eq_f, and_true, d_c, d_v, d_bv] at hf
        have hs := hstep (by omega)
        obtain ⟨hs1, hs2⟩ := hs
        change (_ ∧ _) ∨ (_ ∧ E.i 14 ≤ 190000 ∧ E.i 13 = -1 ∧ E.i 15 = 4611686018427387903) ∨ (_ ∧ _) at hs2
        first
          | omega
          | (have r1 := pRate_ok (cw := E.i 14) (sst := E.i 15) k3
             have r2 := pRate_ok (cw := ackCw (E.i 14) (p0e5.den E) (E.i 1)) (sst := E.i 15) (ackCw_ok (by omega) (by omega))
             simp only [p0e0, p0e1, p0e2, p0e3, p0e4, p0e5, p0e6, p0e7, p0e8, p0e9, p0e10, p0e11, p0e12, p0e13, p0e14, p0e15, p0e16, p0e17, p0e18, p0e19, p0e20, p0e21, p0e22, p0e23, p0e24, p0e25, p0e26, p0e27, p0e28, p0e29, p0e30, p0e31, p0e32, p0e33, p0e34, p0e35, p0e36, d_c, d_v, d_ap, d_sli, d_slnil, d_bv, d_bc, d_mul, d_add, d_sub, d_wrap, d_tdiv, d_mx, hE, fnsf0, fnsf1, fnsf2, fnsf3, fnsf4, fnsf5] at hf r2
             omega)
          | (have r1 := pRate_ok (cw := E.i 14) (sst := E.i 15) k3
             simp only [p0e0, p0e1, p0e2, p0e3, p0e4, p0e5, p0e6, p0e7, p0e8, p0e9, p0e10, p0e11, p0e12, p0e13, p0e14, p0e15, p0e16, p0e17, p0e18, p0e19, p0e20, p0e21, p0e22, p0e23, p0e24, p0e25, p0e26, p0e27, p0e28, p0e29, p0e30, p0e31, p0e32, p0e33, p0e34, p0e35, p0e36, d_c, d_v, d_ap, d_sli, d_slnil, d_bv, d_bc, d_mul, d_add, d_sub, d_wrap, d_tdiv, d_mx, hE, fnsf0, fnsf1, fnsf2, fnsf3, fnsf4, fnsf5] at hf
             omega)
          | (have r1 := pRate_ok (cw := E.i 1 * 2) (sst := E.i 14 / 2) (by omega)
             simp only [p0e0, p0e1, p0e2, p0e3, p0e4, p0e5, p0e6, p0e7, p0e8, p0e9, p0e10, p0e11, p0e12, p0e13, p0e14, p0e15, p0e16, p0e17, p0e18, p0e19, p0e20, p0e21, p0e22, p0e23, p0e24, p0e25, p0e26, p0e27, p0e28, p0e29, p0e30, p0e31, p0e32, p0e33, p0e34, p0e35, p0e36, d_c, d_v, d_ap, d_sli, d_slnil, d_bv, d_bc, d_mul, d_add, d_sub, d_wrap, d_tdiv, d_mx, hE, fnsf0, fnsf1, fnsf2, fnsf3, fnsf4, fnsf5, hhalf] at hf
             omega)
      · -- p0x37
        intro hf
        skip
        simp only [facts_cons, facts_nil, lt_t, lt_f, le_t, le_f, eq_t, eq_f, and_true, d_c, d_v, d_bv] at hf
        have hs := hstep (by omega)
        obtain ⟨hs1, hs2⟩ := hs
        change (_ ∧ _) ∨ (_ ∧ E.i 14 ≤ 190000 ∧ E.i 13 = -1 ∧ E.i 15 = 4611686018427387903) ∨ (_ ∧ _) at hs2
        first
          | omega
          | (have r1 := pRate_ok (cw := E.i 14) (sst := E.i 15) k3
             have r2 := pRate_ok (cw := ackCw (E.i 14) (p0e5.den E) (E.i 1)) (sst := E.i 15) (ackCw_ok (by omega) (by omega))
             simp only [p0e0, p0e1, p0e2, p0e3, p0e4, p0e5, p0e6, p0e7, p0e8, p0e9, p0e10, p0e11, p0e12, p0e13, p0e14, p0e15, p0e16, p0e17, p0e18, p0e19, p0e20, p0e21, p0e22, p0e23, p0e24, p0e25, p0e26, p0e27, p0e28, p0e29, p0e30, p0e31, p0e32, p0e33, p0e34, p0e35, p0e36, d_c, d_v, d_ap, d_sli, d_slnil, d_bv, d_bc, d_mul, d_add, d_sub, d_wrap, d_tdiv, d_mx, hE, fnsf0, fnsf1, fnsf2, fnsf3, fnsf4, fnsf5] at hf r2
             omega)
          | (have r1 := pRate_ok (cw := E.i 14) (sst := E.i 15) k3
             simp only [p0e0, p0e1, p0e2, p0e3, p0e4, p0e5, p0e6, p0e7, p0e8, p0e9, p0e10, p0e11, p0e12, p0e13, p0e14, p0e15, p0e16, p0e17, p0e18, p0e19, p0e20, p0e21, p0e22, p0e23, p0e24, p0e25, p0e26, p0e27, p0e28, p0e29, p0e30, p0e31, p0e32, p0e33, p0e34, p0e35, p0e36, d_c, d_v, d_ap, d_sli, d_slnil, d_bv, d_bc, d_mul, d_add, d_sub, d_wrap, d_tdiv, d_mx, hE, fnsf0, fnsf1, fnsf2, fnsf3, fnsf4, fnsf5] at hf
             omega)
          | (have r1 := pRate_ok (cw := E.i 1 * 2) (sst := E.i 14 / 2) (by omega)
             simp only [p0e0, p0e1, p0e2, p0e3, p0e4, p0e5, p0e6, p0e7, p0e8, p0e9, p0e10, p0e11, p0e12, p0e13, p0e14, p0e15, p0e16, p0e17, p0e18, p0e19, p0e20, p0e21, p0e22, p0e23, p0e24, p0e25, p0e26, p0e27, p0e28, p0e29, p0e30, p0e31, p0e32, p0e33, p0e34, p0e35, p0e36, d_c, d_v, d_ap, d_sli, d_slnil, d_bv, d_bc, d_mul, d_add, d_sub, d_wrap, d_tdiv, d_mx, hE, fnsf0, fnsf1, fnsf2, fnsf3, fnsf4, fnsf5, hhalf] at hf
             omega)
      · intro hf
        have hlt := hf (SB.lt (.v 3) (.v 2), false) (by simp)
        simp only [lt_f, d_v] at hlt
        refine ⟨rfl, ?_⟩
        have hin : E0.i 2 = i := by omega
        simp only [List.forall_mem_cons, List.not_mem_nil, false_imp_iff, implies_true, and_true, Eqn.ok]
        refine ⟨fun j _ => by rw [d_av, d_av, hI.ha], h2, fun j hj => ?_, by rw [d_v, d_v]; omega⟩
        simp only [d_v, hin] at hj
        rw [d_av, hI.row j (by omega)]
        show _ = E0.fn.a 0 [.i (E0.i 1), .a ((AE.v 0).den E0)] j
        rw [hE0]; rfl
end Go.Proofs.Ytlclcnkmdbmceaa
