/- MTPlay keeps its contract. -/
import Derived.Test.YtnffahllpagicaaMtU
set_option linter.unusedVariables false
set_option linter.unusedSimpArgs false
set_option maxRecDepth 100000
set_option maxHeartbeats 4000000
namespace Go.Proofs.Ytnffahllpagicaa
open Go Go.Sy Go.RowKit


noncomputable def pax0 : Vl := .go 0 [(13, (.c (-1))), (12, (.c (-1))), (11, (.v 1)), (10, (.v 0)), (9, (.c (-1))), (8, (.c 0)), (7, (.c 0)), (6, (.c 100000000)), (5, (.c 100000000)), (4, (.c 100000000)), (3, (.c 0)), (2, (.v 2))] [(1, (.c false)), (0, (.c false))] [(0, (.v 0))] [((.le (.c 0) (.v 0)), true), ((.le (.v 0) (.c 4096)), true), ((.le (.c 0) (.v 1)), true), ((.le (.v 1) (.c 4096)), true), ((.le (.c 0) (.v 2)), true), ((.le (.v 2) (.c 1000)), true), ((.ap 0 (.i (.v 0) (.i (.v 1) (.a (.v 0) (.i (.v 2) .nil))))), true)] (.code (.loop (loopB (prm4 Try.prog).P 4 6))) (loopK (prm4 Try.prog).P 4 6)
noncomputable def pals : List Vl := [pax0]
theorem parun : (run (prm4 Try.prog) 600 (enterD (prm4 Try.prog) ct4)).map (vOf (prm4 Try.prog) ct4 (pts4 Try.prog)) = pals := by kernel_rfl
-- 1 ways; terms: 

noncomputable def p0e0 : SE := .mul (.v 3) (.c 4)
noncomputable def p0e1 : SE := .rd (.v 0) p0e0
noncomputable def p0e2 : SE := .add p0e0 (.c 1)
noncomputable def p0e3 : SE := .rd (.v 0) p0e2
noncomputable def p0e4 : SE := .add (.v 3) (.c 1)
noncomputable def p0e5 : SE := .ap 0 (.i (.v 11) (.i (.v 12) (.i (.v 13) .nil)))
noncomputable def p0e6 : SE := .sub p0e5 (.v 10)
noncomputable def p0e7 : SE := .wrap .i64 p0e6
noncomputable def p0e8 : AE := .tl (.v 1) p0e0 (.b (.c false) (.b (.le p0e7 (.c 21)) (.i (.c 0) (.i (.v 10) .nil))))
noncomputable def p0e9 : SE := .mul (.c 5) (.v 6)
noncomputable def p0e10 : SE := .add (.v 8) p0e9
noncomputable def p0e11 : AE := .tl (.v 1) p0e0 (.b (.not (.lt p0e3 p0e10)) (.b (.le p0e7 (.c 21)) (.i (.c 0) (.i (.v 10) .nil))))
noncomputable def p0e12 : SE := .add (.v 10) (.v 11)
noncomputable def p0e13 : SE := .tdiv p0e12 (.c 2)
noncomputable def p0e14 : AE := .tl (.v 1) p0e0 (.b (.c false) (.b (.le p0e7 (.c 21)) (.i p0e13 (.i (.v 10) .nil))))
noncomputable def p0e15 : SE := .add (.v 10) p0e5
noncomputable def p0e16 : SE := .wrap .i64 p0e15
noncomputable def p0e17 : SE := .tdiv p0e16 (.c 2)
noncomputable def p0e18 : AE := .tl (.v 1) p0e0 (.b (.c false) (.b (.le p0e7 (.c 21)) (.i p0e17 (.i (.v 10) .nil))))
noncomputable def p0e19 : SE := .tdiv p0e3 (.c 2)
noncomputable def p0e20 : AE := .ap 0 (.i (.v 0) (.i (.v 1) (.a (.v 0) .nil)))
noncomputable def p0x0 : Vl := .dead [((.eq p0e1 (.c 5)), true), ((.le p0e3 (.c 1152921504606846976)), true), ((.le (.c 0) p0e3), true), ((.le p0e1 (.c 6)), true), ((.le (.c 0) p0e1), true), ((.lt (.v 3) (.v 2)), true), ((.le (.c 0) (.v 0)), true), ((.le (.v 0) (.c 4096)), true), ((.le (.c 0) (.v 1)), true), ((.le (.v 1) (.c 4096)), true), ((.le (.c 0) (.v 2)), true), ((.le (.v 2) (.c 1000)), true), ((.le (.c 0) (.v 3)), true), ((.le (.v 3) (.c 1000)), true), ((.le (.c 0) (.v 6)), true), ((.le (.v 6) (.c 1000000000)), true), ((.le (.c 0) (.v 8)), true), ((.le (.v 8) (.c 1152921504606846976)), true), ((.le (.c 0) (.v 10)), true), ((.le (.v 10) (.c 4096)), true), ((.le (.c 0) (.v 11)), true), ((.le (.v 11) (.c 4096)), true), ((.le (.c (-1)) (.v 12)), true), ((.le (.v 12) (.c 4096)), true), ((.le (.c (-1)) (.v 13)), true), ((.le (.v 13) (.c 4096)), true), ((.eq (.v 9) (.c (-1))), true)]
noncomputable def p0x1 : Vl := .go 0 [(13, (.v 13)), (12, (.v 12)), (11, (.v 11)), (10, (.v 10)), (9, (.v 9)), (8, p0e3), (7, (.v 7)), (6, (.v 6)), (5, (.v 5)), (4, (.v 4)), (3, p0e4), (2, (.v 2))] [(1, (.v 1)), (0, (.v 0))] [(1, p0e8), (0, (.v 0))] [((.eq p0e1 (.c 0)), true), ((.eq p0e1 (.c 5)), false), ((.le p0e3 (.c 1152921504606846976)), true), ((.le (.c 0) p0e3), true), ((.le p0e1 (.c 6)), true), ((.le (.c 0) p0e1), true), ((.lt (.v 3) (.v 2)), true), ((.le (.c 0) (.v 0)), true), ((.le (.v 0) (.c 4096)), true), ((.le (.c 0) (.v 1)), true), ((.le (.v 1) (.c 4096)), true), ((.le (.c 0) (.v 2)), true), ((.le (.v 2) (.c 1000)), true), ((.le (.c 0) (.v 3)), true), ((.le (.v 3) (.c 1000)), true), ((.le (.c 0) (.v 6)), true), ((.le (.v 6) (.c 1000000000)), true), ((.le (.c 0) (.v 8)), true), ((.le (.v 8) (.c 1152921504606846976)), true), ((.le (.c 0) (.v 10)), true), ((.le (.v 10) (.c 4096)), true), ((.le (.c 0) (.v 11)), true), ((.le (.v 11) (.c 4096)), true), ((.le (.c (-1)) (.v 12)), true), ((.le (.v 12) (.c 4096)), true), ((.le (.c (-1)) (.v 13)), true), ((.le (.v 13) (.c 4096)), true), ((.eq (.v 9) (.c (-1))), true)] (.exit .normal) (.loop (loopB (prm4 Try.prog).P 4 6) :: loopK (prm4 Try.prog).P 4 6)
noncomputable def p0x2 : Vl := .go 0 [(13, (.v 13)), (12, (.v 12)), (11, (.v 11)), (10, (.v 10)), (9, (.v 9)), (8, (.v 8)), (7, (.v 7)), (6, (.v 6)), (5, (.v 5)), (4, (.v 4)), (3, p0e4), (2, (.v 2))] [(1, (.v 1)), (0, (.v 0))] [(1, p0e8), (0, (.v 0))] [((.eq (.v 8) (.c 0)), true), ((.eq p0e1 (.c 1)), true), ((.eq p0e1 (.c 0)), false), ((.eq p0e1 (.c 5)), false), ((.le p0e3 (.c 1152921504606846976)), true), ((.le (.c 0) p0e3), true), ((.le p0e1 (.c 6)), true), ((.le (.c 0) p0e1), true), ((.lt (.v 3) (.v 2)), true), ((.le (.c 0) (.v 0)), true), ((.le (.v 0) (.c 4096)), true), ((.le (.c 0) (.v 1)), true), ((.le (.v 1) (.c 4096)), true), ((.le (.c 0) (.v 2)), true), ((.le (.v 2) (.c 1000)), true), ((.le (.c 0) (.v 3)), true), ((.le (.v 3) (.c 1000)), true), ((.le (.c 0) (.v 6)), true), ((.le (.v 6) (.c 1000000000)), true), ((.le (.c 0) (.v 8)), true), ((.le (.v 8) (.c 1152921504606846976)), true), ((.le (.c 0) (.v 10)), true), ((.le (.v 10) (.c 4096)), true), ((.le (.c 0) (.v 11)), true), ((.le (.v 11) (.c 4096)), true), ((.le (.c (-1)) (.v 12)), true), ((.le (.v 12) (.c 4096)), true), ((.le (.c (-1)) (.v 13)), true), ((.le (.v 13) (.c 4096)), true), ((.eq (.v 9) (.c (-1))), true)] (.exit .normal) (.loop (loopB (prm4 Try.prog).P 4 6) :: loopK (prm4 Try.prog).P 4 6)
noncomputable def p0x3 : Vl := .go 0 [(13, (.v 13)), (12, (.v 12)), (11, (.v 11)), (10, (.v 10)), (9, (.v 9)), (8, (.v 8)), (7, (.v 7)), (6, (.v 6)), (5, (.v 5)), (4, (.v 4)), (3, p0e4), (2, (.v 2))] [(1, (.v 1)), (0, (.v 0))] [(1, p0e8), (0, (.v 0))] [((.le p0e7 (.c 21)), true), ((.eq (.v 8) (.c 0)), false), ((.eq p0e1 (.c 1)), true), ((.eq p0e1 (.c 0)), false), ((.eq p0e1 (.c 5)), false), ((.le p0e3 (.c 1152921504606846976)), true), ((.le (.c 0) p0e3), true), ((.le p0e1 (.c 6)), true), ((.le (.c 0) p0e1), true), ((.lt (.v 3) (.v 2)), true), ((.le (.c 0) (.v 0)), true), ((.le (.v 0) (.c 4096)), true), ((.le (.c 0) (.v 1)), true), ((.le (.v 1) (.c 4096)), true), ((.le (.c 0) (.v 2)), true), ((.le (.v 2) (.c 1000)), true), ((.le (.c 0) (.v 3)), true), ((.le (.v 3) (.c 1000)), true), ((.le (.c 0) (.v 6)), true), ((.le (.v 6) (.c 1000000000)), true), ((.le (.c 0) (.v 8)), true), ((.le (.v 8) (.c 1152921504606846976)), true), ((.le (.c 0) (.v 10)), true), ((.le (.v 10) (.c 4096)), true), ((.le (.c 0) (.v 11)), true), ((.le (.v 11) (.c 4096)), true), ((.le (.c (-1)) (.v 12)), true), ((.le (.v 12) (.c 4096)), true), ((.le (.c (-1)) (.v 13)), true), ((.le (.v 13) (.c 4096)), true), ((.eq (.v 9) (.c (-1))), true)] (.exit .normal) (.loop (loopB (prm4 Try.prog).P 4 6) :: loopK (prm4 Try.prog).P 4 6)
noncomputable def p0x4 : Vl := .go 0 [(13, (.v 13)), (12, (.v 12)), (11, (.v 11)), (10, (.v 10)), (9, (.v 9)), (8, (.v 8)), (7, (.v 7)), (6, (.v 6)), (5, (.v 5)), (4, (.v 4)), (3, p0e4), (2, (.v 2))] [(1, (.v 1)), (0, (.v 0))] [(1, p0e11), (0, (.v 0))] [((.le p0e7 (.c 21)), false), ((.eq (.v 8) (.c 0)), false), ((.eq p0e1 (.c 1)), true), ((.eq p0e1 (.c 0)), false), ((.eq p0e1 (.c 5)), false), ((.le p0e3 (.c 1152921504606846976)), true), ((.le (.c 0) p0e3), true), ((.le p0e1 (.c 6)), true), ((.le (.c 0) p0e1), true), ((.lt (.v 3) (.v 2)), true), ((.le (.c 0) (.v 0)), true), ((.le (.v 0) (.c 4096)), true), ((.le (.c 0) (.v 1)), true), ((.le (.v 1) (.c 4096)), true), ((.le (.c 0) (.v 2)), true), ((.le (.v 2) (.c 1000)), true), ((.le (.c 0) (.v 3)), true), ((.le (.v 3) (.c 1000)), true), ((.le (.c 0) (.v 6)), true), ((.le (.v 6) (.c 1000000000)), true), ((.le (.c 0) (.v 8)), true), ((.le (.v 8) (.c 1152921504606846976)), true), ((.le (.c 0) (.v 10)), true), ((.le (.v 10) (.c 4096)), true), ((.le (.c 0) (.v 11)), true), ((.le (.v 11) (.c 4096)), true), ((.le (.c (-1)) (.v 12)), true), ((.le (.v 12) (.c 4096)), true), ((.le (.c (-1)) (.v 13)), true), ((.le (.v 13) (.c 4096)), true), ((.eq (.v 9) (.c (-1))), true)] (.exit .normal) (.loop (loopB (prm4 Try.prog).P 4 6) :: loopK (prm4 Try.prog).P 4 6)
noncomputable def p0x5 : Vl := .go 1 [(13, (.v 13)), (12, (.v 12)), (11, (.v 11)), (10, (.v 10)), (9, p0e13), (8, p0e3), (7, (.v 7)), (6, (.v 6)), (5, (.v 5)), (4, (.v 4)), (3, p0e4), (2, (.v 2))] [(1, (.v 1)), (0, (.v 0))] [(1, p0e14), (0, (.v 0))] [((.v 1), true), ((.eq p0e1 (.c 2)), true), ((.eq p0e1 (.c 1)), false), ((.eq p0e1 (.c 0)), false), ((.eq p0e1 (.c 5)), false), ((.le p0e3 (.c 1152921504606846976)), true), ((.le (.c 0) p0e3), true), ((.le p0e1 (.c 6)), true), ((.le (.c 0) p0e1), true), ((.lt (.v 3) (.v 2)), true), ((.le (.c 0) (.v 0)), true), ((.le (.v 0) (.c 4096)), true), ((.le (.c 0) (.v 1)), true), ((.le (.v 1) (.c 4096)), true), ((.le (.c 0) (.v 2)), true), ((.le (.v 2) (.c 1000)), true), ((.le (.c 0) (.v 3)), true), ((.le (.v 3) (.c 1000)), true), ((.le (.c 0) (.v 6)), true), ((.le (.v 6) (.c 1000000000)), true), ((.le (.c 0) (.v 8)), true), ((.le (.v 8) (.c 1152921504606846976)), true), ((.le (.c 0) (.v 10)), true), ((.le (.v 10) (.c 4096)), true), ((.le (.c 0) (.v 11)), true), ((.le (.v 11) (.c 4096)), true), ((.le (.c (-1)) (.v 12)), true), ((.le (.v 12) (.c 4096)), true), ((.le (.c (-1)) (.v 13)), true), ((.le (.v 13) (.c 4096)), true), ((.eq (.v 9) (.c (-1))), true)] (.exit .normal) (.loop (loopB (prm4 Try.prog).P 4 6) :: loopK (prm4 Try.prog).P 4 6)
noncomputable def p0x6 : Vl := .go 1 [(13, (.v 13)), (12, (.v 12)), (11, (.v 11)), (10, (.v 10)), (9, p0e17), (8, p0e3), (7, (.v 7)), (6, (.v 6)), (5, (.v 5)), (4, (.v 4)), (3, p0e4), (2, (.v 2))] [(1, (.v 1)), (0, (.v 0))] [(1, p0e18), (0, (.v 0))] [((.v 1), false), ((.eq p0e1 (.c 2)), true), ((.eq p0e1 (.c 1)), false), ((.eq p0e1 (.c 0)), false), ((.eq p0e1 (.c 5)), false), ((.le p0e3 (.c 1152921504606846976)), true), ((.le (.c 0) p0e3), true), ((.le p0e1 (.c 6)), true), ((.le (.c 0) p0e1), true), ((.lt (.v 3) (.v 2)), true), ((.le (.c 0) (.v 0)), true), ((.le (.v 0) (.c 4096)), true), ((.le (.c 0) (.v 1)), true), ((.le (.v 1) (.c 4096)), true), ((.le (.c 0) (.v 2)), true), ((.le (.v 2) (.c 1000)), true), ((.le (.c 0) (.v 3)), true), ((.le (.v 3) (.c 1000)), true), ((.le (.c 0) (.v 6)), true), ((.le (.v 6) (.c 1000000000)), true), ((.le (.c 0) (.v 8)), true), ((.le (.v 8) (.c 1152921504606846976)), true), ((.le (.c 0) (.v 10)), true), ((.le (.v 10) (.c 4096)), true), ((.le (.c 0) (.v 11)), true), ((.le (.v 11) (.c 4096)), true), ((.le (.c (-1)) (.v 12)), true), ((.le (.v 12) (.c 4096)), true), ((.le (.c (-1)) (.v 13)), true), ((.le (.v 13) (.c 4096)), true), ((.eq (.v 9) (.c (-1))), true)] (.exit .normal) (.loop (loopB (prm4 Try.prog).P 4 6) :: loopK (prm4 Try.prog).P 4 6)
noncomputable def p0x7 : Vl := .dead [((.eq p0e1 (.c 3)), true), ((.eq p0e1 (.c 2)), false), ((.eq p0e1 (.c 1)), false), ((.eq p0e1 (.c 0)), false), ((.eq p0e1 (.c 5)), false), ((.le p0e3 (.c 1152921504606846976)), true), ((.le (.c 0) p0e3), true), ((.le p0e1 (.c 6)), true), ((.le (.c 0) p0e1), true), ((.lt (.v 3) (.v 2)), true), ((.le (.c 0) (.v 0)), true), ((.le (.v 0) (.c 4096)), true), ((.le (.c 0) (.v 1)), true), ((.le (.v 1) (.c 4096)), true), ((.le (.c 0) (.v 2)), true), ((.le (.v 2) (.c 1000)), true), ((.le (.c 0) (.v 3)), true), ((.le (.v 3) (.c 1000)), true), ((.le (.c 0) (.v 6)), true), ((.le (.v 6) (.c 1000000000)), true), ((.le (.c 0) (.v 8)), true), ((.le (.v 8) (.c 1152921504606846976)), true), ((.le (.c 0) (.v 10)), true), ((.le (.v 10) (.c 4096)), true), ((.le (.c 0) (.v 11)), true), ((.le (.v 11) (.c 4096)), true), ((.le (.c (-1)) (.v 12)), true), ((.le (.v 12) (.c 4096)), true), ((.le (.c (-1)) (.v 13)), true), ((.le (.v 13) (.c 4096)), true), ((.eq (.v 9) (.c (-1))), true)]
noncomputable def p0x8 : Vl := .dead [((.eq p0e1 (.c 4)), true), ((.eq p0e1 (.c 3)), false), ((.eq p0e1 (.c 2)), false), ((.eq p0e1 (.c 1)), false), ((.eq p0e1 (.c 0)), false), ((.eq p0e1 (.c 5)), false), ((.le p0e3 (.c 1152921504606846976)), true), ((.le (.c 0) p0e3), true), ((.le p0e1 (.c 6)), true), ((.le (.c 0) p0e1), true), ((.lt (.v 3) (.v 2)), true), ((.le (.c 0) (.v 0)), true), ((.le (.v 0) (.c 4096)), true), ((.le (.c 0) (.v 1)), true), ((.le (.v 1) (.c 4096)), true), ((.le (.c 0) (.v 2)), true), ((.le (.v 2) (.c 1000)), true), ((.le (.c 0) (.v 3)), true), ((.le (.v 3) (.c 1000)), true), ((.le (.c 0) (.v 6)), true), ((.le (.v 6) (.c 1000000000)), true), ((.le (.c 0) (.v 8)), true), ((.le (.v 8) (.c 1152921504606846976)), true), ((.le (.c 0) (.v 10)), true), ((.le (.v 10) (.c 4096)), true), ((.le (.c 0) (.v 11)), true), ((.le (.v 11) (.c 4096)), true), ((.le (.c (-1)) (.v 12)), true), ((.le (.v 12) (.c 4096)), true), ((.le (.c (-1)) (.v 13)), true), ((.le (.v 13) (.c 4096)), true), ((.eq (.v 9) (.c (-1))), true)]
noncomputable def p0x9 : Vl := .dead [((.v 0), true), ((.le p0e3 (.c 256000000)), true), ((.le (.c 1000000) p0e3), true), ((.eq p0e1 (.c 6)), true), ((.eq p0e1 (.c 4)), false), ((.eq p0e1 (.c 3)), false), ((.eq p0e1 (.c 2)), false), ((.eq p0e1 (.c 1)), false), ((.eq p0e1 (.c 0)), false), ((.eq p0e1 (.c 5)), false), ((.le p0e3 (.c 1152921504606846976)), true), ((.le (.c 0) p0e3), true), ((.le p0e1 (.c 6)), true), ((.le (.c 0) p0e1), true), ((.lt (.v 3) (.v 2)), true), ((.le (.c 0) (.v 0)), true), ((.le (.v 0) (.c 4096)), true), ((.le (.c 0) (.v 1)), true), ((.le (.v 1) (.c 4096)), true), ((.le (.c 0) (.v 2)), true), ((.le (.v 2) (.c 1000)), true), ((.le (.c 0) (.v 3)), true), ((.le (.v 3) (.c 1000)), true), ((.le (.c 0) (.v 6)), true), ((.le (.v 6) (.c 1000000000)), true), ((.le (.c 0) (.v 8)), true), ((.le (.v 8) (.c 1152921504606846976)), true), ((.le (.c 0) (.v 10)), true), ((.le (.v 10) (.c 4096)), true), ((.le (.c 0) (.v 11)), true), ((.le (.v 11) (.c 4096)), true), ((.le (.c (-1)) (.v 12)), true), ((.le (.v 12) (.c 4096)), true), ((.le (.c (-1)) (.v 13)), true), ((.le (.v 13) (.c 4096)), true), ((.eq (.v 9) (.c (-1))), true)]
noncomputable def p0x10 : Vl := .go 0 [(13, (.v 13)), (12, (.v 12)), (11, (.v 11)), (10, (.v 10)), (9, (.v 9)), (8, (.v 8)), (7, p0e19), (6, p0e3), (5, p0e3), (4, p0e3), (3, p0e4), (2, (.v 2))] [(1, (.v 1)), (0, (.c true))] [(1, p0e8), (0, (.v 0))] [((.v 0), false), ((.le p0e3 (.c 256000000)), true), ((.le (.c 1000000) p0e3), true), ((.eq p0e1 (.c 6)), true), ((.eq p0e1 (.c 4)), false), ((.eq p0e1 (.c 3)), false), ((.eq p0e1 (.c 2)), false), ((.eq p0e1 (.c 1)), false), ((.eq p0e1 (.c 0)), false), ((.eq p0e1 (.c 5)), false), ((.le p0e3 (.c 1152921504606846976)), true), ((.le (.c 0) p0e3), true), ((.le p0e1 (.c 6)), true), ((.le (.c 0) p0e1), true), ((.lt (.v 3) (.v 2)), true), ((.le (.c 0) (.v 0)), true), ((.le (.v 0) (.c 4096)), true), ((.le (.c 0) (.v 1)), true), ((.le (.v 1) (.c 4096)), true), ((.le (.c 0) (.v 2)), true), ((.le (.v 2) (.c 1000)), true), ((.le (.c 0) (.v 3)), true), ((.le (.v 3) (.c 1000)), true), ((.le (.c 0) (.v 6)), true), ((.le (.v 6) (.c 1000000000)), true), ((.le (.c 0) (.v 8)), true), ((.le (.v 8) (.c 1152921504606846976)), true), ((.le (.c 0) (.v 10)), true), ((.le (.v 10) (.c 4096)), true), ((.le (.c 0) (.v 11)), true), ((.le (.v 11) (.c 4096)), true), ((.le (.c (-1)) (.v 12)), true), ((.le (.v 12) (.c 4096)), true), ((.le (.c (-1)) (.v 13)), true), ((.le (.v 13) (.c 4096)), true), ((.eq (.v 9) (.c (-1))), true)] (.exit .normal) (.loop (loopB (prm4 Try.prog).P 4 6) :: loopK (prm4 Try.prog).P 4 6)
noncomputable def p0x11 : Vl := .dead [((.le p0e3 (.c 256000000)), false), ((.le (.c 1000000) p0e3), true), ((.eq p0e1 (.c 6)), true), ((.eq p0e1 (.c 4)), false), ((.eq p0e1 (.c 3)), false), ((.eq p0e1 (.c 2)), false), ((.eq p0e1 (.c 1)), false), ((.eq p0e1 (.c 0)), false), ((.eq p0e1 (.c 5)), false), ((.le p0e3 (.c 1152921504606846976)), true), ((.le (.c 0) p0e3), true), ((.le p0e1 (.c 6)), true), ((.le (.c 0) p0e1), true), ((.lt (.v 3) (.v 2)), true), ((.le (.c 0) (.v 0)), true), ((.le (.v 0) (.c 4096)), true), ((.le (.c 0) (.v 1)), true), ((.le (.v 1) (.c 4096)), true), ((.le (.c 0) (.v 2)), true), ((.le (.v 2) (.c 1000)), true), ((.le (.c 0) (.v 3)), true), ((.le (.v 3) (.c 1000)), true), ((.le (.c 0) (.v 6)), true), ((.le (.v 6) (.c 1000000000)), true), ((.le (.c 0) (.v 8)), true), ((.le (.v 8) (.c 1152921504606846976)), true), ((.le (.c 0) (.v 10)), true), ((.le (.v 10) (.c 4096)), true), ((.le (.c 0) (.v 11)), true), ((.le (.v 11) (.c 4096)), true), ((.le (.c (-1)) (.v 12)), true), ((.le (.v 12) (.c 4096)), true), ((.le (.c (-1)) (.v 13)), true), ((.le (.v 13) (.c 4096)), true), ((.eq (.v 9) (.c (-1))), true)]
noncomputable def p0x12 : Vl := .dead [((.le (.c 1000000) p0e3), false), ((.eq p0e1 (.c 6)), true), ((.eq p0e1 (.c 4)), false), ((.eq p0e1 (.c 3)), false), ((.eq p0e1 (.c 2)), false), ((.eq p0e1 (.c 1)), false), ((.eq p0e1 (.c 0)), false), ((.eq p0e1 (.c 5)), false), ((.le p0e3 (.c 1152921504606846976)), true), ((.le (.c 0) p0e3), true), ((.le p0e1 (.c 6)), true), ((.le (.c 0) p0e1), true), ((.lt (.v 3) (.v 2)), true), ((.le (.c 0) (.v 0)), true), ((.le (.v 0) (.c 4096)), true), ((.le (.c 0) (.v 1)), true), ((.le (.v 1) (.c 4096)), true), ((.le (.c 0) (.v 2)), true), ((.le (.v 2) (.c 1000)), true), ((.le (.c 0) (.v 3)), true), ((.le (.v 3) (.c 1000)), true), ((.le (.c 0) (.v 6)), true), ((.le (.v 6) (.c 1000000000)), true), ((.le (.c 0) (.v 8)), true), ((.le (.v 8) (.c 1152921504606846976)), true), ((.le (.c 0) (.v 10)), true), ((.le (.v 10) (.c 4096)), true), ((.le (.c 0) (.v 11)), true), ((.le (.v 11) (.c 4096)), true), ((.le (.c (-1)) (.v 12)), true), ((.le (.v 12) (.c 4096)), true), ((.le (.c (-1)) (.v 13)), true), ((.le (.v 13) (.c 4096)), true), ((.eq (.v 9) (.c (-1))), true)]
noncomputable def p0x13 : Vl := .go 0 [(13, (.v 13)), (12, (.v 12)), (11, (.v 11)), (10, (.v 10)), (9, (.v 9)), (8, (.v 8)), (7, (.v 7)), (6, (.v 6)), (5, (.v 5)), (4, (.v 4)), (3, p0e4), (2, (.v 2))] [(1, (.v 1)), (0, (.v 0))] [(1, p0e8), (0, (.v 0))] [((.eq p0e1 (.c 6)), false), ((.eq p0e1 (.c 4)), false), ((.eq p0e1 (.c 3)), false), ((.eq p0e1 (.c 2)), false), ((.eq p0e1 (.c 1)), false), ((.eq p0e1 (.c 0)), false), ((.eq p0e1 (.c 5)), false), ((.le p0e3 (.c 1152921504606846976)), true), ((.le (.c 0) p0e3), true), ((.le p0e1 (.c 6)), true), ((.le (.c 0) p0e1), true), ((.lt (.v 3) (.v 2)), true), ((.le (.c 0) (.v 0)), true), ((.le (.v 0) (.c 4096)), true), ((.le (.c 0) (.v 1)), true), ((.le (.v 1) (.c 4096)), true), ((.le (.c 0) (.v 2)), true), ((.le (.v 2) (.c 1000)), true), ((.le (.c 0) (.v 3)), true), ((.le (.v 3) (.c 1000)), true), ((.le (.c 0) (.v 6)), true), ((.le (.v 6) (.c 1000000000)), true), ((.le (.c 0) (.v 8)), true), ((.le (.v 8) (.c 1152921504606846976)), true), ((.le (.c 0) (.v 10)), true), ((.le (.v 10) (.c 4096)), true), ((.le (.c 0) (.v 11)), true), ((.le (.v 11) (.c 4096)), true), ((.le (.c (-1)) (.v 12)), true), ((.le (.v 12) (.c 4096)), true), ((.le (.c (-1)) (.v 13)), true), ((.le (.v 13) (.c 4096)), true), ((.eq (.v 9) (.c (-1))), true)] (.exit .normal) (.loop (loopB (prm4 Try.prog).P 4 6) :: loopK (prm4 Try.prog).P 4 6)
noncomputable def p0x14 : Vl := .dead [((.le p0e3 (.c 1152921504606846976)), false), ((.le (.c 0) p0e3), true), ((.le p0e1 (.c 6)), true), ((.le (.c 0) p0e1), true), ((.lt (.v 3) (.v 2)), true), ((.le (.c 0) (.v 0)), true), ((.le (.v 0) (.c 4096)), true), ((.le (.c 0) (.v 1)), true), ((.le (.v 1) (.c 4096)), true), ((.le (.c 0) (.v 2)), true), ((.le (.v 2) (.c 1000)), true), ((.le (.c 0) (.v 3)), true), ((.le (.v 3) (.c 1000)), true), ((.le (.c 0) (.v 6)), true), ((.le (.v 6) (.c 1000000000)), true), ((.le (.c 0) (.v 8)), true), ((.le (.v 8) (.c 1152921504606846976)), true), ((.le (.c 0) (.v 10)), true), ((.le (.v 10) (.c 4096)), true), ((.le (.c 0) (.v 11)), true), ((.le (.v 11) (.c 4096)), true), ((.le (.c (-1)) (.v 12)), true), ((.le (.v 12) (.c 4096)), true), ((.le (.c (-1)) (.v 13)), true), ((.le (.v 13) (.c 4096)), true), ((.eq (.v 9) (.c (-1))), true)]
noncomputable def p0x15 : Vl := .dead [((.le (.c 0) p0e3), false), ((.le p0e1 (.c 6)), true), ((.le (.c 0) p0e1), true), ((.lt (.v 3) (.v 2)), true), ((.le (.c 0) (.v 0)), true), ((.le (.v 0) (.c 4096)), true), ((.le (.c 0) (.v 1)), true), ((.le (.v 1) (.c 4096)), true), ((.le (.c 0) (.v 2)), true), ((.le (.v 2) (.c 1000)), true), ((.le (.c 0) (.v 3)), true), ((.le (.v 3) (.c 1000)), true), ((.le (.c 0) (.v 6)), true), ((.le (.v 6) (.c 1000000000)), true), ((.le (.c 0) (.v 8)), true), ((.le (.v 8) (.c 1152921504606846976)), true), ((.le (.c 0) (.v 10)), true), ((.le (.v 10) (.c 4096)), true), ((.le (.c 0) (.v 11)), true), ((.le (.v 11) (.c 4096)), true), ((.le (.c (-1)) (.v 12)), true), ((.le (.v 12) (.c 4096)), true), ((.le (.c (-1)) (.v 13)), true), ((.le (.v 13) (.c 4096)), true), ((.eq (.v 9) (.c (-1))), true)]
noncomputable def p0x16 : Vl := .dead [((.le p0e1 (.c 6)), false), ((.le (.c 0) p0e1), true), ((.lt (.v 3) (.v 2)), true), ((.le (.c 0) (.v 0)), true), ((.le (.v 0) (.c 4096)), true), ((.le (.c 0) (.v 1)), true), ((.le (.v 1) (.c 4096)), true), ((.le (.c 0) (.v 2)), true), ((.le (.v 2) (.c 1000)), true), ((.le (.c 0) (.v 3)), true), ((.le (.v 3) (.c 1000)), true), ((.le (.c 0) (.v 6)), true), ((.le (.v 6) (.c 1000000000)), true), ((.le (.c 0) (.v 8)), true), ((.le (.v 8) (.c 1152921504606846976)), true), ((.le (.c 0) (.v 10)), true), ((.le (.v 10) (.c 4096)), true), ((.le (.c 0) (.v 11)), true), ((.le (.v 11) (.c 4096)), true), ((.le (.c (-1)) (.v 12)), true), ((.le (.v 12) (.c 4096)), true), ((.le (.c (-1)) (.v 13)), true), ((.le (.v 13) (.c 4096)), true), ((.eq (.v 9) (.c (-1))), true)]
noncomputable def p0x17 : Vl := .dead [((.le (.c 0) p0e1), false), ((.lt (.v 3) (.v 2)), true), ((.le (.c 0) (.v 0)), true), ((.le (.v 0) (.c 4096)), true), ((.le (.c 0) (.v 1)), true), ((.le (.v 1) (.c 4096)), true), ((.le (.c 0) (.v 2)), true), ((.le (.v 2) (.c 1000)), true), ((.le (.c 0) (.v 3)), true), ((.le (.v 3) (.c 1000)), true), ((.le (.c 0) (.v 6)), true), ((.le (.v 6) (.c 1000000000)), true), ((.le (.c 0) (.v 8)), true), ((.le (.v 8) (.c 1152921504606846976)), true), ((.le (.c 0) (.v 10)), true), ((.le (.v 10) (.c 4096)), true), ((.le (.c 0) (.v 11)), true), ((.le (.v 11) (.c 4096)), true), ((.le (.c (-1)) (.v 12)), true), ((.le (.v 12) (.c 4096)), true), ((.le (.c (-1)) (.v 13)), true), ((.le (.v 13) (.c 4096)), true), ((.eq (.v 9) (.c (-1))), true)]
noncomputable def p0x18 : Vl := .out 0 [.a (.v 0) (.v 0) (.v 2) 4, .i (.v 2) (.v 2), .a (.v 1) p0e20 (.v 2) 4, .i (.v 3) (.v 2)] [((.lt (.v 3) (.v 2)), false), ((.le (.c 0) (.v 0)), true), ((.le (.v 0) (.c 4096)), true), ((.le (.c 0) (.v 1)), true), ((.le (.v 1) (.c 4096)), true), ((.le (.c 0) (.v 2)), true), ((.le (.v 2) (.c 1000)), true), ((.le (.c 0) (.v 3)), true), ((.le (.v 3) (.c 1000)), true), ((.le (.c 0) (.v 6)), true), ((.le (.v 6) (.c 1000000000)), true), ((.le (.c 0) (.v 8)), true), ((.le (.v 8) (.c 1152921504606846976)), true), ((.le (.c 0) (.v 10)), true), ((.le (.v 10) (.c 4096)), true), ((.le (.c 0) (.v 11)), true), ((.le (.v 11) (.c 4096)), true), ((.le (.c (-1)) (.v 12)), true), ((.le (.v 12) (.c 4096)), true), ((.le (.c (-1)) (.v 13)), true), ((.le (.v 13) (.c 4096)), true), ((.eq (.v 9) (.c (-1))), true)]
noncomputable def p0ls : List Vl := [p0x0, p0x1, p0x2, p0x3, p0x4, p0x5, p0x6, p0x7, p0x8, p0x9, p0x10, p0x11, p0x12, p0x13, p0x14, p0x15, p0x16, p0x17, p0x18]
theorem p0run : (run (prm4 Try.prog) 900 (ptD (pts4 Try.prog) 0 4)).map (vOf (prm4 Try.prog) ct4 (pts4 Try.prog)) = p0ls := by kernel_rfl
-- 19 ways; terms: p0e0, p0e1, p0e2, p0e3, p0e4, p0e5, p0e6, p0e7, p0e8, p0e9, p0e10, p0e11, p0e12, p0e13, p0e14, p0e15, p0e16, p0e17, p0e18, p0e19, p0e20

noncomputable def p1e0 : SE := .mul (.v 3) (.c 4)
noncomputable def p1e1 : SE := .rd (.v 0) p1e0
noncomputable def p1e2 : SE := .add p1e0 (.c 1)
noncomputable def p1e3 : SE := .rd (.v 0) p1e2
noncomputable def p1e4 : SE := .add (.v 3) (.c 1)
noncomputable def p1e5 : SE := .ap 0 (.i (.v 11) (.i (.v 12) (.i (.v 13) .nil)))
noncomputable def p1e6 : SE := .sub p1e5 (.v 10)
noncomputable def p1e7 : SE := .wrap .i64 p1e6
noncomputable def p1e8 : AE := .tl (.v 1) p1e0 (.b (.c false) (.b (.le p1e7 (.c 21)) (.i (.c 0) (.i (.v 10) .nil))))
noncomputable def p1e9 : SE := .add (.v 10) (.v 11)
noncomputable def p1e10 : SE := .tdiv p1e9 (.c 2)
noncomputable def p1e11 : AE := .tl (.v 1) p1e0 (.b (.c false) (.b (.le p1e7 (.c 21)) (.i p1e10 (.i (.v 10) .nil))))
noncomputable def p1e12 : SE := .add (.v 10) p1e5
noncomputable def p1e13 : SE := .wrap .i64 p1e12
noncomputable def p1e14 : SE := .tdiv p1e13 (.c 2)
noncomputable def p1e15 : AE := .tl (.v 1) p1e0 (.b (.c false) (.b (.le p1e7 (.c 21)) (.i p1e14 (.i (.v 10) .nil))))
noncomputable def p1e16 : SE := .ap 3 (.i (.v 11) (.i (.v 12) (.i (.v 13) (.i (.v 9) .nil))))
noncomputable def p1e17 : SE := .ap 2 (.i (.v 11) (.i (.v 12) (.i (.v 13) (.i (.v 9) .nil))))
noncomputable def p1e18 : SE := .ap 1 (.i (.v 11) (.i (.v 12) (.i (.v 13) (.i (.v 9) .nil))))
noncomputable def p1e19 : SE := .ap 0 (.i p1e18 (.i p1e17 (.i p1e16 .nil)))
noncomputable def p1e20 : SE := .sub p1e19 (.v 9)
noncomputable def p1e21 : SE := .wrap .i64 p1e20
noncomputable def p1e22 : AE := .tl (.v 1) p1e0 (.b (.c false) (.b (.le p1e21 (.c 21)) (.i (.c 0) (.i (.v 9) .nil))))
noncomputable def p1e23 : SE := .ap 6 (.i (.v 11) (.i (.v 12) (.i (.v 13) (.i (.v 9) .nil))))
noncomputable def p1e24 : SE := .ap 5 (.i (.v 11) (.i (.v 12) (.i (.v 13) (.i (.v 9) .nil))))
noncomputable def p1e25 : SE := .ap 4 (.i (.v 11) (.i (.v 12) (.i (.v 13) (.i (.v 9) .nil))))
noncomputable def p1e26 : SE := .ap 0 (.i p1e25 (.i p1e24 (.i p1e23 .nil)))
noncomputable def p1e27 : SE := .sub p1e26 (.v 10)
noncomputable def p1e28 : SE := .wrap .i64 p1e27
noncomputable def p1e29 : AE := .tl (.v 1) p1e0 (.b (.c false) (.b (.le p1e28 (.c 21)) (.i (.c 0) (.i (.v 10) .nil))))
noncomputable def p1e30 : SE := .tdiv p1e3 (.c 2)
noncomputable def p1e31 : AE := .ap 0 (.i (.v 0) (.i (.v 1) (.a (.v 0) .nil)))
noncomputable def p1x0 : Vl := .dead [((.eq p1e1 (.c 5)), true), ((.le p1e3 (.c 1152921504606846976)), true), ((.le (.c 0) p1e3), true), ((.le p1e1 (.c 6)), true), ((.le (.c 0) p1e1), true), ((.lt (.v 3) (.v 2)), true), ((.le (.c 0) (.v 0)), true), ((.le (.v 0) (.c 4096)), true), ((.le (.c 0) (.v 1)), true), ((.le (.v 1) (.c 4096)), true), ((.le (.c 0) (.v 2)), true), ((.le (.v 2) (.c 1000)), true), ((.le (.c 0) (.v 3)), true), ((.le (.v 3) (.c 1000)), true), ((.le (.c 0) (.v 6)), true), ((.le (.v 6) (.c 1000000000)), true), ((.le (.c 0) (.v 8)), true), ((.le (.v 8) (.c 1152921504606846976)), true), ((.le (.c 0) (.v 10)), true), ((.le (.v 10) (.c 4096)), true), ((.le (.c 0) (.v 11)), true), ((.le (.v 11) (.c 4096)), true), ((.le (.c (-1)) (.v 12)), true), ((.le (.v 12) (.c 4096)), true), ((.le (.c (-1)) (.v 13)), true), ((.le (.v 13) (.c 4096)), true), ((.le (.c 0) (.v 9)), true), ((.le (.v 9) (.c 4096)), true)]
noncomputable def p1x1 : Vl := .go 1 [(13, (.v 13)), (12, (.v 12)), (11, (.v 11)), (10, (.v 10)), (9, (.v 9)), (8, p1e3), (7, (.v 7)), (6, (.v 6)), (5, (.v 5)), (4, (.v 4)), (3, p1e4), (2, (.v 2))] [(1, (.v 1)), (0, (.v 0))] [(1, p1e8), (0, (.v 0))] [((.eq p1e1 (.c 0)), true), ((.eq p1e1 (.c 5)), false), ((.le p1e3 (.c 1152921504606846976)), true), ((.le (.c 0) p1e3), true), ((.le p1e1 (.c 6)), true), ((.le (.c 0) p1e1), true), ((.lt (.v 3) (.v 2)), true), ((.le (.c 0) (.v 0)), true), ((.le (.v 0) (.c 4096)), true), ((.le (.c 0) (.v 1)), true), ((.le (.v 1) (.c 4096)), true), ((.le (.c 0) (.v 2)), true), ((.le (.v 2) (.c 1000)), true), ((.le (.c 0) (.v 3)), true), ((.le (.v 3) (.c 1000)), true), ((.le (.c 0) (.v 6)), true), ((.le (.v 6) (.c 1000000000)), true), ((.le (.c 0) (.v 8)), true), ((.le (.v 8) (.c 1152921504606846976)), true), ((.le (.c 0) (.v 10)), true), ((.le (.v 10) (.c 4096)), true), ((.le (.c 0) (.v 11)), true), ((.le (.v 11) (.c 4096)), true), ((.le (.c (-1)) (.v 12)), true), ((.le (.v 12) (.c 4096)), true), ((.le (.c (-1)) (.v 13)), true), ((.le (.v 13) (.c 4096)), true), ((.le (.c 0) (.v 9)), true), ((.le (.v 9) (.c 4096)), true)] (.exit .normal) (.loop (loopB (prm4 Try.prog).P 4 6) :: loopK (prm4 Try.prog).P 4 6)
noncomputable def p1x2 : Vl := .go 1 [(13, (.v 13)), (12, (.v 12)), (11, (.v 11)), (10, (.v 10)), (9, (.v 9)), (8, (.v 8)), (7, (.v 7)), (6, (.v 6)), (5, (.v 5)), (4, (.v 4)), (3, p1e4), (2, (.v 2))] [(1, (.v 1)), (0, (.v 0))] [(1, p1e8), (0, (.v 0))] [((.eq (.v 8) (.c 0)), true), ((.eq p1e1 (.c 1)), true), ((.eq p1e1 (.c 0)), false), ((.eq p1e1 (.c 5)), false), ((.le p1e3 (.c 1152921504606846976)), true), ((.le (.c 0) p1e3), true), ((.le p1e1 (.c 6)), true), ((.le (.c 0) p1e1), true), ((.lt (.v 3) (.v 2)), true), ((.le (.c 0) (.v 0)), true), ((.le (.v 0) (.c 4096)), true), ((.le (.c 0) (.v 1)), true), ((.le (.v 1) (.c 4096)), true), ((.le (.c 0) (.v 2)), true), ((.le (.v 2) (.c 1000)), true), ((.le (.c 0) (.v 3)), true), ((.le (.v 3) (.c 1000)), true), ((.le (.c 0) (.v 6)), true), ((.le (.v 6) (.c 1000000000)), true), ((.le (.c 0) (.v 8)), true), ((.le (.v 8) (.c 1152921504606846976)), true), ((.le (.c 0) (.v 10)), true), ((.le (.v 10) (.c 4096)), true), ((.le (.c 0) (.v 11)), true), ((.le (.v 11) (.c 4096)), true), ((.le (.c (-1)) (.v 12)), true), ((.le (.v 12) (.c 4096)), true), ((.le (.c (-1)) (.v 13)), true), ((.le (.v 13) (.c 4096)), true), ((.le (.c 0) (.v 9)), true), ((.le (.v 9) (.c 4096)), true)] (.exit .normal) (.loop (loopB (prm4 Try.prog).P 4 6) :: loopK (prm4 Try.prog).P 4 6)
noncomputable def p1x3 : Vl := .go 1 [(13, (.v 13)), (12, (.v 12)), (11, (.v 11)), (10, (.v 10)), (9, (.v 9)), (8, (.v 8)), (7, (.v 7)), (6, (.v 6)), (5, (.v 5)), (4, (.v 4)), (3, p1e4), (2, (.v 2))] [(1, (.v 1)), (0, (.v 0))] [(1, p1e8), (0, (.v 0))] [((.eq (.v 8) (.c 0)), false), ((.eq p1e1 (.c 1)), true), ((.eq p1e1 (.c 0)), false), ((.eq p1e1 (.c 5)), false), ((.le p1e3 (.c 1152921504606846976)), true), ((.le (.c 0) p1e3), true), ((.le p1e1 (.c 6)), true), ((.le (.c 0) p1e1), true), ((.lt (.v 3) (.v 2)), true), ((.le (.c 0) (.v 0)), true), ((.le (.v 0) (.c 4096)), true), ((.le (.c 0) (.v 1)), true), ((.le (.v 1) (.c 4096)), true), ((.le (.c 0) (.v 2)), true), ((.le (.v 2) (.c 1000)), true), ((.le (.c 0) (.v 3)), true), ((.le (.v 3) (.c 1000)), true), ((.le (.c 0) (.v 6)), true), ((.le (.v 6) (.c 1000000000)), true), ((.le (.c 0) (.v 8)), true), ((.le (.v 8) (.c 1152921504606846976)), true), ((.le (.c 0) (.v 10)), true), ((.le (.v 10) (.c 4096)), true), ((.le (.c 0) (.v 11)), true), ((.le (.v 11) (.c 4096)), true), ((.le (.c (-1)) (.v 12)), true), ((.le (.v 12) (.c 4096)), true), ((.le (.c (-1)) (.v 13)), true), ((.le (.v 13) (.c 4096)), true), ((.le (.c 0) (.v 9)), true), ((.le (.v 9) (.c 4096)), true)] (.exit .normal) (.loop (loopB (prm4 Try.prog).P 4 6) :: loopK (prm4 Try.prog).P 4 6)
noncomputable def p1x4 : Vl := .go 1 [(13, (.v 13)), (12, (.v 12)), (11, (.v 11)), (10, (.v 10)), (9, p1e10), (8, p1e3), (7, (.v 7)), (6, (.v 6)), (5, (.v 5)), (4, (.v 4)), (3, p1e4), (2, (.v 2))] [(1, (.v 1)), (0, (.v 0))] [(1, p1e11), (0, (.v 0))] [((.v 1), true), ((.eq p1e1 (.c 2)), true), ((.eq p1e1 (.c 1)), false), ((.eq p1e1 (.c 0)), false), ((.eq p1e1 (.c 5)), false), ((.le p1e3 (.c 1152921504606846976)), true), ((.le (.c 0) p1e3), true), ((.le p1e1 (.c 6)), true), ((.le (.c 0) p1e1), true), ((.lt (.v 3) (.v 2)), true), ((.le (.c 0) (.v 0)), true), ((.le (.v 0) (.c 4096)), true), ((.le (.c 0) (.v 1)), true), ((.le (.v 1) (.c 4096)), true), ((.le (.c 0) (.v 2)), true), ((.le (.v 2) (.c 1000)), true), ((.le (.c 0) (.v 3)), true), ((.le (.v 3) (.c 1000)), true), ((.le (.c 0) (.v 6)), true), ((.le (.v 6) (.c 1000000000)), true), ((.le (.c 0) (.v 8)), true), ((.le (.v 8) (.c 1152921504606846976)), true), ((.le (.c 0) (.v 10)), true), ((.le (.v 10) (.c 4096)), true), ((.le (.c 0) (.v 11)), true), ((.le (.v 11) (.c 4096)), true), ((.le (.c (-1)) (.v 12)), true), ((.le (.v 12) (.c 4096)), true), ((.le (.c (-1)) (.v 13)), true), ((.le (.v 13) (.c 4096)), true), ((.le (.c 0) (.v 9)), true), ((.le (.v 9) (.c 4096)), true)] (.exit .normal) (.loop (loopB (prm4 Try.prog).P 4 6) :: loopK (prm4 Try.prog).P 4 6)
noncomputable def p1x5 : Vl := .go 1 [(13, (.v 13)), (12, (.v 12)), (11, (.v 11)), (10, (.v 10)), (9, p1e14), (8, p1e3), (7, (.v 7)), (6, (.v 6)), (5, (.v 5)), (4, (.v 4)), (3, p1e4), (2, (.v 2))] [(1, (.v 1)), (0, (.v 0))] [(1, p1e15), (0, (.v 0))] [((.v 1), false), ((.eq p1e1 (.c 2)), true), ((.eq p1e1 (.c 1)), false), ((.eq p1e1 (.c 0)), false), ((.eq p1e1 (.c 5)), false), ((.le p1e3 (.c 1152921504606846976)), true), ((.le (.c 0) p1e3), true), ((.le p1e1 (.c 6)), true), ((.le (.c 0) p1e1), true), ((.lt (.v 3) (.v 2)), true), ((.le (.c 0) (.v 0)), true), ((.le (.v 0) (.c 4096)), true), ((.le (.c 0) (.v 1)), true), ((.le (.v 1) (.c 4096)), true), ((.le (.c 0) (.v 2)), true), ((.le (.v 2) (.c 1000)), true), ((.le (.c 0) (.v 3)), true), ((.le (.v 3) (.c 1000)), true), ((.le (.c 0) (.v 6)), true), ((.le (.v 6) (.c 1000000000)), true), ((.le (.c 0) (.v 8)), true), ((.le (.v 8) (.c 1152921504606846976)), true), ((.le (.c 0) (.v 10)), true), ((.le (.v 10) (.c 4096)), true), ((.le (.c 0) (.v 11)), true), ((.le (.v 11) (.c 4096)), true), ((.le (.c (-1)) (.v 12)), true), ((.le (.v 12) (.c 4096)), true), ((.le (.c (-1)) (.v 13)), true), ((.le (.v 13) (.c 4096)), true), ((.le (.c 0) (.v 9)), true), ((.le (.v 9) (.c 4096)), true)] (.exit .normal) (.loop (loopB (prm4 Try.prog).P 4 6) :: loopK (prm4 Try.prog).P 4 6)
noncomputable def p1x6 : Vl := .go 0 [(13, p1e16), (12, p1e17), (11, p1e18), (10, (.v 9)), (9, (.c (-1))), (8, (.v 8)), (7, (.v 7)), (6, (.v 6)), (5, (.v 5)), (4, (.v 4)), (3, p1e4), (2, (.v 2))] [(1, (.c false)), (0, (.v 0))] [(1, p1e22), (0, (.v 0))] [((.le (.c 0) p1e18), true), ((.le p1e18 (.c 4096)), true), ((.le (.c (-1)) p1e17), true), ((.le p1e17 (.c 4096)), true), ((.le (.c (-1)) p1e16), true), ((.le p1e16 (.c 4096)), true), ((.eq p1e1 (.c 3)), true), ((.eq p1e1 (.c 2)), false), ((.eq p1e1 (.c 1)), false), ((.eq p1e1 (.c 0)), false), ((.eq p1e1 (.c 5)), false), ((.le p1e3 (.c 1152921504606846976)), true), ((.le (.c 0) p1e3), true), ((.le p1e1 (.c 6)), true), ((.le (.c 0) p1e1), true), ((.lt (.v 3) (.v 2)), true), ((.le (.c 0) (.v 0)), true), ((.le (.v 0) (.c 4096)), true), ((.le (.c 0) (.v 1)), true), ((.le (.v 1) (.c 4096)), true), ((.le (.c 0) (.v 2)), true), ((.le (.v 2) (.c 1000)), true), ((.le (.c 0) (.v 3)), true), ((.le (.v 3) (.c 1000)), true), ((.le (.c 0) (.v 6)), true), ((.le (.v 6) (.c 1000000000)), true), ((.le (.c 0) (.v 8)), true), ((.le (.v 8) (.c 1152921504606846976)), true), ((.le (.c 0) (.v 10)), true), ((.le (.v 10) (.c 4096)), true), ((.le (.c 0) (.v 11)), true), ((.le (.v 11) (.c 4096)), true), ((.le (.c (-1)) (.v 12)), true), ((.le (.v 12) (.c 4096)), true), ((.le (.c (-1)) (.v 13)), true), ((.le (.v 13) (.c 4096)), true), ((.le (.c 0) (.v 9)), true), ((.le (.v 9) (.c 4096)), true)] (.exit .normal) (.loop (loopB (prm4 Try.prog).P 4 6) :: loopK (prm4 Try.prog).P 4 6)
noncomputable def p1x7 : Vl := .go 0 [(13, p1e23), (12, p1e24), (11, p1e25), (10, (.v 10)), (9, (.c (-1))), (8, (.v 8)), (7, (.v 7)), (6, (.v 6)), (5, (.v 5)), (4, (.v 4)), (3, p1e4), (2, (.v 2))] [(1, (.c true)), (0, (.v 0))] [(1, p1e29), (0, (.v 0))] [((.le (.c 0) p1e25), true), ((.le p1e25 (.c 4096)), true), ((.le (.c (-1)) p1e24), true), ((.le p1e24 (.c 4096)), true), ((.le (.c (-1)) p1e23), true), ((.le p1e23 (.c 4096)), true), ((.eq p1e1 (.c 4)), true), ((.eq p1e1 (.c 3)), false), ((.eq p1e1 (.c 2)), false), ((.eq p1e1 (.c 1)), false), ((.eq p1e1 (.c 0)), false), ((.eq p1e1 (.c 5)), false), ((.le p1e3 (.c 1152921504606846976)), true), ((.le (.c 0) p1e3), true), ((.le p1e1 (.c 6)), true), ((.le (.c 0) p1e1), true), ((.lt (.v 3) (.v 2)), true), ((.le (.c 0) (.v 0)), true), ((.le (.v 0) (.c 4096)), true), ((.le (.c 0) (.v 1)), true), ((.le (.v 1) (.c 4096)), true), ((.le (.c 0) (.v 2)), true), ((.le (.v 2) (.c 1000)), true), ((.le (.c 0) (.v 3)), true), ((.le (.v 3) (.c 1000)), true), ((.le (.c 0) (.v 6)), true), ((.le (.v 6) (.c 1000000000)), true), ((.le (.c 0) (.v 8)), true), ((.le (.v 8) (.c 1152921504606846976)), true), ((.le (.c 0) (.v 10)), true), ((.le (.v 10) (.c 4096)), true), ((.le (.c 0) (.v 11)), true), ((.le (.v 11) (.c 4096)), true), ((.le (.c (-1)) (.v 12)), true), ((.le (.v 12) (.c 4096)), true), ((.le (.c (-1)) (.v 13)), true), ((.le (.v 13) (.c 4096)), true), ((.le (.c 0) (.v 9)), true), ((.le (.v 9) (.c 4096)), true)] (.exit .normal) (.loop (loopB (prm4 Try.prog).P 4 6) :: loopK (prm4 Try.prog).P 4 6)
noncomputable def p1x8 : Vl := .dead [((.v 0), true), ((.le p1e3 (.c 256000000)), true), ((.le (.c 1000000) p1e3), true), ((.eq p1e1 (.c 6)), true), ((.eq p1e1 (.c 4)), false), ((.eq p1e1 (.c 3)), false), ((.eq p1e1 (.c 2)), false), ((.eq p1e1 (.c 1)), false), ((.eq p1e1 (.c 0)), false), ((.eq p1e1 (.c 5)), false), ((.le p1e3 (.c 1152921504606846976)), true), ((.le (.c 0) p1e3), true), ((.le p1e1 (.c 6)), true), ((.le (.c 0) p1e1), true), ((.lt (.v 3) (.v 2)), true), ((.le (.c 0) (.v 0)), true), ((.le (.v 0) (.c 4096)), true), ((.le (.c 0) (.v 1)), true), ((.le (.v 1) (.c 4096)), true), ((.le (.c 0) (.v 2)), true), ((.le (.v 2) (.c 1000)), true), ((.le (.c 0) (.v 3)), true), ((.le (.v 3) (.c 1000)), true), ((.le (.c 0) (.v 6)), true), ((.le (.v 6) (.c 1000000000)), true), ((.le (.c 0) (.v 8)), true), ((.le (.v 8) (.c 1152921504606846976)), true), ((.le (.c 0) (.v 10)), true), ((.le (.v 10) (.c 4096)), true), ((.le (.c 0) (.v 11)), true), ((.le (.v 11) (.c 4096)), true), ((.le (.c (-1)) (.v 12)), true), ((.le (.v 12) (.c 4096)), true), ((.le (.c (-1)) (.v 13)), true), ((.le (.v 13) (.c 4096)), true), ((.le (.c 0) (.v 9)), true), ((.le (.v 9) (.c 4096)), true)]
noncomputable def p1x9 : Vl := .go 1 [(13, (.v 13)), (12, (.v 12)), (11, (.v 11)), (10, (.v 10)), (9, (.v 9)), (8, (.v 8)), (7, p1e30), (6, p1e3), (5, p1e3), (4, p1e3), (3, p1e4), (2, (.v 2))] [(1, (.v 1)), (0, (.c true))] [(1, p1e8), (0, (.v 0))] [((.v 0), false), ((.le p1e3 (.c 256000000)), true), ((.le (.c 1000000) p1e3), true), ((.eq p1e1 (.c 6)), true), ((.eq p1e1 (.c 4)), false), ((.eq p1e1 (.c 3)), false), ((.eq p1e1 (.c 2)), false), ((.eq p1e1 (.c 1)), false), ((.eq p1e1 (.c 0)), false), ((.eq p1e1 (.c 5)), false), ((.le p1e3 (.c 1152921504606846976)), true), ((.le (.c 0) p1e3), true), ((.le p1e1 (.c 6)), true), ((.le (.c 0) p1e1), true), ((.lt (.v 3) (.v 2)), true), ((.le (.c 0) (.v 0)), true), ((.le (.v 0) (.c 4096)), true), ((.le (.c 0) (.v 1)), true), ((.le (.v 1) (.c 4096)), true), ((.le (.c 0) (.v 2)), true), ((.le (.v 2) (.c 1000)), true), ((.le (.c 0) (.v 3)), true), ((.le (.v 3) (.c 1000)), true), ((.le (.c 0) (.v 6)), true), ((.le (.v 6) (.c 1000000000)), true), ((.le (.c 0) (.v 8)), true), ((.le (.v 8) (.c 1152921504606846976)), true), ((.le (.c 0) (.v 10)), true), ((.le (.v 10) (.c 4096)), true), ((.le (.c 0) (.v 11)), true), ((.le (.v 11) (.c 4096)), true), ((.le (.c (-1)) (.v 12)), true), ((.le (.v 12) (.c 4096)), true), ((.le (.c (-1)) (.v 13)), true), ((.le (.v 13) (.c 4096)), true), ((.le (.c 0) (.v 9)), true), ((.le (.v 9) (.c 4096)), true)] (.exit .normal) (.loop (loopB (prm4 Try.prog).P 4 6) :: loopK (prm4 Try.prog).P 4 6)
noncomputable def p1x10 : Vl := .dead [((.le p1e3 (.c 256000000)), false), ((.le (.c 1000000) p1e3), true), ((.eq p1e1 (.c 6)), true), ((.eq p1e1 (.c 4)), false), ((.eq p1e1 (.c 3)), false), ((.eq p1e1 (.c 2)), false), ((.eq p1e1 (.c 1)), false), ((.eq p1e1 (.c 0)), false), ((.eq p1e1 (.c 5)), false), ((.le p1e3 (.c 1152921504606846976)), true), ((.le (.c 0) p1e3), true), ((.le p1e1 (.c 6)), true), ((.le (.c 0) p1e1), true), ((.lt (.v 3) (.v 2)), true), ((.le (.c 0) (.v 0)), true), ((.le (.v 0) (.c 4096)), true), ((.le (.c 0) (.v 1)), true), ((.le (.v 1) (.c 4096)), true), ((.le (.c 0) (.v 2)), true), ((.le (.v 2) (.c 1000)), true), ((.le (.c 0) (.v 3)), true), ((.le (.v 3) (.c 1000)), true), ((.le (.c 0) (.v 6)), true), ((.le (.v 6) (.c 1000000000)), true), ((.le (.c 0) (.v 8)), true), ((.le (.v 8) (.c 1152921504606846976)), true), ((.le (.c 0) (.v 10)), true), ((.le (.v 10) (.c 4096)), true), ((.le (.c 0) (.v 11)), true), ((.le (.v 11) (.c 4096)), true), ((.le (.c (-1)) (.v 12)), true), ((.le (.v 12) (.c 4096)), true), ((.le (.c (-1)) (.v 13)), true), ((.le (.v 13) (.c 4096)), true), ((.le (.c 0) (.v 9)), true), ((.le (.v 9) (.c 4096)), true)]
noncomputable def p1x11 : Vl := .dead [((.le (.c 1000000) p1e3), false), ((.eq p1e1 (.c 6)), true), ((.eq p1e1 (.c 4)), false), ((.eq p1e1 (.c 3)), false), ((.eq p1e1 (.c 2)), false), ((.eq p1e1 (.c 1)), false), ((.eq p1e1 (.c 0)), false), ((.eq p1e1 (.c 5)), false), ((.le p1e3 (.c 1152921504606846976)), true), ((.le (.c 0) p1e3), true), ((.le p1e1 (.c 6)), true), ((.le (.c 0) p1e1), true), ((.lt (.v 3) (.v 2)), true), ((.le (.c 0) (.v 0)), true), ((.le (.v 0) (.c 4096)), true), ((.le (.c 0) (.v 1)), true), ((.le (.v 1) (.c 4096)), true), ((.le (.c 0) (.v 2)), true), ((.le (.v 2) (.c 1000)), true), ((.le (.c 0) (.v 3)), true), ((.le (.v 3) (.c 1000)), true), ((.le (.c 0) (.v 6)), true), ((.le (.v 6) (.c 1000000000)), true), ((.le (.c 0) (.v 8)), true), ((.le (.v 8) (.c 1152921504606846976)), true), ((.le (.c 0) (.v 10)), true), ((.le (.v 10) (.c 4096)), true), ((.le (.c 0) (.v 11)), true), ((.le (.v 11) (.c 4096)), true), ((.le (.c (-1)) (.v 12)), true), ((.le (.v 12) (.c 4096)), true), ((.le (.c (-1)) (.v 13)), true), ((.le (.v 13) (.c 4096)), true), ((.le (.c 0) (.v 9)), true), ((.le (.v 9) (.c 4096)), true)]
noncomputable def p1x12 : Vl := .go 1 [(13, (.v 13)), (12, (.v 12)), (11, (.v 11)), (10, (.v 10)), (9, (.v 9)), (8, (.v 8)), (7, (.v 7)), (6, (.v 6)), (5, (.v 5)), (4, (.v 4)), (3, p1e4), (2, (.v 2))] [(1, (.v 1)), (0, (.v 0))] [(1, p1e8), (0, (.v 0))] [((.eq p1e1 (.c 6)), false), ((.eq p1e1 (.c 4)), false), ((.eq p1e1 (.c 3)), false), ((.eq p1e1 (.c 2)), false), ((.eq p1e1 (.c 1)), false), ((.eq p1e1 (.c 0)), false), ((.eq p1e1 (.c 5)), false), ((.le p1e3 (.c 1152921504606846976)), true), ((.le (.c 0) p1e3), true), ((.le p1e1 (.c 6)), true), ((.le (.c 0) p1e1), true), ((.lt (.v 3) (.v 2)), true), ((.le (.c 0) (.v 0)), true), ((.le (.v 0) (.c 4096)), true), ((.le (.c 0) (.v 1)), true), ((.le (.v 1) (.c 4096)), true), ((.le (.c 0) (.v 2)), true), ((.le (.v 2) (.c 1000)), true), ((.le (.c 0) (.v 3)), true), ((.le (.v 3) (.c 1000)), true), ((.le (.c 0) (.v 6)), true), ((.le (.v 6) (.c 1000000000)), true), ((.le (.c 0) (.v 8)), true), ((.le (.v 8) (.c 1152921504606846976)), true), ((.le (.c 0) (.v 10)), true), ((.le (.v 10) (.c 4096)), true), ((.le (.c 0) (.v 11)), true), ((.le (.v 11) (.c 4096)), true), ((.le (.c (-1)) (.v 12)), true), ((.le (.v 12) (.c 4096)), true), ((.le (.c (-1)) (.v 13)), true), ((.le (.v 13) (.c 4096)), true), ((.le (.c 0) (.v 9)), true), ((.le (.v 9) (.c 4096)), true)] (.exit .normal) (.loop (loopB (prm4 Try.prog).P 4 6) :: loopK (prm4 Try.prog).P 4 6)
noncomputable def p1x13 : Vl := .dead [((.le p1e3 (.c 1152921504606846976)), false), ((.le (.c 0) p1e3), true), ((.le p1e1 (.c 6)), true), ((.le (.c 0) p1e1), true), ((.lt (.v 3) (.v 2)), true), ((.le (.c 0) (.v 0)), true), ((.le (.v 0) (.c 4096)), true), ((.le (.c 0) (.v 1)), true), ((.le (.v 1) (.c 4096)), true), ((.le (.c 0) (.v 2)), true), ((.le (.v 2) (.c 1000)), true), ((.le (.c 0) (.v 3)), true), ((.le (.v 3) (.c 1000)), true), ((.le (.c 0) (.v 6)), true), ((.le (.v 6) (.c 1000000000)), true), ((.le (.c 0) (.v 8)), true), ((.le (.v 8) (.c 1152921504606846976)), true), ((.le (.c 0) (.v 10)), true), ((.le (.v 10) (.c 4096)), true), ((.le (.c 0) (.v 11)), true), ((.le (.v 11) (.c 4096)), true), ((.le (.c (-1)) (.v 12)), true), ((.le (.v 12) (.c 4096)), true), ((.le (.c (-1)) (.v 13)), true), ((.le (.v 13) (.c 4096)), true), ((.le (.c 0) (.v 9)), true), ((.le (.v 9) (.c 4096)), true)]
noncomputable def p1x14 : Vl := .dead [((.le (.c 0) p1e3), false), ((.le p1e1 (.c 6)), true), ((.le (.c 0) p1e1), true), ((.lt (.v 3) (.v 2)), true), ((.le (.c 0) (.v 0)), true), ((.le (.v 0) (.c 4096)), true), ((.le (.c 0) (.v 1)), true), ((.le (.v 1) (.c 4096)), true), ((.le (.c 0) (.v 2)), true), ((.le (.v 2) (.c 1000)), true), ((.le (.c 0) (.v 3)), true), ((.le (.v 3) (.c 1000)), true), ((.le (.c 0) (.v 6)), true), ((.le (.v 6) (.c 1000000000)), true), ((.le (.c 0) (.v 8)), true), ((.le (.v 8) (.c 1152921504606846976)), true), ((.le (.c 0) (.v 10)), true), ((.le (.v 10) (.c 4096)), true), ((.le (.c 0) (.v 11)), true), ((.le (.v 11) (.c 4096)), true), ((.le (.c (-1)) (.v 12)), true), ((.le (.v 12) (.c 4096)), true), ((.le (.c (-1)) (.v 13)), true), ((.le (.v 13) (.c 4096)), true), ((.le (.c 0) (.v 9)), true), ((.le (.v 9) (.c 4096)), true)]
noncomputable def p1x15 : Vl := .dead [((.le p1e1 (.c 6)), false), ((.le (.c 0) p1e1), true), ((.lt (.v 3) (.v 2)), true), ((.le (.c 0) (.v 0)), true), ((.le (.v 0) (.c 4096)), true), ((.le (.c 0) (.v 1)), true), ((.le (.v 1) (.c 4096)), true), ((.le (.c 0) (.v 2)), true), ((.le (.v 2) (.c 1000)), true), ((.le (.c 0) (.v 3)), true), ((.le (.v 3) (.c 1000)), true), ((.le (.c 0) (.v 6)), true), ((.le (.v 6) (.c 1000000000)), true), ((.le (.c 0) (.v 8)), true), ((.le (.v 8) (.c 1152921504606846976)), true), ((.le (.c 0) (.v 10)), true), ((.le (.v 10) (.c 4096)), true), ((.le (.c 0) (.v 11)), true), ((.le (.v 11) (.c 4096)), true), ((.le (.c (-1)) (.v 12)), true), ((.le (.v 12) (.c 4096)), true), ((.le (.c (-1)) (.v 13)), true), ((.le (.v 13) (.c 4096)), true), ((.le (.c 0) (.v 9)), true), ((.le (.v 9) (.c 4096)), true)]
noncomputable def p1x16 : Vl := .dead [((.le (.c 0) p1e1), false), ((.lt (.v 3) (.v 2)), true), ((.le (.c 0) (.v 0)), true), ((.le (.v 0) (.c 4096)), true), ((.le (.c 0) (.v 1)), true), ((.le (.v 1) (.c 4096)), true), ((.le (.c 0) (.v 2)), true), ((.le (.v 2) (.c 1000)), true), ((.le (.c 0) (.v 3)), true), ((.le (.v 3) (.c 1000)), true), ((.le (.c 0) (.v 6)), true), ((.le (.v 6) (.c 1000000000)), true), ((.le (.c 0) (.v 8)), true), ((.le (.v 8) (.c 1152921504606846976)), true), ((.le (.c 0) (.v 10)), true), ((.le (.v 10) (.c 4096)), true), ((.le (.c 0) (.v 11)), true), ((.le (.v 11) (.c 4096)), true), ((.le (.c (-1)) (.v 12)), true), ((.le (.v 12) (.c 4096)), true), ((.le (.c (-1)) (.v 13)), true), ((.le (.v 13) (.c 4096)), true), ((.le (.c 0) (.v 9)), true), ((.le (.v 9) (.c 4096)), true)]
noncomputable def p1x17 : Vl := .out 0 [.a (.v 0) (.v 0) (.v 2) 4, .i (.v 2) (.v 2), .a (.v 1) p1e31 (.v 2) 4, .i (.v 3) (.v 2)] [((.lt (.v 3) (.v 2)), false), ((.le (.c 0) (.v 0)), true), ((.le (.v 0) (.c 4096)), true), ((.le (.c 0) (.v 1)), true), ((.le (.v 1) (.c 4096)), true), ((.le (.c 0) (.v 2)), true), ((.le (.v 2) (.c 1000)), true), ((.le (.c 0) (.v 3)), true), ((.le (.v 3) (.c 1000)), true), ((.le (.c 0) (.v 6)), true), ((.le (.v 6) (.c 1000000000)), true), ((.le (.c 0) (.v 8)), true), ((.le (.v 8) (.c 1152921504606846976)), true), ((.le (.c 0) (.v 10)), true), ((.le (.v 10) (.c 4096)), true), ((.le (.c 0) (.v 11)), true), ((.le (.v 11) (.c 4096)), true), ((.le (.c (-1)) (.v 12)), true), ((.le (.v 12) (.c 4096)), true), ((.le (.c (-1)) (.v 13)), true), ((.le (.v 13) (.c 4096)), true), ((.le (.c 0) (.v 9)), true), ((.le (.v 9) (.c 4096)), true)]
noncomputable def p1ls : List Vl := [p1x0, p1x1, p1x2, p1x3, p1x4, p1x5, p1x6, p1x7, p1x8, p1x9, p1x10, p1x11, p1x12, p1x13, p1x14, p1x15, p1x16, p1x17]
theorem p1run : (run (prm4 Try.prog) 900 (ptD (pts4 Try.prog) 1 4)).map (vOf (prm4 Try.prog) ct4 (pts4 Try.prog)) = p1ls := by kernel_rfl
-- 18 ways; terms: p1e0, p1e1, p1e2, p1e3, p1e4, p1e5, p1e6, p1e7, p1e8, p1e9, p1e10, p1e11, p1e12, p1e13, p1e14, p1e15, p1e16, p1e17, p1e18, p1e19, p1e20, p1e21, p1e22, p1e23, p1e24, p1e25, p1e26, p1e27, p1e28, p1e29, p1e30, p1e31


theorem prm4_ok (E : Env) (hE : E.fn = fns) : PrmOk E (prm4 Try.prog) where
  ct := by
    intro c hc
    simp only [prm4, List.mem_cons, List.not_mem_nil, or_false] at hc
    rw [hE]
    rcases hc with rfl | rfl | rfl
    · exact ct35_ok
    · exact ct54_ok
    · exact ct55_ok
  mix := by kernel_rfl
  okf := okf_call
  body := okf_body
  mts := by
    intro x hx
    simp only [prm4, List.mem_cons, List.not_mem_nil, or_false] at hx
    rcases hx with rfl | rfl
    · exact fun a w => method_chk (P := Try.prog) (t := 79) (f := 54) (name := "OnAcked") (by kernel_rfl) _ a w
    · exact fun a w => method_chk (P := Try.prog) (t := 79) (f := 55) (name := "OnLost") (by kernel_rfl) _ a w
  dfr := by
    intro f hf a w
    simp only [prm4, List.mem_cons, List.not_mem_nil, or_false] at hf
    subst hf
    exact catch_idle a w
  dfk := by
    intro f hf
    simp only [prm4, List.mem_cons, List.not_mem_nil, or_false] at hf
    subst hf; decide
def mS (E : Env) : MS := ⟨E.b 0, E.i 6, E.i 8, E.i 9, E.i 10, E.i 11, E.i 12, E.i 13, E.b 1⟩
structure I4 (E0 E : Env) (i : Nat) : Prop where
  h0 : E.i 0 = E0.i 0
  h1 : E.i 1 = E0.i 1
  h2 : E.i 2 = E0.i 2
  h3 : E.i 3 = i
  le : (i : Int) ≤ E0.i 2
  ha : E.a 0 = E0.a 0
  st : mS E = stAt (E0.i 0) (E0.i 1) (E0.a 0) i
  row : ∀ j, j < i * 4 → E.a 1 j = outA (E0.i 0) (E0.i 1) (E0.a 0) j
theorem fin4 {E0 E E' : Env} {i : Nat} (hI : I4 E0 E i) (hlt : (i : Int) < E0.i 2) {k t : Int} (hk : E0.a 0 (4 * i) = k) (ht : E0.a 0 (4 * i + 1) = t)
    (h0 : E'.i 0 = E.i 0) (h1 : E'.i 1 = E.i 1) (h2 : E'.i 2 = E.i 2) (h3 : E'.i 3 = E.i 3 + 1) (ha : E'.a 0 = E.a 0) (hS : mS E' = mStep (mS E) k t) {e : SE} {l : SL}
    (he : (e.den E).toNat = i * 4) (harr : E'.a 1 = (AE.tl (.v 1) e l).den E) (hc : ∀ c, c < 4 → l.nth E c = mOut (mS E) (mStep (mS E) k t) k t c) : I4 E0 E' (i + 1) where
  h0 := h0.trans hI.h0
  h1 := h1.trans hI.h1
  h2 := h2.trans hI.h2
  h3 := by rw [h3, hI.h3]; omega
  le := by omega
  ha := ha.trans hI.ha
  st := by rw [hS, hI.st]; subst hk; subst ht; rfl
  row j hj := by
    rw [harr]
    simp only [AE.den, he]
    split
    · rename_i h; exact hI.row j h
    · rename_i h
      obtain ⟨c, rfl⟩ : ∃ c, j = i * 4 + c := ⟨j - i * 4, by omega⟩
      have hc' : c < 4 := by omega
      have e1 : (i * 4 + c) / 4 = i := by omega
      have e2 : (i * 4 + c) % 4 = c := by omega
      rw [Nat.add_sub_cancel_left, hc c hc']
      unfold outA
      rw [e1, e2, ← hI.st, hk, ht]
      show _ = mOut (mS E) (mStep (stAt (E0.i 0) (E0.i 1) (E0.a 0) i) (E0.a 0 (4 * i)) (E0.a 0 (4 * i + 1))) k t c
      rw [← hI.st, hk, ht]
theorem g0_den {E : Env} (hE : E.fn = fns) : (SB.ap 0 (.i (.v 0) (.i (.v 1) (.a (.v 0) (.i (.v 2) .nil))))).den E = true ↔ scrOk (E.i 0) (E.i 1) (E.a 0) (E.i 2).toNat := by
  show E.fn.g 0 [.i (E.i 0), .i (E.i 1), .a ((AE.v 0).den E), .i (E.i 2)] = true ↔ _
  rw [hE]
  exact @decide_eq_true_iff _ (Classical.propDecidable _)
theorem pre4 {E0 : Env} (hE : E0.fn = fns) (hF : Facts E0 ct4.pre) : (0 ≤ E0.i 0 ∧ E0.i 0 ≤ 4096) ∧ (0 ≤ E0.i 1 ∧ E0.i 1 ≤ 4096) ∧ (0 ≤ E0.i 2 ∧ E0.i 2 ≤ 1000) ∧ scrOk (E0.i 0) (E0.i 1) (E0.a 0) (E0.i 2).toNat := by
  simp only [ct4, bd, List.cons_append, List.nil_append, facts_cons, facts_nil, le_t, d_c, d_v, and_true, g0_den hE] at hF
  exact ⟨⟨hF.1, hF.2.1⟩, ⟨hF.2.2.1, hF.2.2.2.1⟩, ⟨hF.2.2.2.2.1, hF.2.2.2.2.2.1⟩, hF.2.2.2.2.2.2⟩
theorem done_eq {E : Env} {t m : SE} {a b c n : Int} (ht : t.den E = mxL a b c) (hm : m.den E = n) (ha : 0 ≤ a ∧ a ≤ 4096) (hb : -1 ≤ b ∧ b ≤ 4096) (hc : -1 ≤ c ∧ c ≤ 4096) (hn : 0 ≤ n ∧ n ≤ 4096) :
    (SB.le (.wrap .i64 (.sub t m)) (.c 21)).den E = decide (mxL a b c - n ≤ 21) := by
  have := mxL_ok ha hb hc
  simp only [SB.den, d_wrap, d_sub, d_c, ht, hm]
  rw [w64 (by omega)]
theorem ct4_ok : CtOk Try.prog fns ct4 := by
  refine ct_of_pts (p := prm4 Try.prog) (pts := pts4 Try.prog) (n := 900) (c0 := enterD (prm4 Try.prog) ct4) (fun E hE => prm4_ok E hE) rfl (by intro q hq; cases hq) Try.func4 (by kernel_rfl) ?_ (fun E0 k E => ∃ i, I4 E0 E i ∧ (k = 0 → E.i 9 = -1) ∧ (k = 1 → E.i 9 ≠ -1)) (fun E0 _ E => (E0.i 2 - E.i 3).toNat) pals (by kernel_rfl) ?_ ?_
  · intro t ht
    simp only [pts4, List.mem_cons, List.not_mem_nil, or_false] at ht
    rcases ht with rfl | rfl
    · exact ⟨by kernel_rfl, by decide⟩
    · exact ⟨by kernel_rfl, by decide⟩
  · intro E hE hF
    obtain ⟨b0, b1, b2, hst⟩ := pre4 hE hF
    refine ⟨fun a ha => ?_, fun x hx => ?_⟩
    · obtain rfl := Option.some.inj ha; intro q hq; cases hq
    · unfold pals at hx
      simp only [List.mem_cons, List.not_mem_nil, or_false] at hx
      subst hx
      intro hf
      exact ⟨⟨_, rfl, .inl ⟨rfl, rfl⟩⟩, fun o => ⟨⟨0, ⟨rfl, rfl, rfl, rfl, b2.1, rfl, rfl, fun j hj => by omega⟩, fun _ => rfl, fun h => by cases h⟩, fun b hb => by cases hb⟩⟩
  · intro k t ht
    have hk : k = 0 ∨ k = 1 := by
      have := (List.getElem?_eq_some_iff.1 ht).1
      simp [pts4] at this; omega
    rcases hk with rfl | rfl
    · refine ⟨p0ls, by rw [← ptD_some ht ct4.g]; exact p0run, fun E0 E hE0 hE hF0 ⟨i, hI, hfa, hfb⟩ => ?_⟩
      obtain ⟨b0, b1, b2, hst⟩ := pre4 hE0 hF0
      have hle := hI.le
      have hok := stAt_ok b0 b1 hst i (by omega)
      have hsi := hI.st
      rw [← hsi] at hok
      have hnx := next_ok hok
      obtain ⟨⟨k1, k2, k3, k4⟩, k5, k6, k7⟩ := hok
      change 0 ≤ E.i 10 ∧ E.i 10 ≤ 4096 at k1
      change 0 ≤ E.i 11 ∧ E.i 11 ≤ 4096 at k2
      change -1 ≤ E.i 12 ∧ E.i 12 ≤ 4096 at k3
      change -1 ≤ E.i 13 ∧ E.i 13 ≤ 4096 at k4
      change E.i 9 = -1 ∨ 0 ≤ E.i 9 ∧ E.i 9 ≤ 4096 at k5
      change 0 ≤ E.i 8 ∧ E.i 8 ≤ 1152921504606846976 at k6
      change 0 ≤ E.i 6 ∧ E.i 6 ≤ 1000000000 at k7
      have h3 := hI.h3; have h0 := hI.h0; have h1 := hI.h1; have h2 := hI.h2
      have hf9 := hfa rfl
      have he0 : (p0e0.den E).toNat = i * 4 := by simp only [p0e0, d_mul, d_v, d_c, h3]; omega
      have he2 : (p0e2.den E).toNat = 4 * i + 1 := by simp only [p0e2, p0e0, d_add, d_mul, d_v, d_c, h3]; omega
      have hk1 : E0.a 0 (4 * i) = p0e1.den E := by simp only [p0e1, d_rd, d_av, he0, hI.ha, Nat.mul_comm]
      have ht1 : E0.a 0 (4 * i + 1) = p0e3.den E := by simp only [p0e3, d_rd, d_av, he2, hI.ha]
      have hstep : (E.i 3 < E.i 2) → okStep (mS E) (p0e1.den E) (p0e3.den E) := fun h => by
        rw [hsi, ← hk1, ← ht1]; exact hst i (by omega)
      refine ⟨?_, fun x hx => ?_⟩
      · obtain rfl := Option.some.inj ht
        simp only [fc, lostB, bd, List.cons_append, List.nil_append, facts_cons, facts_nil, le_t, eq_t, d_c, d_v, and_true]
        omega
      · unfold p0ls at hx
        simp only [List.mem_cons, List.not_mem_nil, or_false] at hx
        have hdone0 : (SB.le p0e7 (.c 21)).den E = decide (mxL (E.i 11) (E.i 12) (E.i 13) - E.i 10 ≤ 21) := done_eq (by simp only [p0e5, d_c, d_v, d_ap, d_sli, d_slnil, d_bv, d_bc, d_mul, d_add, d_sub, d_wrap, hE, fnsf0, fnsf1, fnsf2, fnsf3, fnsf4, fnsf5, fnsf6]) rfl k2 k3 k4 k1
        rcases hx with rfl | rfl | rfl | rfl | rfl | rfl | rfl | rfl | rfl | rfl | rfl | rfl | rfl | rfl | rfl | rfl | rfl | rfl | rfl
        · intro hf
          simp only [facts_cons, facts_nil, lt_t, lt_f, le_t, le_f, eq_t, eq_f, and_true, d_c, d_v, d_bv] at hf
          have hs := hstep (by omega)
          obtain ⟨hs1, hs2⟩ := hs
          change _ ∨ _ ∨ _ ∨ (_ ∧ E.i 9 ≠ -1) ∨ (_ ∧ E.b 0 = false ∧ _) at hs2
          first
            | omega
            | (rcases hs2 with h | h | h | h | h
               · omega
               · omega
               · omega
               · omega
               · first | omega | (rw [h.2.1] at hf; exact absurd hf.1 (by decide)))
        · intro hf
          refine ⟨⟨_, rfl, .inr ⟨rfl, rfl⟩⟩, fun o => ?_⟩
          have hK : p0e1.den E = 0 := by
            have := hf ((.eq p0e1 (.c 0)), true) (by simp)
            simpa only [eq_t, d_c] using this
          have hlt : E.i 3 < E.i 2 := by
            have := hf ((.lt (.v 3) (.v 2)), true) (by simp)
            simpa only [lt_t, d_v] using this
          refine ⟨⟨i + 1, fin4 hI (by omega) (hk1.trans hK) ht1 rfl rfl rfl rfl rfl (MS.ext rfl rfl rfl rfl rfl rfl rfl rfl rfl) (e := p0e0) (l := (.b (.c false) (.b (.le p0e7 (.c 21)) (.i (.c 0) (.i (.v 10) .nil))))) he0 rfl ?_, (fun _ => hf9), (fun h => by cases h)⟩, fun b hb => ?_⟩
          · intro c hc
            match c, hc with
            | 0, _ =>
              exact rfl
            | 1, _ => exact congrArg b2i hdone0
            | 2, _ => exact rfl
            | 3, _ => rfl
          · obtain rfl := Option.some.inj hb
            show (E0.i 2 - (E.i 3 + 1)).toNat < _
            omega
        · intro hf
          refine ⟨⟨_, rfl, .inr ⟨rfl, rfl⟩⟩, fun o => ?_⟩
          have hK : p0e1.den E = 1 := by
            have := hf ((.eq p0e1 (.c 1)), true) (by simp)
            simpa only [eq_t, d_c] using this
          have hlt : E.i 3 < E.i 2 := by
            have := hf ((.lt (.v 3) (.v 2)), true) (by simp)
            simpa only [lt_t, d_v] using this
          refine ⟨⟨i + 1, fin4 hI (by omega) (hk1.trans hK) ht1 rfl rfl rfl rfl rfl (MS.ext rfl rfl rfl rfl rfl rfl rfl rfl rfl) (e := p0e0) (l := (.b (.c false) (.b (.le p0e7 (.c 21)) (.i (.c 0) (.i (.v 10) .nil))))) he0 rfl ?_, (fun _ => hf9), (fun h => by cases h)⟩, fun b hb => ?_⟩
          · intro c hc
            match c, hc with
            | 0, _ =>
              exact congrArg b2i (decide_eq_false (fun h => h.1 (by have := hf ((.eq (.v 8) (.c 0)), true) (by simp); simp only [eq_t, d_v, d_c] at this; exact this))).symm
            | 1, _ => exact congrArg b2i hdone0
            | 2, _ => exact rfl
            | 3, _ => rfl
          · obtain rfl := Option.some.inj hb
            show (E0.i 2 - (E.i 3 + 1)).toNat < _
            omega
        · intro hf
          refine ⟨⟨_, rfl, .inr ⟨rfl, rfl⟩⟩, fun o => ?_⟩
          have hK : p0e1.den E = 1 := by
            have := hf ((.eq p0e1 (.c 1)), true) (by simp)
            simpa only [eq_t, d_c] using this
          have hlt : E.i 3 < E.i 2 := by
            have := hf ((.lt (.v 3) (.v 2)), true) (by simp)
            simpa only [lt_t, d_v] using this
          refine ⟨⟨i + 1, fin4 hI (by omega) (hk1.trans hK) ht1 rfl rfl rfl rfl rfl (MS.ext rfl rfl rfl rfl rfl rfl rfl rfl rfl) (e := p0e0) (l := (.b (.c false) (.b (.le p0e7 (.c 21)) (.i (.c 0) (.i (.v 10) .nil))))) he0 rfl ?_, (fun _ => hf9), (fun h => by cases h)⟩, fun b hb => ?_⟩
          · intro c hc
            match c, hc with
            | 0, _ =>
              exact congrArg b2i (decide_eq_false (fun h => h.2.2.1 (by have := hf ((.le p0e7 (.c 21)), true) (by simp); rw [hdone0] at this; exact of_decide_eq_true this))).symm
            | 1, _ => exact congrArg b2i hdone0
            | 2, _ => exact rfl
            | 3, _ => rfl
          · obtain rfl := Option.some.inj hb
            show (E0.i 2 - (E.i 3 + 1)).toNat < _
            omega
        · intro hf
          refine ⟨⟨_, rfl, .inr ⟨rfl, rfl⟩⟩, fun o => ?_⟩
          have hK : p0e1.den E = 1 := by
            have := hf ((.eq p0e1 (.c 1)), true) (by simp)
            simpa only [eq_t, d_c] using this
          have hlt : E.i 3 < E.i 2 := by
            have := hf ((.lt (.v 3) (.v 2)), true) (by simp)
            simpa only [lt_t, d_v] using this
          refine ⟨⟨i + 1, fin4 hI (by omega) (hk1.trans hK) ht1 rfl rfl rfl rfl rfl (MS.ext rfl rfl rfl rfl rfl rfl rfl rfl rfl) (e := p0e0) (l := (.b (.not (.lt p0e3 p0e10)) (.b (.le p0e7 (.c 21)) (.i (.c 0) (.i (.v 10) .nil))))) he0 rfl ?_, (fun _ => hf9), (fun h => by cases h)⟩, fun b hb => ?_⟩
          · intro c hc
            match c, hc with
            | 0, _ =>
              refine congrArg b2i ?_
              have h7 := hf ((.le p0e7 (.c 21)), false) (by simp)
              rw [hdone0] at h7
              have h7' := of_decide_eq_false h7
              have h8 := hf ((.eq (.v 8) (.c 0)), false) (by simp)
              simp only [eq_f, d_v, d_c] at h8
              show (!(decide (p0e3.den E < p0e10.den E))) = decide (E.i 8 ≠ 0 ∧ E.i 9 = -1 ∧ ¬ (mS E).top - (mS E).mn ≤ 21 ∧ E.i 8 + 5 * E.i 6 ≤ p0e3.den E)
              have h9 : p0e10.den E = E.i 8 + 5 * E.i 6 := rfl
              rw [h9]
              by_cases hh : p0e3.den E < E.i 8 + 5 * E.i 6
              · rw [decide_eq_true hh, decide_eq_false (by intro h; exact absurd h.2.2.2 (Int.not_le.2 hh))]; rfl
              · rw [decide_eq_false hh, decide_eq_true ⟨h8, hf9, h7', Int.not_lt.1 hh⟩]; rfl
            | 1, _ => exact congrArg b2i hdone0
            | 2, _ => exact rfl
            | 3, _ => rfl
          · obtain rfl := Option.some.inj hb
            show (E0.i 2 - (E.i 3 + 1)).toNat < _
            omega
        · intro hf
          refine ⟨⟨_, rfl, .inr ⟨rfl, rfl⟩⟩, fun o => ?_⟩
          have hK : p0e1.den E = 2 := by
            have := hf ((.eq p0e1 (.c 2)), true) (by simp)
            simpa only [eq_t, d_c] using this
          have hlt : E.i 3 < E.i 2 := by
            have := hf ((.lt (.v 3) (.v 2)), true) (by simp)
            simpa only [lt_t, d_v] using this
          have hw : E.b 1 = true := hf ((.v 1), true) (by simp)
          have hnext : p0e13.den E = (mS E).next := by
            show (E.i 10 + E.i 11).tdiv 2 = (E.i 10 + (if E.b 1 = true then E.i 11 else (mS E).top)) / 2
            rw [if_pos hw, tdn (by omega)]
          refine ⟨⟨i + 1, fin4 hI (by omega) (hk1.trans hK) ht1 rfl rfl rfl rfl rfl (MS.ext rfl rfl rfl hnext rfl rfl rfl rfl rfl) (e := p0e0) (l := (.b (.c false) (.b (.le p0e7 (.c 21)) (.i p0e13 (.i (.v 10) .nil))))) he0 rfl ?_, (fun h => by cases h), (fun _ => by show p0e13.den E ≠ -1; rw [hnext]; omega)⟩, fun b hb => ?_⟩
          · intro c hc
            match c, hc with
            | 0, _ =>
              exact rfl
            | 1, _ => exact congrArg b2i hdone0
            | 2, _ => exact hnext
            | 3, _ => rfl
          · obtain rfl := Option.some.inj hb
            show (E0.i 2 - (E.i 3 + 1)).toNat < _
            omega
        · intro hf
          refine ⟨⟨_, rfl, .inr ⟨rfl, rfl⟩⟩, fun o => ?_⟩
          have hK : p0e1.den E = 2 := by
            have := hf ((.eq p0e1 (.c 2)), true) (by simp)
            simpa only [eq_t, d_c] using this
          have hlt : E.i 3 < E.i 2 := by
            have := hf ((.lt (.v 3) (.v 2)), true) (by simp)
            simpa only [lt_t, d_v] using this
          have hw : E.b 1 = false := hf ((.v 1), false) (by simp)
          have hnext : p0e17.den E = (mS E).next := by
            have hm := mxL_ok k2 k3 k4
            have he : p0e16.den E = E.i 10 + mxL (E.i 11) (E.i 12) (E.i 13) := by
              simp only [p0e0, p0e1, p0e2, p0e3, p0e4, p0e5, p0e6, p0e7, p0e8, p0e9, p0e10, p0e11, p0e12, p0e13, p0e14, p0e15, p0e16, p0e17, p0e18, p0e19, p0e20, d_c, d_v, d_ap, d_sli, d_slnil, d_bv, d_bc, d_mul, d_add, d_sub, d_wrap, hE, fnsf0, fnsf1, fnsf2, fnsf3, fnsf4, fnsf5, fnsf6]
              rw [w64 (by omega)]
            show (p0e16.den E).tdiv 2 = (E.i 10 + (if E.b 1 = true then E.i 11 else (mS E).top)) / 2
            rw [he, if_neg (by rw [hw]; decide), tdn (by omega)]; rfl
          refine ⟨⟨i + 1, fin4 hI (by omega) (hk1.trans hK) ht1 rfl rfl rfl rfl rfl (MS.ext rfl rfl rfl hnext rfl rfl rfl rfl rfl) (e := p0e0) (l := (.b (.c false) (.b (.le p0e7 (.c 21)) (.i p0e17 (.i (.v 10) .nil))))) he0 rfl ?_, (fun h => by cases h), (fun _ => by show p0e17.den E ≠ -1; rw [hnext]; omega)⟩, fun b hb => ?_⟩
          · intro c hc
            match c, hc with
            | 0, _ =>
              exact rfl
            | 1, _ => exact congrArg b2i hdone0
            | 2, _ => exact hnext
            | 3, _ => rfl
          · obtain rfl := Option.some.inj hb
            show (E0.i 2 - (E.i 3 + 1)).toNat < _
            omega
        · intro hf
          simp only [facts_cons, facts_nil, lt_t, lt_f, le_t, le_f, eq_t, eq_f, and_true, d_c, d_v, d_bv] at hf
          have hs := hstep (by omega)
          obtain ⟨hs1, hs2⟩ := hs
          change _ ∨ _ ∨ _ ∨ (_ ∧ E.i 9 ≠ -1) ∨ (_ ∧ E.b 0 = false ∧ _) at hs2
          first
            | omega
            | (rcases hs2 with h | h | h | h | h
               · omega
               · omega
               · omega
               · omega
               · first | omega | (rw [h.2.1] at hf; exact absurd hf.1 (by decide)))
        · intro hf
          simp only [facts_cons, facts_nil, lt_t, lt_f, le_t, le_f, eq_t, eq_f, and_true, d_c, d_v, d_bv] at hf
          have hs := hstep (by omega)
          obtain ⟨hs1, hs2⟩ := hs
          change _ ∨ _ ∨ _ ∨ (_ ∧ E.i 9 ≠ -1) ∨ (_ ∧ E.b 0 = false ∧ _) at hs2
          first
            | omega
            | (rcases hs2 with h | h | h | h | h
               · omega
               · omega
               · omega
               · omega
               · first | omega | (rw [h.2.1] at hf; exact absurd hf.1 (by decide)))
        · intro hf
          simp only [facts_cons, facts_nil, lt_t, lt_f, le_t, le_f, eq_t, eq_f, and_true, d_c, d_v, d_bv] at hf
          have hs := hstep (by omega)
          obtain ⟨hs1, hs2⟩ := hs
          change _ ∨ _ ∨ _ ∨ (_ ∧ E.i 9 ≠ -1) ∨ (_ ∧ E.b 0 = false ∧ _) at hs2
          first
            | omega
            | (rcases hs2 with h | h | h | h | h
               · omega
               · omega
               · omega
               · omega
               · first | omega | (rw [h.2.1] at hf; exact absurd hf.1 (by decide)))
        · intro hf
          refine ⟨⟨_, rfl, .inr ⟨rfl, rfl⟩⟩, fun o => ?_⟩
          have hK : p0e1.den E = 6 := by
            have := hf ((.eq p0e1 (.c 6)), true) (by simp)
            simpa only [eq_t, d_c] using this
          have hlt : E.i 3 < E.i 2 := by
            have := hf ((.lt (.v 3) (.v 2)), true) (by simp)
            simpa only [lt_t, d_v] using this
          refine ⟨⟨i + 1, fin4 hI (by omega) (hk1.trans hK) ht1 rfl rfl rfl rfl rfl (MS.ext rfl rfl rfl rfl rfl rfl rfl rfl rfl) (e := p0e0) (l := (.b (.c false) (.b (.le p0e7 (.c 21)) (.i (.c 0) (.i (.v 10) .nil))))) he0 rfl ?_, (fun _ => hf9), (fun h => by cases h)⟩, fun b hb => ?_⟩
          · intro c hc
            match c, hc with
            | 0, _ =>
              exact rfl
            | 1, _ => exact congrArg b2i hdone0
            | 2, _ => exact rfl
            | 3, _ => rfl
          · obtain rfl := Option.some.inj hb
            show (E0.i 2 - (E.i 3 + 1)).toNat < _
            omega
        · intro hf
          simp only [facts_cons, facts_nil, lt_t, lt_f, le_t, le_f, eq_t, eq_f, and_true, d_c, d_v, d_bv] at hf
          have hs := hstep (by omega)
          obtain ⟨hs1, hs2⟩ := hs
          change _ ∨ _ ∨ _ ∨ (_ ∧ E.i 9 ≠ -1) ∨ (_ ∧ E.b 0 = false ∧ _) at hs2
          first
            | omega
            | (rcases hs2 with h | h | h | h | h
               · omega
               · omega
               · omega
               · omega
               · first | omega | (rw [h.2.1] at hf; exact absurd hf.1 (by decide)))
        · intro hf
          simp only [facts_cons, facts_nil, lt_t, lt_f, le_t, le_f, eq_t, eq_f, and_true, d_c, d_v, d_bv] at hf
          have hs := hstep (by omega)
          obtain ⟨hs1, hs2⟩ := hs
          change _ ∨ _ ∨ _ ∨ (_ ∧ E.i 9 ≠ -1) ∨ (_ ∧ E.b 0 = false ∧ _) at hs2
          first
            | omega
            | (rcases hs2 with h | h | h | h | h
               · omega
               · omega
               · omega
               · omega
               · first | omega | (rw [h.2.1] at hf; exact absurd hf.1 (by decide)))
        · -- no such kind
          intro hf
          exfalso
          simp only [facts_cons, facts_nil, lt_t, lt_f, le_t, le_f, eq_t, eq_f, and_true, d_c, d_v, d_bv] at hf
          obtain ⟨hs1, hs2⟩ := hstep (by omega)
          omega
        · intro hf
          simp only [facts_cons, facts_nil, lt_t, lt_f, le_t, le_f, eq_t, eq_f, and_true, d_c, d_v, d_bv] at hf
          have hs := hstep (by omega)
          obtain ⟨hs1, hs2⟩ := hs
          change _ ∨ _ ∨ _ ∨ (_ ∧ E.i 9 ≠ -1) ∨ (_ ∧ E.b 0 = false ∧ _) at hs2
          first
            | omega
            | (rcases hs2 with h | h | h | h | h
               · omega
               · omega
               · omega
               · omega
               · first | omega | (rw [h.2.1] at hf; exact absurd hf.1 (by decide)))
        · intro hf
          simp only [facts_cons, facts_nil, lt_t, lt_f, le_t, le_f, eq_t, eq_f, and_true, d_c, d_v, d_bv] at hf
          have hs := hstep (by omega)
          obtain ⟨hs1, hs2⟩ := hs
          change _ ∨ _ ∨ _ ∨ (_ ∧ E.i 9 ≠ -1) ∨ (_ ∧ E.b 0 = false ∧ _) at hs2
          first
            | omega
            | (rcases hs2 with h | h | h | h | h
               · omega
               · omega
               · omega
               · omega
               · first | omega | (rw [h.2.1] at hf; exact absurd hf.1 (by decide)))
        · intro hf
          simp only [facts_cons, facts_nil, lt_t, lt_f, le_t, le_f, eq_t, eq_f, and_true, d_c, d_v, d_bv] at hf
          have hs := hstep (by omega)
          obtain ⟨hs1, hs2⟩ := hs
          change _ ∨ _ ∨ _ ∨ (_ ∧ E.i 9 ≠ -1) ∨ (_ ∧ E.b 0 = false ∧ _) at hs2
          first
            | omega
            | (rcases hs2 with h | h | h | h | h
               · omega
               · omega
               · omega
               · omega
               · first | omega | (rw [h.2.1] at hf; exact absurd hf.1 (by decide)))
        · intro hf
          simp only [facts_cons, facts_nil, lt_t, lt_f, le_t, le_f, eq_t, eq_f, and_true, d_c, d_v, d_bv] at hf
          have hs := hstep (by omega)
          obtain ⟨hs1, hs2⟩ := hs
          change _ ∨ _ ∨ _ ∨ (_ ∧ E.i 9 ≠ -1) ∨ (_ ∧ E.b 0 = false ∧ _) at hs2
          first
            | omega
            | (rcases hs2 with h | h | h | h | h
               · omega
               · omega
               · omega
               · omega
               · first | omega | (rw [h.2.1] at hf; exact absurd hf.1 (by decide)))
        · intro hf
          have hlt := hf (SB.lt (.v 3) (.v 2), false) (by simp)
          simp only [lt_f, d_v] at hlt
          refine ⟨rfl, ?_⟩
          have hin : E0.i 2 = i := by omega
          simp only [List.forall_mem_cons, List.not_mem_nil, false_imp_iff, implies_true, and_true, Eqn.ok]
          refine ⟨fun j _ => by rw [d_av, d_av, hI.ha], h2, fun j hj => ?_, by rw [d_v, d_v]; omega⟩
          simp only [d_v, hin] at hj
          rw [d_av, hI.row j (by omega)]
          show _ = E0.fn.a 0 [.i (E0.i 0), .i (E0.i 1), .a ((AE.v 0).den E0)] j
          rw [hE0]; rfl
    · refine ⟨p1ls, by rw [← ptD_some ht ct4.g]; exact p1run, fun E0 E hE0 hE hF0 ⟨i, hI, hfa, hfb⟩ => ?_⟩
      obtain ⟨b0, b1, b2, hst⟩ := pre4 hE0 hF0
      have hle := hI.le
      have hok := stAt_ok b0 b1 hst i (by omega)
      have hsi := hI.st
      rw [← hsi] at hok
      have hnx := next_ok hok
      obtain ⟨⟨k1, k2, k3, k4⟩, k5, k6, k7⟩ := hok
      change 0 ≤ E.i 10 ∧ E.i 10 ≤ 4096 at k1
      change 0 ≤ E.i 11 ∧ E.i 11 ≤ 4096 at k2
      change -1 ≤ E.i 12 ∧ E.i 12 ≤ 4096 at k3
      change -1 ≤ E.i 13 ∧ E.i 13 ≤ 4096 at k4
      change E.i 9 = -1 ∨ 0 ≤ E.i 9 ∧ E.i 9 ≤ 4096 at k5
      change 0 ≤ E.i 8 ∧ E.i 8 ≤ 1152921504606846976 at k6
      change 0 ≤ E.i 6 ∧ E.i 6 ≤ 1000000000 at k7
      have h3 := hI.h3; have h0 := hI.h0; have h1 := hI.h1; have h2 := hI.h2
      have hf9 := hfb rfl
      have he0 : (p1e0.den E).toNat = i * 4 := by simp only [p1e0, d_mul, d_v, d_c, h3]; omega
      have he2 : (p1e2.den E).toNat = 4 * i + 1 := by simp only [p1e2, p1e0, d_add, d_mul, d_v, d_c, h3]; omega
      have hk1 : E0.a 0 (4 * i) = p1e1.den E := by simp only [p1e1, d_rd, d_av, he0, hI.ha, Nat.mul_comm]
      have ht1 : E0.a 0 (4 * i + 1) = p1e3.den E := by simp only [p1e3, d_rd, d_av, he2, hI.ha]
      have hstep : (E.i 3 < E.i 2) → okStep (mS E) (p1e1.den E) (p1e3.den E) := fun h => by
        rw [hsi, ← hk1, ← ht1]; exact hst i (by omega)
      refine ⟨?_, fun x hx => ?_⟩
      · obtain rfl := Option.some.inj ht
        simp only [fc, lostB, bd, List.cons_append, List.nil_append, facts_cons, facts_nil, le_t, eq_t, d_c, d_v, and_true]
        omega
      · unfold p1ls at hx
        simp only [List.mem_cons, List.not_mem_nil, or_false] at hx
        have hdone0 : (SB.le p1e7 (.c 21)).den E = decide (mxL (E.i 11) (E.i 12) (E.i 13) - E.i 10 ≤ 21) := done_eq (by simp only [p1e5, d_c, d_v, d_ap, d_sli, d_slnil, d_bv, d_bc, d_mul, d_add, d_sub, d_wrap, hE, fnsf0, fnsf1, fnsf2, fnsf3, fnsf4, fnsf5, fnsf6]) rfl k2 k3 k4 k1
        rcases hx with rfl | rfl | rfl | rfl | rfl | rfl | rfl | rfl | rfl | rfl | rfl | rfl | rfl | rfl | rfl | rfl | rfl | rfl
        · intro hf
          simp only [facts_cons, facts_nil, lt_t, lt_f, le_t, le_f, eq_t, eq_f, and_true, d_c, d_v, d_bv] at hf
          have hs := hstep (by omega)
          obtain ⟨hs1, hs2⟩ := hs
          change _ ∨ _ ∨ _ ∨ (_ ∧ E.i 9 ≠ -1) ∨ (_ ∧ E.b 0 = false ∧ _) at hs2
          first
            | omega
            | (rcases hs2 with h | h | h | h | h
               · omega
               · omega
               · omega
               · omega
               · first | omega | (rw [h.2.1] at hf; exact absurd hf.1 (by decide)))
        · intro hf
          refine ⟨⟨_, rfl, .inr ⟨rfl, rfl⟩⟩, fun o => ?_⟩
          have hK : p1e1.den E = 0 := by
            have := hf ((.eq p1e1 (.c 0)), true) (by simp)
            simpa only [eq_t, d_c] using this
          have hlt : E.i 3 < E.i 2 := by
            have := hf ((.lt (.v 3) (.v 2)), true) (by simp)
            simpa only [lt_t, d_v] using this
          refine ⟨⟨i + 1, fin4 hI (by omega) (hk1.trans hK) ht1 rfl rfl rfl rfl rfl (MS.ext rfl rfl rfl rfl rfl rfl rfl rfl rfl) (e := p1e0) (l := (.b (.c false) (.b (.le p1e7 (.c 21)) (.i (.c 0) (.i (.v 10) .nil))))) he0 rfl ?_, (fun h => by cases h), (fun _ => hf9)⟩, fun b hb => ?_⟩
          · intro c hc
            match c, hc with
            | 0, _ =>
              exact rfl
            | 1, _ => exact congrArg b2i hdone0
            | 2, _ => exact rfl
            | 3, _ => rfl
          · obtain rfl := Option.some.inj hb
            show (E0.i 2 - (E.i 3 + 1)).toNat < _
            omega
        · intro hf
          refine ⟨⟨_, rfl, .inr ⟨rfl, rfl⟩⟩, fun o => ?_⟩
          have hK : p1e1.den E = 1 := by
            have := hf ((.eq p1e1 (.c 1)), true) (by simp)
            simpa only [eq_t, d_c] using this
          have hlt : E.i 3 < E.i 2 := by
            have := hf ((.lt (.v 3) (.v 2)), true) (by simp)
            simpa only [lt_t, d_v] using this
          refine ⟨⟨i + 1, fin4 hI (by omega) (hk1.trans hK) ht1 rfl rfl rfl rfl rfl (MS.ext rfl rfl rfl rfl rfl rfl rfl rfl rfl) (e := p1e0) (l := (.b (.c false) (.b (.le p1e7 (.c 21)) (.i (.c 0) (.i (.v 10) .nil))))) he0 rfl ?_, (fun h => by cases h), (fun _ => hf9)⟩, fun b hb => ?_⟩
          · intro c hc
            match c, hc with
            | 0, _ =>
              exact congrArg b2i (decide_eq_false (fun h => h.1 (by have := hf ((.eq (.v 8) (.c 0)), true) (by simp); simp only [eq_t, d_v, d_c] at this; exact this))).symm
            | 1, _ => exact congrArg b2i hdone0
            | 2, _ => exact rfl
            | 3, _ => rfl
          · obtain rfl := Option.some.inj hb
            show (E0.i 2 - (E.i 3 + 1)).toNat < _
            omega
        · intro hf
          refine ⟨⟨_, rfl, .inr ⟨rfl, rfl⟩⟩, fun o => ?_⟩
          have hK : p1e1.den E = 1 := by
            have := hf ((.eq p1e1 (.c 1)), true) (by simp)
            simpa only [eq_t, d_c] using this
          have hlt : E.i 3 < E.i 2 := by
            have := hf ((.lt (.v 3) (.v 2)), true) (by simp)
            simpa only [lt_t, d_v] using this
          refine ⟨⟨i + 1, fin4 hI (by omega) (hk1.trans hK) ht1 rfl rfl rfl rfl rfl (MS.ext rfl rfl rfl rfl rfl rfl rfl rfl rfl) (e := p1e0) (l := (.b (.c false) (.b (.le p1e7 (.c 21)) (.i (.c 0) (.i (.v 10) .nil))))) he0 rfl ?_, (fun h => by cases h), (fun _ => hf9)⟩, fun b hb => ?_⟩
          · intro c hc
            match c, hc with
            | 0, _ =>
              exact congrArg b2i (decide_eq_false (fun h => hf9 h.2.1)).symm
            | 1, _ => exact congrArg b2i hdone0
            | 2, _ => exact rfl
            | 3, _ => rfl
          · obtain rfl := Option.some.inj hb
            show (E0.i 2 - (E.i 3 + 1)).toNat < _
            omega
        · intro hf
          refine ⟨⟨_, rfl, .inr ⟨rfl, rfl⟩⟩, fun o => ?_⟩
          have hK : p1e1.den E = 2 := by
            have := hf ((.eq p1e1 (.c 2)), true) (by simp)
            simpa only [eq_t, d_c] using this
          have hlt : E.i 3 < E.i 2 := by
            have := hf ((.lt (.v 3) (.v 2)), true) (by simp)
            simpa only [lt_t, d_v] using this
          have hw : E.b 1 = true := hf ((.v 1), true) (by simp)
          have hnext : p1e10.den E = (mS E).next := by
            show (E.i 10 + E.i 11).tdiv 2 = (E.i 10 + (if E.b 1 = true then E.i 11 else (mS E).top)) / 2
            rw [if_pos hw, tdn (by omega)]
          refine ⟨⟨i + 1, fin4 hI (by omega) (hk1.trans hK) ht1 rfl rfl rfl rfl rfl (MS.ext rfl rfl rfl hnext rfl rfl rfl rfl rfl) (e := p1e0) (l := (.b (.c false) (.b (.le p1e7 (.c 21)) (.i p1e10 (.i (.v 10) .nil))))) he0 rfl ?_, (fun h => by cases h), (fun _ => by show p1e10.den E ≠ -1; rw [hnext]; omega)⟩, fun b hb => ?_⟩
          · intro c hc
            match c, hc with
            | 0, _ =>
              exact rfl
            | 1, _ => exact congrArg b2i hdone0
            | 2, _ => exact hnext
            | 3, _ => rfl
          · obtain rfl := Option.some.inj hb
            show (E0.i 2 - (E.i 3 + 1)).toNat < _
            omega
        · intro hf
          refine ⟨⟨_, rfl, .inr ⟨rfl, rfl⟩⟩, fun o => ?_⟩
          have hK : p1e1.den E = 2 := by
            have := hf ((.eq p1e1 (.c 2)), true) (by simp)
            simpa only [eq_t, d_c] using this
          have hlt : E.i 3 < E.i 2 := by
            have := hf ((.lt (.v 3) (.v 2)), true) (by simp)
            simpa only [lt_t, d_v] using this
          have hw : E.b 1 = false := hf ((.v 1), false) (by simp)
          have hnext : p1e14.den E = (mS E).next := by
            have hm := mxL_ok k2 k3 k4
            have he : p1e13.den E = E.i 10 + mxL (E.i 11) (E.i 12) (E.i 13) := by
              simp only [p1e0, p1e1, p1e2, p1e3, p1e4, p1e5, p1e6, p1e7, p1e8, p1e9, p1e10, p1e11, p1e12, p1e13, p1e14, p1e15, p1e16, p1e17, p1e18, p1e19, p1e20, p1e21, p1e22, p1e23, p1e24, p1e25, p1e26, p1e27, p1e28, p1e29, p1e30, p1e31, d_c, d_v, d_ap, d_sli, d_slnil, d_bv, d_bc, d_mul, d_add, d_sub, d_wrap, hE, fnsf0, fnsf1, fnsf2, fnsf3, fnsf4, fnsf5, fnsf6]
              rw [w64 (by omega)]
            show (p1e13.den E).tdiv 2 = (E.i 10 + (if E.b 1 = true then E.i 11 else (mS E).top)) / 2
            rw [he, if_neg (by rw [hw]; decide), tdn (by omega)]; rfl
          refine ⟨⟨i + 1, fin4 hI (by omega) (hk1.trans hK) ht1 rfl rfl rfl rfl rfl (MS.ext rfl rfl rfl hnext rfl rfl rfl rfl rfl) (e := p1e0) (l := (.b (.c false) (.b (.le p1e7 (.c 21)) (.i p1e14 (.i (.v 10) .nil))))) he0 rfl ?_, (fun h => by cases h), (fun _ => by show p1e14.den E ≠ -1; rw [hnext]; omega)⟩, fun b hb => ?_⟩
          · intro c hc
            match c, hc with
            | 0, _ =>
              exact rfl
            | 1, _ => exact congrArg b2i hdone0
            | 2, _ => exact hnext
            | 3, _ => rfl
          · obtain rfl := Option.some.inj hb
            show (E0.i 2 - (E.i 3 + 1)).toNat < _
            omega
        · intro hf
          refine ⟨⟨_, rfl, .inr ⟨rfl, rfl⟩⟩, fun o => ?_⟩
          have hK : p1e1.den E = 3 := by
            have := hf ((.eq p1e1 (.c 3)), true) (by simp)
            simpa only [eq_t, d_c] using this
          have hlt : E.i 3 < E.i 2 := by
            have := hf ((.lt (.v 3) (.v 2)), true) (by simp)
            simpa only [lt_t, d_v] using this
          have hq0 : p1e18.den E = akA (E.i 11) (E.i 12) (E.i 13) (E.i 9) := by simp only [p1e18, d_c, d_v, d_ap, d_sli, d_slnil, d_bv, d_bc, d_mul, d_add, d_sub, d_wrap, hE, fnsf0, fnsf1, fnsf2, fnsf3, fnsf4, fnsf5, fnsf6]
          have hq1 : p1e17.den E = akB (E.i 11) (E.i 12) (E.i 13) (E.i 9) := by simp only [p1e17, d_c, d_v, d_ap, d_sli, d_slnil, d_bv, d_bc, d_mul, d_add, d_sub, d_wrap, hE, fnsf0, fnsf1, fnsf2, fnsf3, fnsf4, fnsf5, fnsf6]
          have hq2 : p1e16.den E = akC (E.i 11) (E.i 12) (E.i 13) (E.i 9) := by simp only [p1e16, d_c, d_v, d_ap, d_sli, d_slnil, d_bv, d_bc, d_mul, d_add, d_sub, d_wrap, hE, fnsf0, fnsf1, fnsf2, fnsf3, fnsf4, fnsf5, fnsf6]
          have hk9 : 0 ≤ E.i 9 ∧ E.i 9 ≤ 4096 := by omega
          obtain ⟨m1, m2, m3⟩ := ak_ok k2 k3 k4 hk9
          have hdone1 : (SB.le p1e21 (.c 21)).den E = decide (mxL (akA (E.i 11) (E.i 12) (E.i 13) (E.i 9)) (akB (E.i 11) (E.i 12) (E.i 13) (E.i 9)) (akC (E.i 11) (E.i 12) (E.i 13) (E.i 9)) - E.i 9 ≤ 21) := done_eq (by simp only [p1e0, p1e1, p1e2, p1e3, p1e4, p1e5, p1e6, p1e7, p1e8, p1e9, p1e10, p1e11, p1e12, p1e13, p1e14, p1e15, p1e16, p1e17, p1e18, p1e19, p1e20, p1e21, p1e22, p1e23, p1e24, p1e25, p1e26, p1e27, p1e28, p1e29, p1e30, p1e31, d_c, d_v, d_ap, d_sli, d_slnil, d_bv, d_bc, d_mul, d_add, d_sub, d_wrap, hE, fnsf0, fnsf1, fnsf2, fnsf3, fnsf4, fnsf5, fnsf6]) rfl m1 m2 m3 hk9
          refine ⟨⟨i + 1, fin4 hI (by omega) (hk1.trans hK) ht1 rfl rfl rfl rfl rfl (MS.ext rfl rfl rfl rfl rfl hq0 hq1 hq2 rfl) (e := p1e0) (l := (.b (.c false) (.b (.le p1e21 (.c 21)) (.i (.c 0) (.i (.v 9) .nil))))) he0 rfl ?_, (fun _ => rfl), (fun h => by cases h)⟩, fun b hb => ?_⟩
          · intro c hc
            match c, hc with
            | 0, _ =>
              exact rfl
            | 1, _ => exact congrArg b2i hdone1
            | 2, _ => exact rfl
            | 3, _ => rfl
          · obtain rfl := Option.some.inj hb
            show (E0.i 2 - (E.i 3 + 1)).toNat < _
            omega
        · intro hf
          refine ⟨⟨_, rfl, .inr ⟨rfl, rfl⟩⟩, fun o => ?_⟩
          have hK : p1e1.den E = 4 := by
            have := hf ((.eq p1e1 (.c 4)), true) (by simp)
            simpa only [eq_t, d_c] using this
          have hlt : E.i 3 < E.i 2 := by
            have := hf ((.lt (.v 3) (.v 2)), true) (by simp)
            simpa only [lt_t, d_v] using this
          have hq0 : p1e25.den E = loA (E.i 11) (E.i 12) (E.i 13) (E.i 9) := by simp only [p1e25, d_c, d_v, d_ap, d_sli, d_slnil, d_bv, d_bc, d_mul, d_add, d_sub, d_wrap, hE, fnsf0, fnsf1, fnsf2, fnsf3, fnsf4, fnsf5, fnsf6]
          have hq1 : p1e24.den E = loB (E.i 11) (E.i 12) (E.i 13) (E.i 9) := by simp only [p1e24, d_c, d_v, d_ap, d_sli, d_slnil, d_bv, d_bc, d_mul, d_add, d_sub, d_wrap, hE, fnsf0, fnsf1, fnsf2, fnsf3, fnsf4, fnsf5, fnsf6]
          have hq2 : p1e23.den E = loC (E.i 11) (E.i 12) (E.i 13) (E.i 9) := by simp only [p1e23, d_c, d_v, d_ap, d_sli, d_slnil, d_bv, d_bc, d_mul, d_add, d_sub, d_wrap, hE, fnsf0, fnsf1, fnsf2, fnsf3, fnsf4, fnsf5, fnsf6]
          have hk9 : 0 ≤ E.i 9 ∧ E.i 9 ≤ 4096 := by omega
          obtain ⟨m1, m2, m3⟩ := lo_ok k2 k3 k4 hk9
          have hdone1 : (SB.le p1e28 (.c 21)).den E = decide (mxL (loA (E.i 11) (E.i 12) (E.i 13) (E.i 9)) (loB (E.i 11) (E.i 12) (E.i 13) (E.i 9)) (loC (E.i 11) (E.i 12) (E.i 13) (E.i 9)) - E.i 10 ≤ 21) := done_eq (by simp only [p1e0, p1e1, p1e2, p1e3, p1e4, p1e5, p1e6, p1e7, p1e8, p1e9, p1e10, p1e11, p1e12, p1e13, p1e14, p1e15, p1e16, p1e17, p1e18, p1e19, p1e20, p1e21, p1e22, p1e23, p1e24, p1e25, p1e26, p1e27, p1e28, p1e29, p1e30, p1e31, d_c, d_v, d_ap, d_sli, d_slnil, d_bv, d_bc, d_mul, d_add, d_sub, d_wrap, hE, fnsf0, fnsf1, fnsf2, fnsf3, fnsf4, fnsf5, fnsf6]) rfl m1 m2 m3 k1
          refine ⟨⟨i + 1, fin4 hI (by omega) (hk1.trans hK) ht1 rfl rfl rfl rfl rfl (MS.ext rfl rfl rfl rfl rfl hq0 hq1 hq2 rfl) (e := p1e0) (l := (.b (.c false) (.b (.le p1e28 (.c 21)) (.i (.c 0) (.i (.v 10) .nil))))) he0 rfl ?_, (fun _ => rfl), (fun h => by cases h)⟩, fun b hb => ?_⟩
          · intro c hc
            match c, hc with
            | 0, _ =>
              exact rfl
            | 1, _ => exact congrArg b2i hdone1
            | 2, _ => exact rfl
            | 3, _ => rfl
          · obtain rfl := Option.some.inj hb
            show (E0.i 2 - (E.i 3 + 1)).toNat < _
            omega
        · intro hf
          simp only [facts_cons, facts_nil, lt_t, lt_f, le_t, le_f, eq_t, eq_f, and_true, d_c, d_v, d_bv] at hf
          have hs := hstep (by omega)
          obtain ⟨hs1, hs2⟩ := hs
          change _ ∨ _ ∨ _ ∨ (_ ∧ E.i 9 ≠ -1) ∨ (_ ∧ E.b 0 = false ∧ _) at hs2
          first
            | omega
            | (rcases hs2 with h | h | h | h | h
               · omega
               · omega
               · omega
               · omega
               · first | omega | (rw [h.2.1] at hf; exact absurd hf.1 (by decide)))
        · intro hf
          refine ⟨⟨_, rfl, .inr ⟨rfl, rfl⟩⟩, fun o => ?_⟩
          have hK : p1e1.den E = 6 := by
            have := hf ((.eq p1e1 (.c 6)), true) (by simp)
            simpa only [eq_t, d_c] using this
          have hlt : E.i 3 < E.i 2 := by
            have := hf ((.lt (.v 3) (.v 2)), true) (by simp)
            simpa only [lt_t, d_v] using this
          refine ⟨⟨i + 1, fin4 hI (by omega) (hk1.trans hK) ht1 rfl rfl rfl rfl rfl (MS.ext rfl rfl rfl rfl rfl rfl rfl rfl rfl) (e := p1e0) (l := (.b (.c false) (.b (.le p1e7 (.c 21)) (.i (.c 0) (.i (.v 10) .nil))))) he0 rfl ?_, (fun h => by cases h), (fun _ => hf9)⟩, fun b hb => ?_⟩
          · intro c hc
            match c, hc with
            | 0, _ =>
              exact rfl
            | 1, _ => exact congrArg b2i hdone0
            | 2, _ => exact rfl
            | 3, _ => rfl
          · obtain rfl := Option.some.inj hb
            show (E0.i 2 - (E.i 3 + 1)).toNat < _
            omega
        · intro hf
          simp only [facts_cons, facts_nil, lt_t, lt_f, le_t, le_f, eq_t, eq_f, and_true, d_c, d_v, d_bv] at hf
          have hs := hstep (by omega)
          obtain ⟨hs1, hs2⟩ := hs
          change _ ∨ _ ∨ _ ∨ (_ ∧ E.i 9 ≠ -1) ∨ (_ ∧ E.b 0 = false ∧ _) at hs2
          first
            | omega
            | (rcases hs2 with h | h | h | h | h
               · omega
               · omega
               · omega
               · omega
               · first | omega | (rw [h.2.1] at hf; exact absurd hf.1 (by decide)))
        · intro hf
          simp only [facts_cons, facts_nil, lt_t, lt_f, le_t, le_f, eq_t, eq_f, and_true, d_c, d_v, d_bv] at hf
          have hs := hstep (by omega)
          obtain ⟨hs1, hs2⟩ := hs
          change _ ∨ _ ∨ _ ∨ (_ ∧ E.i 9 ≠ -1) ∨ (_ ∧ E.b 0 = false ∧ _) at hs2
          first
            | omega
            | (rcases hs2 with h | h | h | h | h
               · omega
               · omega
               · omega
               · omega
               · first | omega | (rw [h.2.1] at hf; exact absurd hf.1 (by decide)))
        · -- no such kind
          intro hf
          exfalso
          simp only [facts_cons, facts_nil, lt_t, lt_f, le_t, le_f, eq_t, eq_f, and_true, d_c, d_v, d_bv] at hf
          obtain ⟨hs1, hs2⟩ := hstep (by omega)
          omega
        · intro hf
          simp only [facts_cons, facts_nil, lt_t, lt_f, le_t, le_f, eq_t, eq_f, and_true, d_c, d_v, d_bv] at hf
          have hs := hstep (by omega)
          obtain ⟨hs1, hs2⟩ := hs
          change _ ∨ _ ∨ _ ∨ (_ ∧ E.i 9 ≠ -1) ∨ (_ ∧ E.b 0 = false ∧ _) at hs2
          first
            | omega
            | (rcases hs2 with h | h | h | h | h
               · omega
               · omega
               · omega
               · omega
               · first | omega | (rw [h.2.1] at hf; exact absurd hf.1 (by decide)))
        · intro hf
          simp only [facts_cons, facts_nil, lt_t, lt_f, le_t, le_f, eq_t, eq_f, and_true, d_c, d_v, d_bv] at hf
          have hs := hstep (by omega)
          obtain ⟨hs1, hs2⟩ := hs
          change _ ∨ _ ∨ _ ∨ (_ ∧ E.i 9 ≠ -1) ∨ (_ ∧ E.b 0 = false ∧ _) at hs2
          first
            | omega
            | (rcases hs2 with h | h | h | h | h
               · omega
               · omega
               · omega
               · omega
               · first | omega | (rw [h.2.1] at hf; exact absurd hf.1 (by decide)))
        · intro hf
          simp only [facts_cons, facts_nil, lt_t, lt_f, le_t, le_f, eq_t, eq_f, and_true, d_c, d_v, d_bv] at hf
          have hs := hstep (by omega)
          obtain ⟨hs1, hs2⟩ := hs
          change _ ∨ _ ∨ _ ∨ (_ ∧ E.i 9 ≠ -1) ∨ (_ ∧ E.b 0 = false ∧ _) at hs2
          first
            | omega
            | (rcases hs2 with h | h | h | h | h
               · omega
               · omega
               · omega
               · omega
               · first | omega | (rw [h.2.1] at hf; exact absurd hf.1 (by decide)))
        · intro hf
          simp only [facts_cons, facts_nil, lt_t, lt_f, le_t, le_f, eq_t, eq_f, and_true, d_c, d_v, d_bv] at hf
          have hs := hstep (by omega)
          obtain ⟨hs1, hs2⟩ := hs
          change _ ∨ _ ∨ _ ∨ (_ ∧ E.i 9 ≠ -1) ∨ (_ ∧ E.b 0 = false ∧ _) at hs2
          first
            | omega
            | (rcases hs2 with h | h | h | h | h
               · omega
               · omega
               · omega
               · omega
               · first | omega | (rw [h.2.1] at hf; exact absurd hf.1 (by decide)))
        · intro hf
          have hlt := hf (SB.lt (.v 3) (.v 2), false) (by simp)
          simp only [lt_f, d_v] at hlt
          refine ⟨rfl, ?_⟩
          have hin : E0.i 2 = i := by omega
          simp only [List.forall_mem_cons, List.not_mem_nil, false_imp_iff, implies_true, and_true, Eqn.ok]
          refine ⟨fun j _ => by rw [d_av, d_av, hI.ha], h2, fun j hj => ?_, by rw [d_v, d_v]; omega⟩
          simp only [d_v, hin] at hj
          rw [d_av, hI.row j (by omega)]
          show _ = E0.fn.a 0 [.i (E0.i 0), .i (E0.i 1), .a ((AE.v 0).den E0)] j
          rw [hE0]; rfl
end Go.Proofs.Ytnffahllpagicaa
