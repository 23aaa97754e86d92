/- OnCongestionEvent keeps its contract. -/
import Derived.Test.YtlclcnkmdbmceaaCcU
import Derived.Test.YtlclcnkmdbmceaaCcG
set_option linter.unusedVariables false
set_option linter.unusedSimpArgs false
set_option maxRecDepth 100000
set_option maxHeartbeats 4000000
namespace Go.Proofs.Ytlclcnkmdbmceaa
open Go Go.Sy Go.RowKit

noncomputable def ge0 : SE := .add (.v 7) (.v 21)
noncomputable def ge1 : SE := .wrap .u64 ge0
noncomputable def ge2 : SE := .add (.v 8) (.c 1)
noncomputable def ge3 : SE := .wrap .u64 ge2
noncomputable def ge4 : SE := .add (.v 19) (.c 1)
noncomputable def ge5 : SE := .wrap .u64 ge4
noncomputable def ge6 : SE := .ap 8 (.i (.v 19) (.i (.v 20) (.i (.v 18) .nil)))
noncomputable def ge7 : SE := .mul (.c 32) (.v 1)
noncomputable def ge8 : SE := .mul (.c 10000) (.v 1)
noncomputable def ge9 : SE := .mul (.v 1) (.c 2)
noncomputable def ge10 : SE := .ap 6 (.i (.v 14) (.i (.v 1) .nil))
noncomputable def ge11 : SE := .ap 1000 (.i (.c 1) (.i (.v 14) (.i (.c 0) .nil)))
noncomputable def ge12 : SE := .ap 1001 (.i (.c 2) (.i (.c 1) (.i ge11 (.i (.c 4604480259023595110) .nil))))
noncomputable def ge13 : SE := .ap 1002 (.i (.c 1) (.i ge12 .nil))
noncomputable def ge14 : SE := .wrap .u64 ge13
noncomputable def ge15 : SE := .ap 7 (.i (.v 14) (.i (.v 1) .nil))
noncomputable def ge16 : SE := .ap 1000 (.i (.c 0) (.i (.v 14) (.i (.c 0) .nil)))
noncomputable def ge17 : SE := .ap 1001 (.i (.c 2) (.i (.c 0) (.i (.c 1062836634) (.i ge16 .nil))))
noncomputable def ge18 : SE := .ap 1002 (.i (.c 0) (.i ge17 .nil))
noncomputable def ge19 : SE := .ap 9 (.i (.v 14) (.i (.v 4) .nil))
noncomputable def ge20 : SE := .ap 1001 (.i (.c 2) (.i (.c 0) (.i ge16 (.i (.c 1060320051) .nil))))
noncomputable def ge21 : SE := .ap 1002 (.i (.c 0) (.i ge20 .nil))
noncomputable def ge22 : SE := .add (.v 14) (.c 1280)
noncomputable def ge23 : SE := .wrap .u64 ge21
noncomputable def gx0 : Vl := .out 0 [.i (.v 9) (.v 9), .i ge1 ge1, .i ge3 ge3, .i (.v 4) (.v 4), .i (.v 5) (.v 5), .i (.v 6) (.v 6), .i (.v 10) (.v 10), .b (.v 0) (.v 0), .i (.v 11) (.v 11), .i (.v 12) (.v 12), .i (.v 13) (.v 13), .b (.v 1) (.v 1), .i (.v 14) (.v 14), .i (.v 15) (.v 15), .i (.v 16) (.v 16), .i (.v 17) (.v 17), .i (.v 18) (.v 18), .i ge5 ge6, .i ge7 ge7, .i ge8 ge8, .i (.v 1) (.v 1)] [((.lt (.v 18) (.v 20)), true), ((.lt (.c 0) (.v 19)), true), ((.le (.v 20) (.v 13)), true), ((.le (.c 1200) (.v 1)), true), ((.le (.v 1) (.c 1455)), true), ((.le (.c 2400) (.v 14)), true), ((.le (.v 14) (.c 200000)), true), ((.le (.c 0) (.v 20)), true), ((.le (.v 20) (.c 1000)), true), ((.le (.c 0) (.v 21)), true), ((.le (.v 21) (.c 2000)), true), ((.le (.c (-1)) (.v 13)), true), ((.le (.v 13) (.c 1000)), true), ((.le (.c (-1)) (.v 11)), true), ((.le (.v 11) (.c 1000)), true)]
noncomputable def gx1 : Vl := .out 0 [.i (.v 9) (.v 9), .i ge1 ge1, .i ge3 ge3, .i (.v 4) (.v 4), .i (.v 5) (.v 5), .i (.v 6) (.v 6), .i (.v 10) (.v 10), .b (.v 0) (.v 0), .i (.v 11) (.v 11), .i (.v 12) (.v 12), .i (.v 13) (.v 13), .b (.v 1) (.v 1), .i (.v 14) (.v 14), .i (.v 15) (.v 15), .i (.v 16) (.v 16), .i (.v 17) (.v 17), .i (.v 18) (.v 18), .i (.v 19) ge6, .i ge7 ge7, .i ge8 ge8, .i (.v 1) (.v 1)] [((.lt (.v 18) (.v 20)), false), ((.lt (.c 0) (.v 19)), true), ((.le (.v 20) (.v 13)), true), ((.le (.c 1200) (.v 1)), true), ((.le (.v 1) (.c 1455)), true), ((.le (.c 2400) (.v 14)), true), ((.le (.v 14) (.c 200000)), true), ((.le (.c 0) (.v 20)), true), ((.le (.v 20) (.c 1000)), true), ((.le (.c 0) (.v 21)), true), ((.le (.v 21) (.c 2000)), true), ((.le (.c (-1)) (.v 13)), true), ((.le (.v 13) (.c 1000)), true), ((.le (.c (-1)) (.v 11)), true), ((.le (.v 11) (.c 1000)), true)]
noncomputable def gx2 : Vl := .out 0 [.i (.v 9) (.v 9), .i ge1 ge1, .i ge3 ge3, .i (.v 4) (.v 4), .i (.v 5) (.v 5), .i (.v 6) (.v 6), .i (.v 10) (.v 10), .b (.v 0) (.v 0), .i (.v 11) (.v 11), .i (.v 12) (.v 12), .i (.v 13) (.v 13), .b (.v 1) (.v 1), .i (.v 14) (.v 14), .i (.v 15) (.v 15), .i (.v 16) (.v 16), .i (.v 17) (.v 17), .i (.v 18) (.v 18), .i (.v 19) ge6, .i ge7 ge7, .i ge8 ge8, .i (.v 1) (.v 1)] [((.lt (.c 0) (.v 19)), false), ((.le (.v 20) (.v 13)), true), ((.le (.c 1200) (.v 1)), true), ((.le (.v 1) (.c 1455)), true), ((.le (.c 2400) (.v 14)), true), ((.le (.v 14) (.c 200000)), true), ((.le (.c 0) (.v 20)), true), ((.le (.v 20) (.c 1000)), true), ((.le (.c 0) (.v 21)), true), ((.le (.v 21) (.c 2000)), true), ((.le (.c (-1)) (.v 13)), true), ((.le (.v 13) (.c 1000)), true), ((.le (.c (-1)) (.v 11)), true), ((.le (.v 11) (.c 1000)), true)]
noncomputable def gx3 : Vl := .out 1 [.i ge9 ge10, .i ge1 ge1, .i ge3 ge3, .i (.v 4) (.v 4), .i (.v 5) (.v 5), .i (.v 6) (.v 6), .i (.v 10) (.v 10), .b (.v 0) (.v 0), .i (.v 11) (.v 11), .i (.v 12) (.v 12), .i (.v 11) (.v 11), .b (.lt (.v 14) (.v 15)) (.lt (.v 14) (.v 15)), .i ge9 ge10, .i ge9 ge10, .i (.v 14) (.v 14), .i (.v 15) (.v 15), .i (.v 13) (.v 13), .i ge7 ge7, .i ge8 ge8, .i (.v 1) (.v 1)] [((.lt ge13 ge9), true), ((.ap 1002 (.i (.c 1) (.i ge12 .nil))), true), ((.ap 1001 (.i (.c 2) (.i (.c 1) (.i ge11 (.i (.c 4604480259023595110) .nil))))), true), ((.v 0), true), ((.le (.v 20) (.v 13)), false), ((.le (.c 1200) (.v 1)), true), ((.le (.v 1) (.c 1455)), true), ((.le (.c 2400) (.v 14)), true), ((.le (.v 14) (.c 200000)), true), ((.le (.c 0) (.v 20)), true), ((.le (.v 20) (.c 1000)), true), ((.le (.c 0) (.v 21)), true), ((.le (.v 21) (.c 2000)), true), ((.le (.c (-1)) (.v 13)), true), ((.le (.v 13) (.c 1000)), true), ((.le (.c (-1)) (.v 11)), true), ((.le (.v 11) (.c 1000)), true)]
noncomputable def gx4 : Vl := .out 1 [.i ge14 ge10, .i ge1 ge1, .i ge3 ge3, .i (.v 4) (.v 4), .i (.v 5) (.v 5), .i (.v 6) (.v 6), .i (.v 10) (.v 10), .b (.v 0) (.v 0), .i (.v 11) (.v 11), .i (.v 12) (.v 12), .i (.v 11) (.v 11), .b (.lt (.v 14) (.v 15)) (.lt (.v 14) (.v 15)), .i ge13 ge10, .i ge13 ge10, .i (.v 14) (.v 14), .i (.v 15) (.v 15), .i (.v 13) (.v 13), .i ge7 ge7, .i ge8 ge8, .i (.v 1) (.v 1)] [((.lt ge13 ge9), false), ((.ap 1002 (.i (.c 1) (.i ge12 .nil))), true), ((.ap 1001 (.i (.c 2) (.i (.c 1) (.i ge11 (.i (.c 4604480259023595110) .nil))))), true), ((.v 0), true), ((.le (.v 20) (.v 13)), false), ((.le (.c 1200) (.v 1)), true), ((.le (.v 1) (.c 1455)), true), ((.le (.c 2400) (.v 14)), true), ((.le (.v 14) (.c 200000)), true), ((.le (.c 0) (.v 20)), true), ((.le (.v 20) (.c 1000)), true), ((.le (.c 0) (.v 21)), true), ((.le (.v 21) (.c 2000)), true), ((.le (.c (-1)) (.v 13)), true), ((.le (.v 13) (.c 1000)), true), ((.le (.c (-1)) (.v 11)), true), ((.le (.v 11) (.c 1000)), true)]
noncomputable def gx5 : Vl := .dead [((.ap 1002 (.i (.c 1) (.i ge12 .nil))), false), ((.ap 1001 (.i (.c 2) (.i (.c 1) (.i ge11 (.i (.c 4604480259023595110) .nil))))), true), ((.v 0), true), ((.le (.v 20) (.v 13)), false), ((.le (.c 1200) (.v 1)), true), ((.le (.v 1) (.c 1455)), true), ((.le (.c 2400) (.v 14)), true), ((.le (.v 14) (.c 200000)), true), ((.le (.c 0) (.v 20)), true), ((.le (.v 20) (.c 1000)), true), ((.le (.c 0) (.v 21)), true), ((.le (.v 21) (.c 2000)), true), ((.le (.c (-1)) (.v 13)), true), ((.le (.v 13) (.c 1000)), true), ((.le (.c (-1)) (.v 11)), true), ((.le (.v 11) (.c 1000)), true)]
noncomputable def gx6 : Vl := .dead [((.ap 1001 (.i (.c 2) (.i (.c 1) (.i ge11 (.i (.c 4604480259023595110) .nil))))), false), ((.v 0), true), ((.le (.v 20) (.v 13)), false), ((.le (.c 1200) (.v 1)), true), ((.le (.v 1) (.c 1455)), true), ((.le (.c 2400) (.v 14)), true), ((.le (.v 14) (.c 200000)), true), ((.le (.c 0) (.v 20)), true), ((.le (.v 20) (.c 1000)), true), ((.le (.c 0) (.v 21)), true), ((.le (.v 21) (.c 2000)), true), ((.le (.c (-1)) (.v 13)), true), ((.le (.v 13) (.c 1000)), true), ((.le (.c (-1)) (.v 11)), true), ((.le (.v 11) (.c 1000)), true)]
noncomputable def gx7 : Vl := .out 2 [.i ge9 ge15, .i ge1 ge1, .i ge3 ge3, .i ge18 ge19, .i (.v 5) (.v 5), .i (.v 6) (.v 6), .i (.v 10) (.v 10), .b (.v 0) (.v 0), .i (.v 11) (.v 11), .i (.v 12) (.v 12), .i (.v 11) (.v 11), .b (.lt (.v 14) (.v 15)) (.lt (.v 14) (.v 15)), .i ge9 ge15, .i ge9 ge15, .i (.v 16) (.v 16), .i (.v 17) (.v 17), .i (.v 18) (.v 18), .i (.v 19) (.v 19), .i ge7 ge7, .i ge8 ge8, .i (.v 1) (.v 1)] [((.lt ge21 ge9), true), ((.ap 1002 (.i (.c 0) (.i ge20 .nil))), true), ((.ap 1001 (.i (.c 2) (.i (.c 0) (.i ge16 (.i (.c 1060320051) .nil))))), true), ((.ap 1002 (.i (.c 0) (.i ge17 .nil))), true), ((.ap 1001 (.i (.c 2) (.i (.c 0) (.i (.c 1062836634) (.i ge16 .nil))))), true), ((.lt ge22 (.v 4)), true), ((.v 0), false), ((.le (.v 20) (.v 13)), false), ((.le (.c 1200) (.v 1)), true), ((.le (.v 1) (.c 1455)), true), ((.le (.c 2400) (.v 14)), true), ((.le (.v 14) (.c 200000)), true), ((.le (.c 0) (.v 20)), true), ((.le (.v 20) (.c 1000)), true), ((.le (.c 0) (.v 21)), true), ((.le (.v 21) (.c 2000)), true), ((.le (.c (-1)) (.v 13)), true), ((.le (.v 13) (.c 1000)), true), ((.le (.c (-1)) (.v 11)), true), ((.le (.v 11) (.c 1000)), true)]
noncomputable def gx8 : Vl := .out 2 [.i ge23 ge15, .i ge1 ge1, .i ge3 ge3, .i ge18 ge19, .i (.v 5) (.v 5), .i (.v 6) (.v 6), .i (.v 10) (.v 10), .b (.v 0) (.v 0), .i (.v 11) (.v 11), .i (.v 12) (.v 12), .i (.v 11) (.v 11), .b (.lt (.v 14) (.v 15)) (.lt (.v 14) (.v 15)), .i ge21 ge15, .i ge21 ge15, .i (.v 16) (.v 16), .i (.v 17) (.v 17), .i (.v 18) (.v 18), .i (.v 19) (.v 19), .i ge7 ge7, .i ge8 ge8, .i (.v 1) (.v 1)] [((.lt ge21 ge9), false), ((.ap 1002 (.i (.c 0) (.i ge20 .nil))), true), ((.ap 1001 (.i (.c 2) (.i (.c 0) (.i ge16 (.i (.c 1060320051) .nil))))), true), ((.ap 1002 (.i (.c 0) (.i ge17 .nil))), true), ((.ap 1001 (.i (.c 2) (.i (.c 0) (.i (.c 1062836634) (.i ge16 .nil))))), true), ((.lt ge22 (.v 4)), true), ((.v 0), false), ((.le (.v 20) (.v 13)), false), ((.le (.c 1200) (.v 1)), true), ((.le (.v 1) (.c 1455)), true), ((.le (.c 2400) (.v 14)), true), ((.le (.v 14) (.c 200000)), true), ((.le (.c 0) (.v 20)), true), ((.le (.v 20) (.c 1000)), true), ((.le (.c 0) (.v 21)), true), ((.le (.v 21) (.c 2000)), true), ((.le (.c (-1)) (.v 13)), true), ((.le (.v 13) (.c 1000)), true), ((.le (.c (-1)) (.v 11)), true), ((.le (.v 11) (.c 1000)), true)]
noncomputable def gx9 : Vl := .dead [((.ap 1002 (.i (.c 0) (.i ge20 .nil))), false), ((.ap 1001 (.i (.c 2) (.i (.c 0) (.i ge16 (.i (.c 1060320051) .nil))))), true), ((.ap 1002 (.i (.c 0) (.i ge17 .nil))), true), ((.ap 1001 (.i (.c 2) (.i (.c 0) (.i (.c 1062836634) (.i ge16 .nil))))), true), ((.lt ge22 (.v 4)), true), ((.v 0), false), ((.le (.v 20) (.v 13)), false), ((.le (.c 1200) (.v 1)), true), ((.le (.v 1) (.c 1455)), true), ((.le (.c 2400) (.v 14)), true), ((.le (.v 14) (.c 200000)), true), ((.le (.c 0) (.v 20)), true), ((.le (.v 20) (.c 1000)), true), ((.le (.c 0) (.v 21)), true), ((.le (.v 21) (.c 2000)), true), ((.le (.c (-1)) (.v 13)), true), ((.le (.v 13) (.c 1000)), true), ((.le (.c (-1)) (.v 11)), true), ((.le (.v 11) (.c 1000)), true)]
noncomputable def gx10 : Vl := .dead [((.ap 1001 (.i (.c 2) (.i (.c 0) (.i ge16 (.i (.c 1060320051) .nil))))), false), ((.ap 1002 (.i (.c 0) (.i ge17 .nil))), true), ((.ap 1001 (.i (.c 2) (.i (.c 0) (.i (.c 1062836634) (.i ge16 .nil))))), true), ((.lt ge22 (.v 4)), true), ((.v 0), false), ((.le (.v 20) (.v 13)), false), ((.le (.c 1200) (.v 1)), true), ((.le (.v 1) (.c 1455)), true), ((.le (.c 2400) (.v 14)), true), ((.le (.v 14) (.c 200000)), true), ((.le (.c 0) (.v 20)), true), ((.le (.v 20) (.c 1000)), true), ((.le (.c 0) (.v 21)), true), ((.le (.v 21) (.c 2000)), true), ((.le (.c (-1)) (.v 13)), true), ((.le (.v 13) (.c 1000)), true), ((.le (.c (-1)) (.v 11)), true), ((.le (.v 11) (.c 1000)), true)]
noncomputable def gx11 : Vl := .dead [((.ap 1002 (.i (.c 0) (.i ge17 .nil))), false), ((.ap 1001 (.i (.c 2) (.i (.c 0) (.i (.c 1062836634) (.i ge16 .nil))))), true), ((.lt ge22 (.v 4)), true), ((.v 0), false), ((.le (.v 20) (.v 13)), false), ((.le (.c 1200) (.v 1)), true), ((.le (.v 1) (.c 1455)), true), ((.le (.c 2400) (.v 14)), true), ((.le (.v 14) (.c 200000)), true), ((.le (.c 0) (.v 20)), true), ((.le (.v 20) (.c 1000)), true), ((.le (.c 0) (.v 21)), true), ((.le (.v 21) (.c 2000)), true), ((.le (.c (-1)) (.v 13)), true), ((.le (.v 13) (.c 1000)), true), ((.le (.c (-1)) (.v 11)), true), ((.le (.v 11) (.c 1000)), true)]
noncomputable def gx12 : Vl := .dead [((.ap 1001 (.i (.c 2) (.i (.c 0) (.i (.c 1062836634) (.i ge16 .nil))))), false), ((.lt ge22 (.v 4)), true), ((.v 0), false), ((.le (.v 20) (.v 13)), false), ((.le (.c 1200) (.v 1)), true), ((.le (.v 1) (.c 1455)), true), ((.le (.c 2400) (.v 14)), true), ((.le (.v 14) (.c 200000)), true), ((.le (.c 0) (.v 20)), true), ((.le (.v 20) (.c 1000)), true), ((.le (.c 0) (.v 21)), true), ((.le (.v 21) (.c 2000)), true), ((.le (.c (-1)) (.v 13)), true), ((.le (.v 13) (.c 1000)), true), ((.le (.c (-1)) (.v 11)), true), ((.le (.v 11) (.c 1000)), true)]
noncomputable def gx13 : Vl := .out 2 [.i ge9 ge15, .i ge1 ge1, .i ge3 ge3, .i (.v 14) ge19, .i (.v 5) (.v 5), .i (.v 6) (.v 6), .i (.v 10) (.v 10), .b (.v 0) (.v 0), .i (.v 11) (.v 11), .i (.v 12) (.v 12), .i (.v 11) (.v 11), .b (.lt (.v 14) (.v 15)) (.lt (.v 14) (.v 15)), .i ge9 ge15, .i ge9 ge15, .i (.v 16) (.v 16), .i (.v 17) (.v 17), .i (.v 18) (.v 18), .i (.v 19) (.v 19), .i ge7 ge7, .i ge8 ge8, .i (.v 1) (.v 1)] [((.lt ge21 ge9), true), ((.ap 1002 (.i (.c 0) (.i ge20 .nil))), true), ((.ap 1001 (.i (.c 2) (.i (.c 0) (.i ge16 (.i (.c 1060320051) .nil))))), true), ((.lt ge22 (.v 4)), false), ((.v 0), false), ((.le (.v 20) (.v 13)), false), ((.le (.c 1200) (.v 1)), true), ((.le (.v 1) (.c 1455)), true), ((.le (.c 2400) (.v 14)), true), ((.le (.v 14) (.c 200000)), true), ((.le (.c 0) (.v 20)), true), ((.le (.v 20) (.c 1000)), true), ((.le (.c 0) (.v 21)), true), ((.le (.v 21) (.c 2000)), true), ((.le (.c (-1)) (.v 13)), true), ((.le (.v 13) (.c 1000)), true), ((.le (.c (-1)) (.v 11)), true), ((.le (.v 11) (.c 1000)), true)]
noncomputable def gx14 : Vl := .out 2 [.i ge23 ge15, .i ge1 ge1, .i ge3 ge3, .i (.v 14) ge19, .i (.v 5) (.v 5), .i (.v 6) (.v 6), .i (.v 10) (.v 10), .b (.v 0) (.v 0), .i (.v 11) (.v 11), .i (.v 12) (.v 12), .i (.v 11) (.v 11), .b (.lt (.v 14) (.v 15)) (.lt (.v 14) (.v 15)), .i ge21 ge15, .i ge21 ge15, .i (.v 16) (.v 16), .i (.v 17) (.v 17), .i (.v 18) (.v 18), .i (.v 19) (.v 19), .i ge7 ge7, .i ge8 ge8, .i (.v 1) (.v 1)] [((.lt ge21 ge9), false), ((.ap 1002 (.i (.c 0) (.i ge20 .nil))), true), ((.ap 1001 (.i (.c 2) (.i (.c 0) (.i ge16 (.i (.c 1060320051) .nil))))), true), ((.lt ge22 (.v 4)), false), ((.v 0), false), ((.le (.v 20) (.v 13)), false), ((.le (.c 1200) (.v 1)), true), ((.le (.v 1) (.c 1455)), true), ((.le (.c 2400) (.v 14)), true), ((.le (.v 14) (.c 200000)), true), ((.le (.c 0) (.v 20)), true), ((.le (.v 20) (.c 1000)), true), ((.le (.c 0) (.v 21)), true), ((.le (.v 21) (.c 2000)), true), ((.le (.c (-1)) (.v 13)), true), ((.le (.v 13) (.c 1000)), true), ((.le (.c (-1)) (.v 11)), true), ((.le (.v 11) (.c 1000)), true)]
noncomputable def gx15 : Vl := .dead [((.ap 1002 (.i (.c 0) (.i ge20 .nil))), false), ((.ap 1001 (.i (.c 2) (.i (.c 0) (.i ge16 (.i (.c 1060320051) .nil))))), true), ((.lt ge22 (.v 4)), false), ((.v 0), false), ((.le (.v 20) (.v 13)), false), ((.le (.c 1200) (.v 1)), true), ((.le (.v 1) (.c 1455)), true), ((.le (.c 2400) (.v 14)), true), ((.le (.v 14) (.c 200000)), true), ((.le (.c 0) (.v 20)), true), ((.le (.v 20) (.c 1000)), true), ((.le (.c 0) (.v 21)), true), ((.le (.v 21) (.c 2000)), true), ((.le (.c (-1)) (.v 13)), true), ((.le (.v 13) (.c 1000)), true), ((.le (.c (-1)) (.v 11)), true), ((.le (.v 11) (.c 1000)), true)]
noncomputable def gx16 : Vl := .dead [((.ap 1001 (.i (.c 2) (.i (.c 0) (.i ge16 (.i (.c 1060320051) .nil))))), false), ((.lt ge22 (.v 4)), false), ((.v 0), false), ((.le (.v 20) (.v 13)), false), ((.le (.c 1200) (.v 1)), true), ((.le (.v 1) (.c 1455)), true), ((.le (.c 2400) (.v 14)), true), ((.le (.v 14) (.c 200000)), true), ((.le (.c 0) (.v 20)), true), ((.le (.v 20) (.c 1000)), true), ((.le (.c 0) (.v 21)), true), ((.le (.v 21) (.c 2000)), true), ((.le (.c (-1)) (.v 13)), true), ((.le (.v 13) (.c 1000)), true), ((.le (.c (-1)) (.v 11)), true), ((.le (.v 11) (.c 1000)), true)]
noncomputable def gls : List Vl := [gx0, gx1, gx2, gx3, gx4, gx5, gx6, gx7, gx8, gx9, gx10, gx11, gx12, gx13, gx14, gx15, gx16]
theorem grun : (run (prmP Try.prog) 900 (enterD (prmP Try.prog) ct13)).map (vOf (prmP Try.prog) ct13 []) = gls := by kernel_rfl
-- 17 ways; terms: ge0, ge1, ge2, ge3, ge4, ge5, ge6, ge7, ge8, ge9, ge10, ge11, ge12, ge13, ge14, ge15, ge16, ge17, ge18, ge19, ge20, ge21, ge22, ge23


variable {E : Env}
theorem fnsf6 (a b : Int) : fns.f 6 [.i a, .i b] = winR a b := rfl
theorem fnsf7 (a b : Int) : fns.f 7 [.i a, .i b] = winC a b := rfl
theorem fnsf8 (a b c : Int) : fns.f 8 [.i a, .i b, .i c] = evs a b c := rfl
theorem fnsf9 (a b : Int) : fns.f 9 [.i a, .i b] = lastM a b := rfl
theorem ct13_ok : CtOk Try.prog fns ct13 := by
  refine ct_of_pts (p := prmP Try.prog) (pts := []) (n := 900) (c0 := enterD (prmP Try.prog) ct13) (fun E hE => prmP_ok E hE) rfl (by intro q hq; cases hq) Try.func13 (by kernel_rfl) (by intro t ht; cases ht) (fun _ _ _ => True) (fun _ _ _ => 0) gls grun ?_ (by intro i t ht; simp at ht)
  intro E hE hF
  simp only [ct13, cwB, bd, List.cons_append, List.nil_append, facts_cons, facts_nil, le_t, eq_t, d_c, d_v, and_true] at hF
  obtain ⟨a1, a2, b1, b2, n1, n2, y1, y2, lc1, lc2, s1, s2⟩ := hF
  have w1 := winR_ok (sz := E.i 1) ⟨b1, b2⟩ ⟨a1, a2⟩
  have w2 := winC_ok (sz := E.i 1) ⟨b1, b2⟩ ⟨a1, a2⟩
  obtain ⟨r1, r2, r3, r4⟩ := cutR_ok ⟨b1, b2⟩
  obtain ⟨c1, c2, c3, c4⟩ := cutC_ok ⟨b1, b2⟩
  obtain ⟨m1, m2⟩ := lastC_ok ⟨b1, b2⟩
  have e6 : (SE.ap 6 (.i (.v 14) (.i (.v 1) .nil))).den E = winR (E.i 14) (E.i 1) := by simp only [d_c, d_v, d_ap, d_sli, d_slnil, d_bv, d_bc, d_add, d_sub, d_mul, d_wrap, hE, fnsf6]
  have e7 : (SE.ap 7 (.i (.v 14) (.i (.v 1) .nil))).den E = winC (E.i 14) (E.i 1) := by simp only [d_c, d_v, d_ap, d_sli, d_slnil, d_bv, d_bc, d_add, d_sub, d_mul, d_wrap, hE, fnsf7]
  have e8 : (SE.ap 8 (.i (.v 19) (.i (.v 20) (.i (.v 18) .nil)))).den E = evs (E.i 19) (E.i 20) (E.i 18) := by simp only [d_c, d_v, d_ap, d_sli, d_slnil, d_bv, d_bc, d_add, d_sub, d_mul, d_wrap, hE, fnsf8]
  have e9 : (SE.ap 9 (.i (.v 14) (.i (.v 4) .nil))).den E = lastM (E.i 14) (E.i 4) := by simp only [d_c, d_v, d_ap, d_sli, d_slnil, d_bv, d_bc, d_add, d_sub, d_mul, d_wrap, hE, fnsf9]
  have fR : (SE.ap 1000 (.i (.c 1) (.i (.v 14) (.i (.c 0) .nil)))).den E = fl 1 (E.i 14) := E.fn.fb 1000 _ (by decide)
  have fC : (SE.ap 1000 (.i (.c 0) (.i (.v 14) (.i (.c 0) .nil)))).den E = fl 0 (E.i 14) := E.fn.fb 1000 _ (by decide)
  have t12 : ge12.den E = fbase 1001 [.i 2, .i 1, .i (fl 1 (E.i 14)), .i 4604480259023595110] := by
    show E.fn.f 1001 [.i 2, .i 1, .i ((SE.ap 1000 (.i (.c 1) (.i (.v 14) (.i (.c 0) .nil)))).den E), .i 4604480259023595110] = _
    rw [fR, E.fn.fb 1001 _ (by decide)]
  have t13 : ge13.den E = cutR (E.i 14) := by
    show E.fn.f 1002 [.i 1, .i (ge12.den E)] = _
    rw [t12, E.fn.fb 1002 _ (by decide)]; rfl
  have t17 : ge17.den E = fbase 1001 [.i 2, .i 0, .i 1062836634, .i (fl 0 (E.i 14))] := by
    show E.fn.f 1001 [.i 2, .i 0, .i 1062836634, .i ((SE.ap 1000 (.i (.c 0) (.i (.v 14) (.i (.c 0) .nil)))).den E)] = _
    rw [fC, E.fn.fb 1001 _ (by decide)]
  have t18 : ge18.den E = lastC (E.i 14) := by
    show E.fn.f 1002 [.i 0, .i (ge17.den E)] = _
    rw [t17, E.fn.fb 1002 _ (by decide)]; rfl
  have t20 : ge20.den E = fbase 1001 [.i 2, .i 0, .i (fl 0 (E.i 14)), .i 1060320051] := by
    show E.fn.f 1001 [.i 2, .i 0, .i ((SE.ap 1000 (.i (.c 0) (.i (.v 14) (.i (.c 0) .nil)))).den E), .i 1060320051] = _
    rw [fC, E.fn.fb 1001 _ (by decide)]
  have t21 : ge21.den E = cutC (E.i 14) := by
    show E.fn.f 1002 [.i 0, .i (ge20.den E)] = _
    rw [t20, E.fn.fb 1002 _ (by decide)]; rfl
  have g12 : (SB.ap 1001 (.i (.c 2) (.i (.c 1) (.i ge11 (.i (.c 4604480259023595110) .nil))))).den E = true := by
    show E.fn.g 1001 [.i 2, .i 1, .i (ge11.den E), .i 4604480259023595110] = true
    rw [E.fn.gb 1001 _ (by decide), show ge11.den E = fl 1 (E.i 14) from fR]; exact r1
  have g13 : (SB.ap 1002 (.i (.c 1) (.i ge12 .nil))).den E = true := by
    show E.fn.g 1002 [.i 1, .i (ge12.den E)] = true
    rw [E.fn.gb 1002 _ (by decide), t12]; exact r2
  have g17 : (SB.ap 1001 (.i (.c 2) (.i (.c 0) (.i (.c 1062836634) (.i ge16 .nil))))).den E = true := by
    show E.fn.g 1001 [.i 2, .i 0, .i 1062836634, .i (ge16.den E)] = true
    rw [E.fn.gb 1001 _ (by decide), show ge16.den E = fl 0 (E.i 14) from fC]; exact m1
  have g18 : (SB.ap 1002 (.i (.c 0) (.i ge17 .nil))).den E = true := by
    show E.fn.g 1002 [.i 0, .i (ge17.den E)] = true
    rw [E.fn.gb 1002 _ (by decide), t17]; exact m2
  have g20 : (SB.ap 1001 (.i (.c 2) (.i (.c 0) (.i ge16 (.i (.c 1060320051) .nil))))).den E = true := by
    show E.fn.g 1001 [.i 2, .i 0, .i (ge16.den E), .i 1060320051] = true
    rw [E.fn.gb 1001 _ (by decide), show ge16.den E = fl 0 (E.i 14) from fC]; exact c1
  have g21 : (SB.ap 1002 (.i (.c 0) (.i ge20 .nil))).den E = true := by
    show E.fn.g 1002 [.i 0, .i (ge20.den E)] = true
    rw [E.fn.gb 1002 _ (by decide), t20]; exact c2
  have h9 : ge9.den E = E.i 1 * 2 := rfl
  have h22 : ge22.den E = E.i 14 + 1280 := rfl
  have h10 : ge10.den E = winR (E.i 14) (E.i 1) := e6
  have h15 : ge15.den E = winC (E.i 14) (E.i 1) := e7
  have h6 : ge6.den E = evs (E.i 19) (E.i 20) (E.i 18) := e8
  have h19 : ge19.den E = lastM (E.i 14) (E.i 4) := e9
  have h5 : ge5.den E = IntKind.u64.wrap (E.i 19 + 1) := rfl
  have h14 : ge14.den E = cutR (E.i 14) := by show IntKind.u64.wrap (ge13.den E) = _; rw [t13, wrap_u64]; omega
  have h23 : ge23.den E = cutC (E.i 14) := by show IntKind.u64.wrap (ge21.den E) = _; rw [t21, wrap_u64]; omega
  have oR := imx_or (cutR (E.i 14)) (E.i 1 * 2)
  have oC := imx_or (cutC (E.i 14)) (E.i 1 * 2)
  refine ⟨fun a ha => ?_, fun x hx => ?_⟩
  · have key : a.facts = [] ∨ a.facts = bd (l2 6 (.v 14) (.v 1)) 2400 200000 ∨ a.facts = bd (l2 7 (.v 14) (.v 1)) 2400 200000 := by
      simp only [ct13, altSel] at ha
      split at ha
      · obtain rfl := Option.some.inj ha; exact .inl rfl
      · split at ha
        · obtain rfl := Option.some.inj ha; exact .inr (.inl rfl)
        · split at ha
          · obtain rfl := Option.some.inj ha; exact .inr (.inr rfl)
          · cases ha
    rcases key with h | h | h
    · rw [h]; intro q hq; cases hq
    · rw [h]
      simp only [bd, l2, facts_cons, facts_nil, le_t, and_true, e6, d_c]; omega
    · rw [h]
      simp only [bd, l2, facts_cons, facts_nil, le_t, and_true, e7, d_c]; omega
  · unfold gls at hx
    simp only [List.mem_cons, List.not_mem_nil, or_false] at hx
    rcases hx with rfl | rfl | rfl | rfl | rfl | rfl | rfl | rfl | rfl | rfl | rfl | rfl | rfl | rfl | rfl | rfl | rfl
    · intro hf
      refine ⟨?_, ?_⟩
      · have hle := hf ((.le (.v 20) (.v 13)), true) (by simp)
        simp only [ct13, altSel]
        rw [if_pos hle]; rfl
      · simp only [facts_cons, facts_nil, lt_t, lt_f, le_t, le_f, eq_t, eq_f, and_true, d_c, d_v, d_bv, t13, t21, h9, h22] at hf
        simp only [List.forall_mem_cons, List.not_mem_nil, false_imp_iff, implies_true, and_true, true_and, Eqn.ok, d_v, h9, h10, h15, h6, h19, h5, h14, h23, t13, t18, t21, winR, winC, lastM, evs]
        (try and_intros) <;> (repeat' split) <;> omega
    · intro hf
      refine ⟨?_, ?_⟩
      · have hle := hf ((.le (.v 20) (.v 13)), true) (by simp)
        simp only [ct13, altSel]
        rw [if_pos hle]; rfl
      · simp only [facts_cons, facts_nil, lt_t, lt_f, le_t, le_f, eq_t, eq_f, and_true, d_c, d_v, d_bv, t13, t21, h9, h22] at hf
        simp only [List.forall_mem_cons, List.not_mem_nil, false_imp_iff, implies_true, and_true, true_and, Eqn.ok, d_v, h9, h10, h15, h6, h19, h5, h14, h23, t13, t18, t21, winR, winC, lastM, evs]
        (try and_intros) <;> (repeat' split) <;> omega
    · intro hf
      refine ⟨?_, ?_⟩
      · have hle := hf ((.le (.v 20) (.v 13)), true) (by simp)
        simp only [ct13, altSel]
        rw [if_pos hle]; rfl
      · simp only [facts_cons, facts_nil, lt_t, lt_f, le_t, le_f, eq_t, eq_f, and_true, d_c, d_v, d_bv, t13, t21, h9, h22] at hf
        simp only [List.forall_mem_cons, List.not_mem_nil, false_imp_iff, implies_true, and_true, true_and, Eqn.ok, d_v, h9, h10, h15, h6, h19, h5, h14, h23, t13, t18, t21, winR, winC, lastM, evs]
        (try and_intros) <;> (repeat' split) <;> omega
    · intro hf
      refine ⟨?_, ?_⟩
      · have hle := hf ((.le (.v 20) (.v 13)), false) (by simp)
        have hb := hf ((.v 0), true) (by simp)
        simp only [ct13, altSel]
        rw [if_neg (by rw [hle]; decide), if_pos hb]; rfl
      · simp only [facts_cons, facts_nil, lt_t, lt_f, le_t, le_f, eq_t, eq_f, and_true, d_c, d_v, d_bv, t13, t21, h9, h22] at hf
        simp only [List.forall_mem_cons, List.not_mem_nil, false_imp_iff, implies_true, and_true, true_and, Eqn.ok, d_v, h9, h10, h15, h6, h19, h5, h14, h23, t13, t18, t21, winR, winC, lastM, evs]
        (try and_intros) <;> (repeat' split) <;> omega
    · intro hf
      refine ⟨?_, ?_⟩
      · have hle := hf ((.le (.v 20) (.v 13)), false) (by simp)
        have hb := hf ((.v 0), true) (by simp)
        simp only [ct13, altSel]
        rw [if_neg (by rw [hle]; decide), if_pos hb]; rfl
      · simp only [facts_cons, facts_nil, lt_t, lt_f, le_t, le_f, eq_t, eq_f, and_true, d_c, d_v, d_bv, t13, t21, h9, h22] at hf
        simp only [List.forall_mem_cons, List.not_mem_nil, false_imp_iff, implies_true, and_true, true_and, Eqn.ok, d_v, h9, h10, h15, h6, h19, h5, h14, h23, t13, t18, t21, winR, winC, lastM, evs]
        (try and_intros) <;> (repeat' split) <;> omega
    · intro hf
      simp only [facts_cons, g12, g13, g17, g18, g20, g21, reduceCtorEq, Bool.true_eq_false, false_and, and_false] at hf
    · intro hf
      simp only [facts_cons, g12, g13, g17, g18, g20, g21, reduceCtorEq, Bool.true_eq_false, false_and, and_false] at hf
    · intro hf
      refine ⟨?_, ?_⟩
      · have hle := hf ((.le (.v 20) (.v 13)), false) (by simp)
        have hb := hf ((.v 0), false) (by simp)
        simp only [ct13, altSel]
        rw [if_neg (by rw [hle]; decide), if_neg (by rw [hb]; decide)]; rfl
      · simp only [facts_cons, facts_nil, lt_t, lt_f, le_t, le_f, eq_t, eq_f, and_true, d_c, d_v, d_bv, t13, t21, h9, h22] at hf
        simp only [List.forall_mem_cons, List.not_mem_nil, false_imp_iff, implies_true, and_true, true_and, Eqn.ok, d_v, h9, h10, h15, h6, h19, h5, h14, h23, t13, t18, t21, winR, winC, lastM, evs]
        (try and_intros) <;> (repeat' split) <;> omega
    · intro hf
      refine ⟨?_, ?_⟩
      · have hle := hf ((.le (.v 20) (.v 13)), false) (by simp)
        have hb := hf ((.v 0), false) (by simp)
        simp only [ct13, altSel]
        rw [if_neg (by rw [hle]; decide), if_neg (by rw [hb]; decide)]; rfl
      · simp only [facts_cons, facts_nil, lt_t, lt_f, le_t, le_f, eq_t, eq_f, and_true, d_c, d_v, d_bv, t13, t21, h9, h22] at hf
        simp only [List.forall_mem_cons, List.not_mem_nil, false_imp_iff, implies_true, and_true, true_and, Eqn.ok, d_v, h9, h10, h15, h6, h19, h5, h14, h23, t13, t18, t21, winR, winC, lastM, evs]
        (try and_intros) <;> (repeat' split) <;> omega
    · intro hf
      simp only [facts_cons, g12, g13, g17, g18, g20, g21, reduceCtorEq, Bool.true_eq_false, false_and, and_false] at hf
    · intro hf
      simp only [facts_cons, g12, g13, g17, g18, g20, g21, reduceCtorEq, Bool.true_eq_false, false_and, and_false] at hf
    · intro hf
      simp only [facts_cons, g12, g13, g17, g18, g20, g21, reduceCtorEq, Bool.true_eq_false, false_and, and_false] at hf
    · intro hf
      simp only [facts_cons, g12, g13, g17, g18, g20, g21, reduceCtorEq, Bool.true_eq_false, false_and, and_false] at hf
    · intro hf
      refine ⟨?_, ?_⟩
      · have hle := hf ((.le (.v 20) (.v 13)), false) (by simp)
        have hb := hf ((.v 0), false) (by simp)
        simp only [ct13, altSel]
        rw [if_neg (by rw [hle]; decide), if_neg (by rw [hb]; decide)]; rfl
      · simp only [facts_cons, facts_nil, lt_t, lt_f, le_t, le_f, eq_t, eq_f, and_true, d_c, d_v, d_bv, t13, t21, h9, h22] at hf
        simp only [List.forall_mem_cons, List.not_mem_nil, false_imp_iff, implies_true, and_true, true_and, Eqn.ok, d_v, h9, h10, h15, h6, h19, h5, h14, h23, t13, t18, t21, winR, winC, lastM, evs]
        (try and_intros) <;> (repeat' split) <;> omega
    · intro hf
      refine ⟨?_, ?_⟩
      · have hle := hf ((.le (.v 20) (.v 13)), false) (by simp)
        have hb := hf ((.v 0), false) (by simp)
        simp only [ct13, altSel]
        rw [if_neg (by rw [hle]; decide), if_neg (by rw [hb]; decide)]; rfl
      · simp only [facts_cons, facts_nil, lt_t, lt_f, le_t, le_f, eq_t, eq_f, and_true, d_c, d_v, d_bv, t13, t21, h9, h22] at hf
        simp only [List.forall_mem_cons, List.not_mem_nil, false_imp_iff, implies_true, and_true, true_and, Eqn.ok, d_v, h9, h10, h15, h6, h19, h5, h14, h23, t13, t18, t21, winR, winC, lastM, evs]
        (try and_intros) <;> (repeat' split) <;> omega
    · intro hf
      simp only [facts_cons, g12, g13, g17, g18, g20, g21, reduceCtorEq, Bool.true_eq_false, false_and, and_false] at hf
    · intro hf
      simp only [facts_cons, g12, g13, g17, g18, g20, g21, reduceCtorEq, Bool.true_eq_false, false_and, and_false] at hf
end Go.Proofs.Ytlclcnkmdbmceaa
