/- Runs of the play with 2 streams. -/
import Derived.Test.YtpjifimjoinnnaaDoorFcO
import Derived.Test.YtpjifimjoinnnaaDoorFcD
import Derived.KernelRfl
set_option autoImplicit true
set_option relaxedAutoImplicit true
set_option linter.unusedVariables false
set_option linter.unusedSimpArgs false
set_option maxRecDepth 100000
set_option maxHeartbeats 4000000
namespace Go.Proofs.YtpjifimjoinnnaaDoor
open Go Go.Sy Go.RowKit
variable {E0 E : Env} {k : Nat}
noncomputable def a2e0 : SE := .rd (.v 2) (.c 5)
noncomputable def a2e1 : SE := .rd (.v 2) (.c 4)
noncomputable def a2e2 : SE := .rd (.v 2) (.c 3)
noncomputable def a2e3 : SE := .rd (.v 2) (.c 2)
noncomputable def a2e4 : SE := .rd (.v 2) (.c 1)
noncomputable def a2e5 : SE := .rd (.v 2) (.c 0)
noncomputable def a2e6 : SE := .mx (.c 0) (.v 14)
noncomputable def a2x0 : Vl := .go 0 [(210, (.c 0)), (209, a2e0), (208, (.c 0)), (207, (.c 0)), (206, (.c 0)), (205, a2e1), (204, a2e2), (203, a2e2), (201, (.c 0)), (202, (.c 0)), (110, (.c 0)), (109, a2e3), (108, (.c 0)), (107, (.c 0)), (106, (.c 0)), (105, a2e4), (104, a2e5), (103, a2e5), (101, (.c 0)), (102, (.c 0)), (11, (.c 0)), (10, a2e6), (9, (.c 0)), (8, (.c 0)), (7, (.c 0)), (6, (.v 13)), (5, (.v 12)), (4, (.v 12)), (2, (.c 0)), (3, (.c 0)), (43, (.c 0)), (40, (.c 100000000)), (42, (.c 100000000)), (41, (.c 100000000)), (20, (.c 0))] [(3, (.c false)), (2, (.c false)), (1, (.c false))] [] [((.le (.c 0) (.v 0)), true), ((.le (.v 0) (.c 1000)), true), ((.le (.c 0) (.v 14)), true), ((.le (.v 14) (.c 1000000)), true), ((.ap 0 (.i (.v 12) (.i (.v 13) (.i (.v 14) (.a (.v 2) (.i (.c 2) (.a (.v 0) (.i (.v 0) .nil)))))))), true)] (.code (.loop (loopB (prm8 2 Tryd.prog).P 8 12))) (loopK (prm8 2 Tryd.prog).P 8 12)
noncomputable def a2ls : List Vl := [a2x0]
theorem a2run : (run (prm8 2 Tryd.prog) 1200 (enterD (prm8 2 Tryd.prog) (ct8 2))).map (vOf (prm8 2 Tryd.prog) (ct8 2) (pts8 2 Tryd.prog)) = a2ls := by kernel_rfl
-- 1 ways; terms: a2e0, a2e1, a2e2, a2e3, a2e4, a2e5, a2e6
noncomputable def p2F : Fx := [((.le (.c 0) (.v 0)), true), ((.le (.v 0) (.c 1000)), true), ((.le (.c 0) (.v 20)), true), ((.le (.v 20) (.c 1000)), true), ((.le (.c 0) (.v 2)), true), ((.le (.v 2) (.c 1000000)), true), ((.le (.c 0) (.v 3)), true), ((.le (.v 3) (.c 1000000)), true), ((.le (.c 0) (.v 4)), true), ((.le (.v 4) (.c 1000000)), true), ((.le (.c 2) (.v 5)), true), ((.le (.v 5) (.c 1000000)), true), ((.le (.c 2) (.v 6)), true), ((.le (.v 6) (.c 1000000)), true), ((.le (.c 0) (.v 7)), true), ((.le (.v 7) (.c 1000000000000000000)), true), ((.le (.c 0) (.v 8)), true), ((.le (.v 8) (.c 1000000)), true), ((.le (.c 0) (.v 9)), true), ((.le (.v 9) (.c 1000000)), true), ((.le (.c 0) (.v 10)), true), ((.le (.v 10) (.c 1000000)), true), ((.le (.c 0) (.v 11)), true), ((.le (.v 11) (.c 1000000)), true), ((.le (.c 1000000) (.v 40)), true), ((.le (.v 40) (.c 260000000)), true), ((.le (.c 0) (.v 101)), true), ((.le (.v 101) (.c 1000000)), true), ((.le (.c 0) (.v 102)), true), ((.le (.v 102) (.c 1000000)), true), ((.le (.c 0) (.v 103)), true), ((.le (.v 103) (.c 1000000)), true), ((.le (.c 2) (.v 104)), true), ((.le (.v 104) (.c 1000000)), true), ((.le (.c 2) (.v 105)), true), ((.le (.v 105) (.c 1000000)), true), ((.le (.c 0) (.v 106)), true), ((.le (.v 106) (.c 1000000000000000000)), true), ((.le (.c 0) (.v 107)), true), ((.le (.v 107) (.c 1000000)), true), ((.le (.c 0) (.v 108)), true), ((.le (.v 108) (.c 1000000)), true), ((.le (.c 0) (.v 109)), true), ((.le (.v 109) (.c 1000000)), true), ((.le (.c 0) (.v 110)), true), ((.le (.v 110) (.c 1000000)), true), ((.le (.c 0) (.v 201)), true), ((.le (.v 201) (.c 1000000)), true), ((.le (.c 0) (.v 202)), true), ((.le (.v 202) (.c 1000000)), true), ((.le (.c 0) (.v 203)), true), ((.le (.v 203) (.c 1000000)), true), ((.le (.c 2) (.v 204)), true), ((.le (.v 204) (.c 1000000)), true), ((.le (.c 2) (.v 205)), true), ((.le (.v 205) (.c 1000000)), true), ((.le (.c 0) (.v 206)), true), ((.le (.v 206) (.c 1000000000000000000)), true), ((.le (.c 0) (.v 207)), true), ((.le (.v 207) (.c 1000000)), true), ((.le (.c 0) (.v 208)), true), ((.le (.v 208) (.c 1000000)), true), ((.le (.c 0) (.v 209)), true), ((.le (.v 209) (.c 1000000)), true), ((.le (.c 0) (.v 210)), true), ((.le (.v 210) (.c 1000000)), true)]
noncomputable def p2e0 : SE := .add (.v 20) (.c 1)
noncomputable def p2e1 : SE := .mul (.v 20) (.c 8)
noncomputable def p2e2 : AE := .tl (.v 1) p2e1 (.i (.c 6) (.i (.c 0) (.b (.c false) (.b (.c false) (.i (.v 103) (.i (.v 104) (.i (.v 4) (.i (.v 5) .nil))))))))
noncomputable def p2e3 : SE := .mul (.v 20) (.c 6)
noncomputable def p2e4 : SE := .add p2e3 (.c 5)
noncomputable def p2e5 : SE := .rd (.v 0) p2e4
noncomputable def p2e6 : SE := .add p2e3 (.c 3)
noncomputable def p2e7 : SE := .rd (.v 0) p2e6
noncomputable def p2e8 : SE := .rd (.v 0) p2e3
noncomputable def p2e9 : SE := .add p2e3 (.c 1)
noncomputable def p2e10 : SE := .rd (.v 0) p2e9
noncomputable def p2e11 : SE := .add p2e3 (.c 4)
noncomputable def p2e12 : SE := .rd (.v 0) p2e11
noncomputable def p2e13 : SE := .sub p2e7 (.v 101)
noncomputable def p2e14 : SE := .ap 10 (.i p2e13 (.i (.v 101) (.i (.v 107) (.i (.v 102) .nil))))
noncomputable def p2e15 : SE := .ap 9 (.i p2e13 (.i (.v 101) (.i (.v 106) (.i p2e12 .nil))))
noncomputable def p2e16 : SE := .mx (.v 101) p2e7
noncomputable def p2e17 : AE := .tl (.v 1) p2e1 (.i (.c 3) (.i (.c 0) (.b (.c false) (.b (.c false) (.i (.v 103) (.i (.v 104) (.i (.v 4) (.i (.v 5) .nil))))))))
noncomputable def p2e18 : SE := .ap 10 (.i p2e13 (.i (.v 2) (.i (.v 8) (.i (.v 3) .nil))))
noncomputable def p2e19 : SE := .ap 9 (.i p2e13 (.i (.v 2) (.i (.v 7) (.i p2e12 .nil))))
noncomputable def p2e20 : SE := .mx (.c 0) p2e13
noncomputable def p2e21 : SE := .add (.v 2) p2e20
noncomputable def p2e22 : SE := .add (.v 2) p2e13
noncomputable def p2e23 : AE := .tl (.v 1) p2e1 (.i (.c 0) (.i (.c 0) (.b (.c false) (.b (.c false) (.i (.v 103) (.i (.v 104) (.i (.v 4) (.i (.v 5) .nil))))))))
noncomputable def p2e24 : SE := .add p2e3 (.c 2)
noncomputable def p2e25 : SE := .rd (.v 0) p2e24
noncomputable def p2e26 : SE := .add (.v 102) p2e25
noncomputable def p2e27 : SE := .add (.v 3) p2e25
noncomputable def p2e28 : SE := .sub (.v 103) p2e26
noncomputable def p2e29 : SE := .mul (.v 104) (.c 3)
noncomputable def p2e30 : SE := .tdiv p2e29 (.c 4)
noncomputable def p2e31 : SE := .sub (.v 4) p2e27
noncomputable def p2e32 : SE := .mul (.v 5) (.c 3)
noncomputable def p2e33 : SE := .tdiv p2e32 (.c 4)
noncomputable def p2e34 : AE := .tl (.v 1) p2e1 (.i (.c 0) (.i (.c 0) (.b (.and (.not (.v 2)) (.le p2e28 p2e30)) (.b (.le p2e31 p2e33) (.i (.v 103) (.i (.v 104) (.i (.v 4) (.i (.v 5) .nil))))))))
noncomputable def p2e35 : SE := .sub (.v 101) (.v 102)
noncomputable def p2e36 : SE := .add (.v 3) p2e35
noncomputable def p2e37 : SE := .ap 3 (.i (.v 102) (.i (.v 103) (.i (.v 104) (.i (.v 107) .nil))))
noncomputable def p2e38 : SE := .ap 2 (.i p2e12 (.i (.v 102) (.i (.v 103) (.i (.v 104) (.i (.v 106) (.i (.v 107) .nil))))))
noncomputable def p2e39 : SE := .ap 1 (.i p2e12 (.i (.v 40) (.i (.v 102) (.i (.v 103) (.i (.v 104) (.i (.v 105) (.i (.v 106) (.i (.v 107) .nil))))))))
noncomputable def p2e40 : SE := .ap 4 (.i p2e12 (.i (.v 40) (.i (.v 102) (.i (.v 103) (.i (.v 104) (.i (.v 105) (.i (.v 106) (.i (.v 107) .nil))))))))
noncomputable def p2e41 : SE := .ap 8 (.i p2e39 (.i (.v 104) (.i (.v 5) (.i (.v 8) (.i (.v 3) .nil)))))
noncomputable def p2e42 : SE := .ap 7 (.i p2e39 (.i (.v 104) (.i (.v 5) (.i (.v 7) (.i p2e12 .nil)))))
noncomputable def p2e43 : SE := .ap 6 (.i p2e39 (.i (.v 104) (.i (.v 5) (.i (.v 6) .nil))))
noncomputable def p2e44 : SE := .ap 5 (.i p2e12 (.i (.v 40) (.i (.v 102) (.i (.v 103) (.i (.v 104) (.i (.v 105) (.i (.v 106) (.i (.v 107) .nil))))))))
noncomputable def p2e45 : AE := .tl (.v 1) p2e1 (.i (.c 0) (.i p2e44 (.b (.c false) (.b (.c false) (.i p2e40 (.i p2e39 (.i (.v 4) (.i p2e43 .nil))))))))
noncomputable def p2e46 : SE := .ap 3 (.i (.v 3) (.i (.v 4) (.i (.v 5) (.i (.v 8) .nil))))
noncomputable def p2e47 : SE := .ap 2 (.i p2e12 (.i (.v 3) (.i (.v 4) (.i (.v 5) (.i (.v 7) (.i (.v 8) .nil))))))
noncomputable def p2e48 : SE := .ap 1 (.i p2e12 (.i (.v 40) (.i (.v 3) (.i (.v 4) (.i (.v 5) (.i (.v 6) (.i (.v 7) (.i (.v 8) .nil))))))))
noncomputable def p2e49 : SE := .ap 4 (.i p2e12 (.i (.v 40) (.i (.v 3) (.i (.v 4) (.i (.v 5) (.i (.v 6) (.i (.v 7) (.i (.v 8) .nil))))))))
noncomputable def p2e50 : SE := .ap 5 (.i p2e12 (.i (.v 40) (.i (.v 3) (.i (.v 4) (.i (.v 5) (.i (.v 6) (.i (.v 7) (.i (.v 8) .nil))))))))
noncomputable def p2e51 : AE := .tl (.v 1) p2e1 (.i (.c 0) (.i p2e50 (.b (.c false) (.b (.c false) (.i (.v 103) (.i (.v 104) (.i p2e49 (.i p2e48 .nil))))))))
noncomputable def p2e52 : SE := .mx (.v 109) p2e25
noncomputable def p2e53 : AE := .tl (.v 1) p2e1 (.i (.c 0) (.i (.c 0) (.b (.lt (.v 109) p2e25) (.b (.c false) (.i (.v 103) (.i (.v 104) (.i (.v 4) (.i (.v 5) .nil))))))))
noncomputable def p2e54 : SE := .mx (.v 10) p2e25
noncomputable def p2e55 : AE := .tl (.v 1) p2e1 (.i (.c 0) (.i (.c 0) (.b (.lt (.v 10) p2e25) (.b (.c false) (.i (.v 103) (.i (.v 104) (.i (.v 4) (.i (.v 5) .nil))))))))
noncomputable def p2e56 : SE := .add (.v 108) p2e25
noncomputable def p2e57 : SE := .add (.v 9) p2e25
noncomputable def p2e58 : AE := .tl (.v 1) p2e1 (.i (.c 0) (.i (.c 0) (.b (.c true) (.b (.c false) (.i (.v 103) (.i (.v 104) (.i (.v 4) (.i (.v 5) .nil))))))))
noncomputable def p2e59 : SE := .sub (.v 109) (.v 108)
noncomputable def p2e60 : SE := .sub (.v 10) (.v 9)
noncomputable def p2e61 : SE := .mn p2e59 p2e60
noncomputable def p2e62 : AE := .tl (.v 1) p2e1 (.i (.c 0) (.i p2e61 (.b (.c false) (.b (.c false) (.i (.v 103) (.i (.v 104) (.i (.v 4) (.i (.v 5) .nil))))))))
noncomputable def p2e63 : SE := .ite (.lt (.v 108) (.v 109)) (.v 110) (.v 109)
noncomputable def p2e64 : AE := .tl (.v 1) p2e1 (.i (.c 0) (.i (.c 0) (.b (.and (.not (.lt (.v 108) (.v 109))) (.not (.eq (.v 109) (.v 110)))) (.b (.c false) (.i (.v 103) (.i (.v 104) (.i (.v 4) (.i (.v 5) .nil))))))))
noncomputable def p2e65 : SE := .ite (.lt (.v 9) (.v 10)) (.v 11) (.v 10)
noncomputable def p2e66 : SE := .ite (.and (.not (.lt (.v 9) (.v 10))) (.not (.eq (.v 10) (.v 11)))) (.v 10) (.c 0)
noncomputable def p2e67 : AE := .tl (.v 1) p2e1 (.i (.c 0) (.i p2e66 (.b (.and (.not (.lt (.v 9) (.v 10))) (.not (.eq (.v 10) (.v 11)))) (.b (.c false) (.i (.v 103) (.i (.v 104) (.i (.v 4) (.i (.v 5) .nil))))))))
noncomputable def p2e68 : SE := .tdiv p2e25 (.c 2)
noncomputable def p2e69 : AE := .tl (.v 1) p2e1 (.i (.c 6) (.i (.c 0) (.b (.c false) (.b (.c false) (.i (.v 203) (.i (.v 204) (.i (.v 4) (.i (.v 5) .nil))))))))
noncomputable def p2e70 : SE := .sub p2e7 (.v 201)
noncomputable def p2e71 : SE := .ap 10 (.i p2e70 (.i (.v 201) (.i (.v 207) (.i (.v 202) .nil))))
noncomputable def p2e72 : SE := .ap 9 (.i p2e70 (.i (.v 201) (.i (.v 206) (.i p2e12 .nil))))
noncomputable def p2e73 : SE := .mx (.v 201) p2e7
noncomputable def p2e74 : AE := .tl (.v 1) p2e1 (.i (.c 3) (.i (.c 0) (.b (.c false) (.b (.c false) (.i (.v 203) (.i (.v 204) (.i (.v 4) (.i (.v 5) .nil))))))))
noncomputable def p2e75 : SE := .ap 10 (.i p2e70 (.i (.v 2) (.i (.v 8) (.i (.v 3) .nil))))
noncomputable def p2e76 : SE := .ap 9 (.i p2e70 (.i (.v 2) (.i (.v 7) (.i p2e12 .nil))))
noncomputable def p2e77 : SE := .mx (.c 0) p2e70
noncomputable def p2e78 : SE := .add (.v 2) p2e77
noncomputable def p2e79 : SE := .add (.v 2) p2e70
noncomputable def p2e80 : AE := .tl (.v 1) p2e1 (.i (.c 0) (.i (.c 0) (.b (.c false) (.b (.c false) (.i (.v 203) (.i (.v 204) (.i (.v 4) (.i (.v 5) .nil))))))))
noncomputable def p2e81 : SE := .add (.v 202) p2e25
noncomputable def p2e82 : SE := .sub (.v 203) p2e81
noncomputable def p2e83 : SE := .mul (.v 204) (.c 3)
noncomputable def p2e84 : SE := .tdiv p2e83 (.c 4)
noncomputable def p2e85 : AE := .tl (.v 1) p2e1 (.i (.c 0) (.i (.c 0) (.b (.and (.not (.v 3)) (.le p2e82 p2e84)) (.b (.le p2e31 p2e33) (.i (.v 203) (.i (.v 204) (.i (.v 4) (.i (.v 5) .nil))))))))
noncomputable def p2e86 : SE := .sub (.v 201) (.v 202)
noncomputable def p2e87 : SE := .add (.v 3) p2e86
noncomputable def p2e88 : SE := .ap 3 (.i (.v 202) (.i (.v 203) (.i (.v 204) (.i (.v 207) .nil))))
noncomputable def p2e89 : SE := .ap 2 (.i p2e12 (.i (.v 202) (.i (.v 203) (.i (.v 204) (.i (.v 206) (.i (.v 207) .nil))))))
noncomputable def p2e90 : SE := .ap 1 (.i p2e12 (.i (.v 40) (.i (.v 202) (.i (.v 203) (.i (.v 204) (.i (.v 205) (.i (.v 206) (.i (.v 207) .nil))))))))
noncomputable def p2e91 : SE := .ap 4 (.i p2e12 (.i (.v 40) (.i (.v 202) (.i (.v 203) (.i (.v 204) (.i (.v 205) (.i (.v 206) (.i (.v 207) .nil))))))))
noncomputable def p2e92 : SE := .ap 8 (.i p2e90 (.i (.v 204) (.i (.v 5) (.i (.v 8) (.i (.v 3) .nil)))))
noncomputable def p2e93 : SE := .ap 7 (.i p2e90 (.i (.v 204) (.i (.v 5) (.i (.v 7) (.i p2e12 .nil)))))
noncomputable def p2e94 : SE := .ap 6 (.i p2e90 (.i (.v 204) (.i (.v 5) (.i (.v 6) .nil))))
noncomputable def p2e95 : SE := .ap 5 (.i p2e12 (.i (.v 40) (.i (.v 202) (.i (.v 203) (.i (.v 204) (.i (.v 205) (.i (.v 206) (.i (.v 207) .nil))))))))
noncomputable def p2e96 : AE := .tl (.v 1) p2e1 (.i (.c 0) (.i p2e95 (.b (.c false) (.b (.c false) (.i p2e91 (.i p2e90 (.i (.v 4) (.i p2e94 .nil))))))))
noncomputable def p2e97 : AE := .tl (.v 1) p2e1 (.i (.c 0) (.i p2e50 (.b (.c false) (.b (.c false) (.i (.v 203) (.i (.v 204) (.i p2e49 (.i p2e48 .nil))))))))
noncomputable def p2e98 : SE := .mx (.v 209) p2e25
noncomputable def p2e99 : AE := .tl (.v 1) p2e1 (.i (.c 0) (.i (.c 0) (.b (.lt (.v 209) p2e25) (.b (.c false) (.i (.v 203) (.i (.v 204) (.i (.v 4) (.i (.v 5) .nil))))))))
noncomputable def p2e100 : AE := .tl (.v 1) p2e1 (.i (.c 0) (.i (.c 0) (.b (.lt (.v 10) p2e25) (.b (.c false) (.i (.v 203) (.i (.v 204) (.i (.v 4) (.i (.v 5) .nil))))))))
noncomputable def p2e101 : SE := .add (.v 208) p2e25
noncomputable def p2e102 : AE := .tl (.v 1) p2e1 (.i (.c 0) (.i (.c 0) (.b (.c true) (.b (.c false) (.i (.v 203) (.i (.v 204) (.i (.v 4) (.i (.v 5) .nil))))))))
noncomputable def p2e103 : SE := .sub (.v 209) (.v 208)
noncomputable def p2e104 : SE := .mn p2e103 p2e60
noncomputable def p2e105 : AE := .tl (.v 1) p2e1 (.i (.c 0) (.i p2e104 (.b (.c false) (.b (.c false) (.i (.v 203) (.i (.v 204) (.i (.v 4) (.i (.v 5) .nil))))))))
noncomputable def p2e106 : SE := .ite (.lt (.v 208) (.v 209)) (.v 210) (.v 209)
noncomputable def p2e107 : AE := .tl (.v 1) p2e1 (.i (.c 0) (.i (.c 0) (.b (.and (.not (.lt (.v 208) (.v 209))) (.not (.eq (.v 209) (.v 210)))) (.b (.c false) (.i (.v 203) (.i (.v 204) (.i (.v 4) (.i (.v 5) .nil))))))))
noncomputable def p2e108 : AE := .tl (.v 1) p2e1 (.i (.c 0) (.i p2e66 (.b (.and (.not (.lt (.v 9) (.v 10))) (.not (.eq (.v 10) (.v 11)))) (.b (.c false) (.i (.v 203) (.i (.v 204) (.i (.v 4) (.i (.v 5) .nil))))))))
noncomputable def p2e109 : AE := .ap 0 (.i (.v 12) (.i (.v 13) (.i (.v 14) (.a (.v 2) (.a (.v 0) .nil)))))
noncomputable def p2f0 : Fx := ((.le (.c 0) p2e8), true) :: ((.lt (.v 20) (.v 0)), true) :: p2F
noncomputable def p2f1 : Fx := ((.le (.c 0) p2e10), true) :: ((.le p2e8 (.c 11)), true) :: p2f0
noncomputable def p2f2 : Fx := ((.le (.c 0) p2e7), true) :: ((.le p2e10 (.c 1)), true) :: p2f1
noncomputable def p2f3 : Fx := ((.le (.c 0) p2e12), true) :: ((.le p2e7 (.c 1000000)), true) :: p2f2
noncomputable def p2f4 : Fx := ((.le p2e12 (.c 1000000000000000000)), true) :: p2f3
noncomputable def p2f5 : Fx := ((.eq p2e8 (.c 0)), true) :: ((.le p2e10 (.c 0)), true) :: p2f4
noncomputable def p2f6 : Fx := ((.and (.v 2) (.and (.not (.eq p2e5 (.c 0))) (.not (.eq p2e7 (.v 101))))), false) :: p2f5
noncomputable def p2f7 : Fx := ((.and (.v 2) (.lt (.v 101) p2e7)), false) :: p2f6
noncomputable def p2f8 : Fx := ((.and (.not (.eq p2e5 (.c 0))) (.lt p2e7 (.v 101))), false) :: p2f7
noncomputable def p2f9 : Fx := ((.and (.lt (.v 101) p2e7) (.lt (.v 103) p2e7)), false) :: p2f8
noncomputable def p2f10 : Fx := ((.eq p2e8 (.c 0)), false) :: ((.le p2e10 (.c 0)), true) :: p2f4
noncomputable def p2f11 : Fx := ((.le (.c 0) p2e25), true) :: ((.eq p2e8 (.c 1)), true) :: p2f10
noncomputable def p2f12 : Fx := ((.eq p2e8 (.c 2)), true) :: ((.eq p2e8 (.c 1)), false) :: p2f10
noncomputable def p2f13 : Fx := ((.eq p2e8 (.c 2)), false) :: ((.eq p2e8 (.c 1)), false) :: p2f10
noncomputable def p2f14 : Fx := ((.eq p2e8 (.c 4)), false) :: ((.eq p2e8 (.c 3)), false) :: p2f13
noncomputable def p2f15 : Fx := ((.eq p2e8 (.c 6)), false) :: ((.eq p2e8 (.c 5)), false) :: p2f14
noncomputable def p2f16 : Fx := ((.le (.c 0) p2e25), true) :: ((.eq p2e8 (.c 7)), true) :: p2f15
noncomputable def p2f17 : Fx := ((.le p2e56 (.v 109)), true) :: ((.le p2e25 (.c 1000000)), true) :: p2f16
noncomputable def p2f18 : Fx := ((.eq p2e8 (.c 8)), false) :: ((.eq p2e8 (.c 7)), false) :: p2f15
noncomputable def p2f19 : Fx := ((.eq p2e8 (.c 10)), false) :: ((.eq p2e8 (.c 9)), false) :: p2f18
noncomputable def p2f20 : Fx := ((.le (.c 1000000) p2e25), true) :: ((.eq p2e8 (.c 11)), true) :: p2f19
noncomputable def p2f21 : Fx := ((.eq p2e8 (.c 0)), true) :: ((.le p2e10 (.c 0)), false) :: p2f4
noncomputable def p2f22 : Fx := ((.and (.v 3) (.and (.not (.eq p2e5 (.c 0))) (.not (.eq p2e7 (.v 201))))), false) :: p2f21
noncomputable def p2f23 : Fx := ((.and (.v 3) (.lt (.v 201) p2e7)), false) :: p2f22
noncomputable def p2f24 : Fx := ((.and (.not (.eq p2e5 (.c 0))) (.lt p2e7 (.v 201))), false) :: p2f23
noncomputable def p2f25 : Fx := ((.and (.lt (.v 201) p2e7) (.lt (.v 203) p2e7)), false) :: p2f24
noncomputable def p2f26 : Fx := ((.eq p2e8 (.c 0)), false) :: ((.le p2e10 (.c 0)), false) :: p2f4
noncomputable def p2f27 : Fx := ((.le (.c 0) p2e25), true) :: ((.eq p2e8 (.c 1)), true) :: p2f26
noncomputable def p2f28 : Fx := ((.eq p2e8 (.c 2)), true) :: ((.eq p2e8 (.c 1)), false) :: p2f26
noncomputable def p2f29 : Fx := ((.eq p2e8 (.c 2)), false) :: ((.eq p2e8 (.c 1)), false) :: p2f26
noncomputable def p2f30 : Fx := ((.eq p2e8 (.c 4)), false) :: ((.eq p2e8 (.c 3)), false) :: p2f29
noncomputable def p2f31 : Fx := ((.eq p2e8 (.c 6)), false) :: ((.eq p2e8 (.c 5)), false) :: p2f30
noncomputable def p2f32 : Fx := ((.le (.c 0) p2e25), true) :: ((.eq p2e8 (.c 7)), true) :: p2f31
noncomputable def p2f33 : Fx := ((.le p2e101 (.v 209)), true) :: ((.le p2e25 (.c 1000000)), true) :: p2f32
noncomputable def p2f34 : Fx := ((.eq p2e8 (.c 8)), false) :: ((.eq p2e8 (.c 7)), false) :: p2f31
noncomputable def p2f35 : Fx := ((.eq p2e8 (.c 10)), false) :: ((.eq p2e8 (.c 9)), false) :: p2f34
noncomputable def p2f36 : Fx := ((.le (.c 1000000) p2e25), true) :: ((.eq p2e8 (.c 11)), true) :: p2f35
noncomputable def p2x0 : Vl := .go 0 [(20, p2e0)] [] [(1, p2e2)] (((.and (.v 2) (.and (.not (.eq p2e5 (.c 0))) (.not (.eq p2e7 (.v 101))))), true) :: p2f5) (.exit .normal) (.loop (loopB (prm8 2 Tryd.prog).P 8 12) :: loopK (prm8 2 Tryd.prog).P 8 12)
noncomputable def p2x1 : Vl := .go 0 [(20, p2e0)] [] [(1, p2e2)] (((.and (.v 2) (.lt (.v 101) p2e7)), true) :: p2f6) (.exit .normal) (.loop (loopB (prm8 2 Tryd.prog).P 8 12) :: loopK (prm8 2 Tryd.prog).P 8 12)
noncomputable def p2x2 : Vl := .go 0 [(20, p2e0)] [(2, (.c true))] [(1, p2e2)] (((.and (.not (.eq p2e5 (.c 0))) (.lt p2e7 (.v 101))), true) :: p2f7) (.exit .normal) (.loop (loopB (prm8 2 Tryd.prog).P 8 12) :: loopK (prm8 2 Tryd.prog).P 8 12)
noncomputable def p2x3 : Vl := .go 0 [(107, p2e14), (106, p2e15), (101, p2e16), (20, p2e0)] [(2, (.not (.and (.not (.v 2)) (.eq p2e5 (.c 0)))))] [(1, p2e17)] (((.and (.lt (.v 101) p2e7) (.lt (.v 103) p2e7)), true) :: p2f8) (.exit .normal) (.loop (loopB (prm8 2 Tryd.prog).P 8 12) :: loopK (prm8 2 Tryd.prog).P 8 12)
noncomputable def p2x4 : Vl := .go 0 [(107, p2e14), (106, p2e15), (101, p2e16), (8, p2e18), (7, p2e19), (2, p2e21), (20, p2e0)] [(2, (.not (.and (.not (.v 2)) (.eq p2e5 (.c 0)))))] [(1, p2e17)] (((.and (.lt (.v 101) p2e7) (.lt (.v 4) p2e22)), true) :: p2f9) (.exit .normal) (.loop (loopB (prm8 2 Tryd.prog).P 8 12) :: loopK (prm8 2 Tryd.prog).P 8 12)
noncomputable def p2x5 : Vl := .go 0 [(107, p2e14), (106, p2e15), (101, p2e16), (8, p2e18), (7, p2e19), (2, p2e21), (20, p2e0)] [(2, (.not (.and (.not (.v 2)) (.eq p2e5 (.c 0)))))] [(1, p2e23)] (((.and (.lt (.v 101) p2e7) (.lt (.v 4) p2e22)), false) :: p2f9) (.exit .normal) (.loop (loopB (prm8 2 Tryd.prog).P 8 12) :: loopK (prm8 2 Tryd.prog).P 8 12)
noncomputable def p2x6 : Vl := .go 0 [(102, p2e26), (3, p2e27), (20, p2e0)] [] [(1, p2e34)] (((.le p2e25 (.c 1000000)), true) :: p2f11) (.exit .normal) (.loop (loopB (prm8 2 Tryd.prog).P 8 12) :: loopK (prm8 2 Tryd.prog).P 8 12)
noncomputable def p2x7 : Vl := .dead (((.le p2e25 (.c 1000000)), false) :: p2f11)
noncomputable def p2x8 : Vl := .dead (((.le (.c 0) p2e25), false) :: ((.eq p2e8 (.c 1)), true) :: p2f10)
noncomputable def p2x9 : Vl := .go 0 [(102, (.v 101)), (3, p2e36), (20, p2e0)] [] [(1, p2e23)] (((.le (.v 102) (.v 101)), true) :: p2f12) (.exit .normal) (.loop (loopB (prm8 2 Tryd.prog).P 8 12) :: loopK (prm8 2 Tryd.prog).P 8 12)
noncomputable def p2x10 : Vl := .dead (((.le (.v 102) (.v 101)), false) :: p2f12)
noncomputable def p2x11 : Vl := .go 0 [(20, p2e0)] [] [(1, p2e23)] (((.v 2), true) :: ((.eq p2e8 (.c 3)), true) :: p2f13) (.exit .normal) (.loop (loopB (prm8 2 Tryd.prog).P 8 12) :: loopK (prm8 2 Tryd.prog).P 8 12)
noncomputable def p2x12 : Vl := .go 0 [(107, p2e37), (106, p2e38), (104, p2e39), (103, p2e40), (8, p2e41), (7, p2e42), (5, p2e43), (20, p2e0)] [] [(1, p2e45)] (((.v 2), false) :: ((.eq p2e8 (.c 3)), true) :: p2f13) (.exit .normal) (.loop (loopB (prm8 2 Tryd.prog).P 8 12) :: loopK (prm8 2 Tryd.prog).P 8 12)
noncomputable def p2x13 : Vl := .go 0 [(8, p2e46), (7, p2e47), (5, p2e48), (4, p2e49), (20, p2e0)] [] [(1, p2e51)] (((.eq p2e8 (.c 4)), true) :: ((.eq p2e8 (.c 3)), false) :: p2f13) (.exit .normal) (.loop (loopB (prm8 2 Tryd.prog).P 8 12) :: loopK (prm8 2 Tryd.prog).P 8 12)
noncomputable def p2x14 : Vl := .go 0 [(109, p2e52), (20, p2e0)] [] [(1, p2e53)] (((.eq p2e8 (.c 5)), true) :: p2f14) (.exit .normal) (.loop (loopB (prm8 2 Tryd.prog).P 8 12) :: loopK (prm8 2 Tryd.prog).P 8 12)
noncomputable def p2x15 : Vl := .go 0 [(10, p2e54), (20, p2e0)] [] [(1, p2e55)] (((.eq p2e8 (.c 6)), true) :: ((.eq p2e8 (.c 5)), false) :: p2f14) (.exit .normal) (.loop (loopB (prm8 2 Tryd.prog).P 8 12) :: loopK (prm8 2 Tryd.prog).P 8 12)
noncomputable def p2x16 : Vl := .go 0 [(108, p2e56), (9, p2e57), (20, p2e0)] [] [(1, p2e58)] (((.le p2e57 (.v 10)), true) :: p2f17) (.exit .normal) (.loop (loopB (prm8 2 Tryd.prog).P 8 12) :: loopK (prm8 2 Tryd.prog).P 8 12)
noncomputable def p2x17 : Vl := .dead (((.le p2e57 (.v 10)), false) :: p2f17)
noncomputable def p2x18 : Vl := .dead (((.le p2e56 (.v 109)), false) :: ((.le p2e25 (.c 1000000)), true) :: p2f16)
noncomputable def p2x19 : Vl := .dead (((.le p2e25 (.c 1000000)), false) :: p2f16)
noncomputable def p2x20 : Vl := .dead (((.le (.c 0) p2e25), false) :: ((.eq p2e8 (.c 7)), true) :: p2f15)
noncomputable def p2x21 : Vl := .go 0 [(20, p2e0)] [] [(1, p2e62)] (((.eq p2e8 (.c 8)), true) :: ((.eq p2e8 (.c 7)), false) :: p2f15) (.exit .normal) (.loop (loopB (prm8 2 Tryd.prog).P 8 12) :: loopK (prm8 2 Tryd.prog).P 8 12)
noncomputable def p2x22 : Vl := .go 0 [(110, p2e63), (20, p2e0)] [] [(1, p2e64)] (((.eq p2e8 (.c 9)), true) :: p2f18) (.exit .normal) (.loop (loopB (prm8 2 Tryd.prog).P 8 12) :: loopK (prm8 2 Tryd.prog).P 8 12)
noncomputable def p2x23 : Vl := .go 0 [(11, p2e65), (20, p2e0)] [] [(1, p2e67)] (((.eq p2e8 (.c 10)), true) :: ((.eq p2e8 (.c 9)), false) :: p2f18) (.exit .normal) (.loop (loopB (prm8 2 Tryd.prog).P 8 12) :: loopK (prm8 2 Tryd.prog).P 8 12)
noncomputable def p2x24 : Vl := .dead (((.v 1), true) :: ((.le p2e25 (.c 260000000)), true) :: p2f20)
noncomputable def p2x25 : Vl := .go 0 [(43, p2e68), (40, p2e25), (42, p2e25), (41, p2e25), (20, p2e0)] [(1, (.c true))] [(1, p2e23)] (((.v 1), false) :: ((.le p2e25 (.c 260000000)), true) :: p2f20) (.exit .normal) (.loop (loopB (prm8 2 Tryd.prog).P 8 12) :: loopK (prm8 2 Tryd.prog).P 8 12)
noncomputable def p2x26 : Vl := .dead (((.le p2e25 (.c 260000000)), false) :: p2f20)
noncomputable def p2x27 : Vl := .dead (((.le (.c 1000000) p2e25), false) :: ((.eq p2e8 (.c 11)), true) :: p2f19)
noncomputable def p2x28 : Vl := .go 0 [(20, p2e0)] [] [(1, p2e23)] (((.eq p2e8 (.c 11)), false) :: p2f19) (.exit .normal) (.loop (loopB (prm8 2 Tryd.prog).P 8 12) :: loopK (prm8 2 Tryd.prog).P 8 12)
noncomputable def p2x29 : Vl := .go 0 [(20, p2e0)] [] [(1, p2e69)] (((.and (.v 3) (.and (.not (.eq p2e5 (.c 0))) (.not (.eq p2e7 (.v 201))))), true) :: p2f21) (.exit .normal) (.loop (loopB (prm8 2 Tryd.prog).P 8 12) :: loopK (prm8 2 Tryd.prog).P 8 12)
noncomputable def p2x30 : Vl := .go 0 [(20, p2e0)] [] [(1, p2e69)] (((.and (.v 3) (.lt (.v 201) p2e7)), true) :: p2f22) (.exit .normal) (.loop (loopB (prm8 2 Tryd.prog).P 8 12) :: loopK (prm8 2 Tryd.prog).P 8 12)
noncomputable def p2x31 : Vl := .go 0 [(20, p2e0)] [(3, (.c true))] [(1, p2e69)] (((.and (.not (.eq p2e5 (.c 0))) (.lt p2e7 (.v 201))), true) :: p2f23) (.exit .normal) (.loop (loopB (prm8 2 Tryd.prog).P 8 12) :: loopK (prm8 2 Tryd.prog).P 8 12)
noncomputable def p2x32 : Vl := .go 0 [(207, p2e71), (206, p2e72), (201, p2e73), (20, p2e0)] [(3, (.not (.and (.not (.v 3)) (.eq p2e5 (.c 0)))))] [(1, p2e74)] (((.and (.lt (.v 201) p2e7) (.lt (.v 203) p2e7)), true) :: p2f24) (.exit .normal) (.loop (loopB (prm8 2 Tryd.prog).P 8 12) :: loopK (prm8 2 Tryd.prog).P 8 12)
noncomputable def p2x33 : Vl := .go 0 [(207, p2e71), (206, p2e72), (201, p2e73), (8, p2e75), (7, p2e76), (2, p2e78), (20, p2e0)] [(3, (.not (.and (.not (.v 3)) (.eq p2e5 (.c 0)))))] [(1, p2e74)] (((.and (.lt (.v 201) p2e7) (.lt (.v 4) p2e79)), true) :: p2f25) (.exit .normal) (.loop (loopB (prm8 2 Tryd.prog).P 8 12) :: loopK (prm8 2 Tryd.prog).P 8 12)
noncomputable def p2x34 : Vl := .go 0 [(207, p2e71), (206, p2e72), (201, p2e73), (8, p2e75), (7, p2e76), (2, p2e78), (20, p2e0)] [(3, (.not (.and (.not (.v 3)) (.eq p2e5 (.c 0)))))] [(1, p2e80)] (((.and (.lt (.v 201) p2e7) (.lt (.v 4) p2e79)), false) :: p2f25) (.exit .normal) (.loop (loopB (prm8 2 Tryd.prog).P 8 12) :: loopK (prm8 2 Tryd.prog).P 8 12)
noncomputable def p2x35 : Vl := .go 0 [(202, p2e81), (3, p2e27), (20, p2e0)] [] [(1, p2e85)] (((.le p2e25 (.c 1000000)), true) :: p2f27) (.exit .normal) (.loop (loopB (prm8 2 Tryd.prog).P 8 12) :: loopK (prm8 2 Tryd.prog).P 8 12)
noncomputable def p2x36 : Vl := .dead (((.le p2e25 (.c 1000000)), false) :: p2f27)
noncomputable def p2x37 : Vl := .dead (((.le (.c 0) p2e25), false) :: ((.eq p2e8 (.c 1)), true) :: p2f26)
noncomputable def p2x38 : Vl := .go 0 [(202, (.v 201)), (3, p2e87), (20, p2e0)] [] [(1, p2e80)] (((.le (.v 202) (.v 201)), true) :: p2f28) (.exit .normal) (.loop (loopB (prm8 2 Tryd.prog).P 8 12) :: loopK (prm8 2 Tryd.prog).P 8 12)
noncomputable def p2x39 : Vl := .dead (((.le (.v 202) (.v 201)), false) :: p2f28)
noncomputable def p2x40 : Vl := .go 0 [(20, p2e0)] [] [(1, p2e80)] (((.v 3), true) :: ((.eq p2e8 (.c 3)), true) :: p2f29) (.exit .normal) (.loop (loopB (prm8 2 Tryd.prog).P 8 12) :: loopK (prm8 2 Tryd.prog).P 8 12)
noncomputable def p2x41 : Vl := .go 0 [(207, p2e88), (206, p2e89), (204, p2e90), (203, p2e91), (8, p2e92), (7, p2e93), (5, p2e94), (20, p2e0)] [] [(1, p2e96)] (((.v 3), false) :: ((.eq p2e8 (.c 3)), true) :: p2f29) (.exit .normal) (.loop (loopB (prm8 2 Tryd.prog).P 8 12) :: loopK (prm8 2 Tryd.prog).P 8 12)
noncomputable def p2x42 : Vl := .go 0 [(8, p2e46), (7, p2e47), (5, p2e48), (4, p2e49), (20, p2e0)] [] [(1, p2e97)] (((.eq p2e8 (.c 4)), true) :: ((.eq p2e8 (.c 3)), false) :: p2f29) (.exit .normal) (.loop (loopB (prm8 2 Tryd.prog).P 8 12) :: loopK (prm8 2 Tryd.prog).P 8 12)
noncomputable def p2x43 : Vl := .go 0 [(209, p2e98), (20, p2e0)] [] [(1, p2e99)] (((.eq p2e8 (.c 5)), true) :: p2f30) (.exit .normal) (.loop (loopB (prm8 2 Tryd.prog).P 8 12) :: loopK (prm8 2 Tryd.prog).P 8 12)
noncomputable def p2x44 : Vl := .go 0 [(10, p2e54), (20, p2e0)] [] [(1, p2e100)] (((.eq p2e8 (.c 6)), true) :: ((.eq p2e8 (.c 5)), false) :: p2f30) (.exit .normal) (.loop (loopB (prm8 2 Tryd.prog).P 8 12) :: loopK (prm8 2 Tryd.prog).P 8 12)
noncomputable def p2x45 : Vl := .go 0 [(208, p2e101), (9, p2e57), (20, p2e0)] [] [(1, p2e102)] (((.le p2e57 (.v 10)), true) :: p2f33) (.exit .normal) (.loop (loopB (prm8 2 Tryd.prog).P 8 12) :: loopK (prm8 2 Tryd.prog).P 8 12)
noncomputable def p2x46 : Vl := .dead (((.le p2e57 (.v 10)), false) :: p2f33)
noncomputable def p2x47 : Vl := .dead (((.le p2e101 (.v 209)), false) :: ((.le p2e25 (.c 1000000)), true) :: p2f32)
noncomputable def p2x48 : Vl := .dead (((.le p2e25 (.c 1000000)), false) :: p2f32)
noncomputable def p2x49 : Vl := .dead (((.le (.c 0) p2e25), false) :: ((.eq p2e8 (.c 7)), true) :: p2f31)
noncomputable def p2x50 : Vl := .go 0 [(20, p2e0)] [] [(1, p2e105)] (((.eq p2e8 (.c 8)), true) :: ((.eq p2e8 (.c 7)), false) :: p2f31) (.exit .normal) (.loop (loopB (prm8 2 Tryd.prog).P 8 12) :: loopK (prm8 2 Tryd.prog).P 8 12)
noncomputable def p2x51 : Vl := .go 0 [(210, p2e106), (20, p2e0)] [] [(1, p2e107)] (((.eq p2e8 (.c 9)), true) :: p2f34) (.exit .normal) (.loop (loopB (prm8 2 Tryd.prog).P 8 12) :: loopK (prm8 2 Tryd.prog).P 8 12)
noncomputable def p2x52 : Vl := .go 0 [(11, p2e65), (20, p2e0)] [] [(1, p2e108)] (((.eq p2e8 (.c 10)), true) :: ((.eq p2e8 (.c 9)), false) :: p2f34) (.exit .normal) (.loop (loopB (prm8 2 Tryd.prog).P 8 12) :: loopK (prm8 2 Tryd.prog).P 8 12)
noncomputable def p2x53 : Vl := .dead (((.v 1), true) :: ((.le p2e25 (.c 260000000)), true) :: p2f36)
noncomputable def p2x54 : Vl := .go 0 [(43, p2e68), (40, p2e25), (42, p2e25), (41, p2e25), (20, p2e0)] [(1, (.c true))] [(1, p2e80)] (((.v 1), false) :: ((.le p2e25 (.c 260000000)), true) :: p2f36) (.exit .normal) (.loop (loopB (prm8 2 Tryd.prog).P 8 12) :: loopK (prm8 2 Tryd.prog).P 8 12)
noncomputable def p2x55 : Vl := .dead (((.le p2e25 (.c 260000000)), false) :: p2f36)
noncomputable def p2x56 : Vl := .dead (((.le (.c 1000000) p2e25), false) :: ((.eq p2e8 (.c 11)), true) :: p2f35)
noncomputable def p2x57 : Vl := .go 0 [(20, p2e0)] [] [(1, p2e80)] (((.eq p2e8 (.c 11)), false) :: p2f35) (.exit .normal) (.loop (loopB (prm8 2 Tryd.prog).P 8 12) :: loopK (prm8 2 Tryd.prog).P 8 12)
noncomputable def p2x58 : Vl := .dead (((.le p2e12 (.c 1000000000000000000)), false) :: p2f3)
noncomputable def p2x59 : Vl := .dead (((.le (.c 0) p2e12), false) :: ((.le p2e7 (.c 1000000)), true) :: p2f2)
noncomputable def p2x60 : Vl := .dead (((.le p2e7 (.c 1000000)), false) :: p2f2)
noncomputable def p2x61 : Vl := .dead (((.le (.c 0) p2e7), false) :: ((.le p2e10 (.c 1)), true) :: p2f1)
noncomputable def p2x62 : Vl := .dead (((.le p2e10 (.c 1)), false) :: p2f1)
noncomputable def p2x63 : Vl := .dead (((.le (.c 0) p2e10), false) :: ((.le p2e8 (.c 11)), true) :: p2f0)
noncomputable def p2x64 : Vl := .dead (((.le p2e8 (.c 11)), false) :: p2f0)
noncomputable def p2x65 : Vl := .dead (((.le (.c 0) p2e8), false) :: ((.lt (.v 20) (.v 0)), true) :: p2F)
noncomputable def p2x66 : Vl := .out 0 [.a (.v 2) (.v 2) (.c 2) 3, .a (.v 0) (.v 0) (.v 0) 6, .i (.v 0) (.v 0), .a (.v 1) p2e109 (.v 0) 8, .i (.v 20) (.v 0)] (((.lt (.v 20) (.v 0)), false) :: p2F)
noncomputable def p2ls : List Vl := [p2x0, p2x1, p2x2, p2x3, p2x4, p2x5, p2x6, p2x7, p2x8, p2x9, p2x10, p2x11, p2x12, p2x13, p2x14, p2x15, p2x16, p2x17, p2x18, p2x19, p2x20, p2x21, p2x22, p2x23, p2x24, p2x25, p2x26, p2x27, p2x28, p2x29, p2x30, p2x31, p2x32, p2x33, p2x34, p2x35, p2x36, p2x37, p2x38, p2x39, p2x40, p2x41, p2x42, p2x43, p2x44, p2x45, p2x46, p2x47, p2x48, p2x49, p2x50, p2x51, p2x52, p2x53, p2x54, p2x55, p2x56, p2x57, p2x58, p2x59, p2x60, p2x61, p2x62, p2x63, p2x64, p2x65, p2x66]
noncomputable def p2q0 : List Vl := [p2x0]
theorem p2r0 : (run (prm8 2 Tryd.prog) (piece (prm8 2 Tryd.prog) 12 1200 (ptD (pts8 2 Tryd.prog) 0 8) 0).1 (piece (prm8 2 Tryd.prog) 12 1200 (ptD (pts8 2 Tryd.prog) 0 8) 0).2).map (vOf (prm8 2 Tryd.prog) (ct8 2) (pts8 2 Tryd.prog)) = p2q0 := by kernel_rfl
noncomputable def p2q1 : List Vl := [p2x1, p2x2, p2x3, p2x4, p2x5]
theorem p2r1 : (run (prm8 2 Tryd.prog) (piece (prm8 2 Tryd.prog) 12 1200 (ptD (pts8 2 Tryd.prog) 0 8) 1).1 (piece (prm8 2 Tryd.prog) 12 1200 (ptD (pts8 2 Tryd.prog) 0 8) 1).2).map (vOf (prm8 2 Tryd.prog) (ct8 2) (pts8 2 Tryd.prog)) = p2q1 := by kernel_rfl
noncomputable def p2q2 : List Vl := [p2x6, p2x7, p2x8]
theorem p2r2 : (run (prm8 2 Tryd.prog) (piece (prm8 2 Tryd.prog) 12 1200 (ptD (pts8 2 Tryd.prog) 0 8) 2).1 (piece (prm8 2 Tryd.prog) 12 1200 (ptD (pts8 2 Tryd.prog) 0 8) 2).2).map (vOf (prm8 2 Tryd.prog) (ct8 2) (pts8 2 Tryd.prog)) = p2q2 := by kernel_rfl
noncomputable def p2q3 : List Vl := [p2x9, p2x10, p2x11, p2x12, p2x13, p2x14, p2x15, p2x16, p2x17, p2x18, p2x19, p2x20, p2x21, p2x22, p2x23, p2x24, p2x25, p2x26, p2x27, p2x28]
theorem p2r3 : (run (prm8 2 Tryd.prog) (piece (prm8 2 Tryd.prog) 12 1200 (ptD (pts8 2 Tryd.prog) 0 8) 3).1 (piece (prm8 2 Tryd.prog) 12 1200 (ptD (pts8 2 Tryd.prog) 0 8) 3).2).map (vOf (prm8 2 Tryd.prog) (ct8 2) (pts8 2 Tryd.prog)) = p2q3 := by kernel_rfl
noncomputable def p2q4 : List Vl := [p2x29]
theorem p2r4 : (run (prm8 2 Tryd.prog) (piece (prm8 2 Tryd.prog) 12 1200 (ptD (pts8 2 Tryd.prog) 0 8) 4).1 (piece (prm8 2 Tryd.prog) 12 1200 (ptD (pts8 2 Tryd.prog) 0 8) 4).2).map (vOf (prm8 2 Tryd.prog) (ct8 2) (pts8 2 Tryd.prog)) = p2q4 := by kernel_rfl
noncomputable def p2q5 : List Vl := [p2x30, p2x31, p2x32, p2x33, p2x34]
theorem p2r5 : (run (prm8 2 Tryd.prog) (piece (prm8 2 Tryd.prog) 12 1200 (ptD (pts8 2 Tryd.prog) 0 8) 5).1 (piece (prm8 2 Tryd.prog) 12 1200 (ptD (pts8 2 Tryd.prog) 0 8) 5).2).map (vOf (prm8 2 Tryd.prog) (ct8 2) (pts8 2 Tryd.prog)) = p2q5 := by kernel_rfl
noncomputable def p2q6 : List Vl := [p2x35, p2x36, p2x37]
theorem p2r6 : (run (prm8 2 Tryd.prog) (piece (prm8 2 Tryd.prog) 12 1200 (ptD (pts8 2 Tryd.prog) 0 8) 6).1 (piece (prm8 2 Tryd.prog) 12 1200 (ptD (pts8 2 Tryd.prog) 0 8) 6).2).map (vOf (prm8 2 Tryd.prog) (ct8 2) (pts8 2 Tryd.prog)) = p2q6 := by kernel_rfl
noncomputable def p2q7 : List Vl := [p2x38, p2x39, p2x40, p2x41, p2x42, p2x43, p2x44, p2x45, p2x46, p2x47, p2x48, p2x49, p2x50, p2x51, p2x52, p2x53, p2x54, p2x55, p2x56, p2x57]
theorem p2r7 : (run (prm8 2 Tryd.prog) (piece (prm8 2 Tryd.prog) 12 1200 (ptD (pts8 2 Tryd.prog) 0 8) 7).1 (piece (prm8 2 Tryd.prog) 12 1200 (ptD (pts8 2 Tryd.prog) 0 8) 7).2).map (vOf (prm8 2 Tryd.prog) (ct8 2) (pts8 2 Tryd.prog)) = p2q7 := by kernel_rfl
noncomputable def p2q8 : List Vl := [p2x58]
theorem p2r8 : (run (prm8 2 Tryd.prog) (piece (prm8 2 Tryd.prog) 12 1200 (ptD (pts8 2 Tryd.prog) 0 8) 8).1 (piece (prm8 2 Tryd.prog) 12 1200 (ptD (pts8 2 Tryd.prog) 0 8) 8).2).map (vOf (prm8 2 Tryd.prog) (ct8 2) (pts8 2 Tryd.prog)) = p2q8 := by kernel_rfl
noncomputable def p2q9 : List Vl := [p2x59]
theorem p2r9 : (run (prm8 2 Tryd.prog) (piece (prm8 2 Tryd.prog) 12 1200 (ptD (pts8 2 Tryd.prog) 0 8) 9).1 (piece (prm8 2 Tryd.prog) 12 1200 (ptD (pts8 2 Tryd.prog) 0 8) 9).2).map (vOf (prm8 2 Tryd.prog) (ct8 2) (pts8 2 Tryd.prog)) = p2q9 := by kernel_rfl
noncomputable def p2q10 : List Vl := [p2x60]
theorem p2r10 : (run (prm8 2 Tryd.prog) (piece (prm8 2 Tryd.prog) 12 1200 (ptD (pts8 2 Tryd.prog) 0 8) 10).1 (piece (prm8 2 Tryd.prog) 12 1200 (ptD (pts8 2 Tryd.prog) 0 8) 10).2).map (vOf (prm8 2 Tryd.prog) (ct8 2) (pts8 2 Tryd.prog)) = p2q10 := by kernel_rfl
noncomputable def p2q11 : List Vl := [p2x61]
theorem p2r11 : (run (prm8 2 Tryd.prog) (piece (prm8 2 Tryd.prog) 12 1200 (ptD (pts8 2 Tryd.prog) 0 8) 11).1 (piece (prm8 2 Tryd.prog) 12 1200 (ptD (pts8 2 Tryd.prog) 0 8) 11).2).map (vOf (prm8 2 Tryd.prog) (ct8 2) (pts8 2 Tryd.prog)) = p2q11 := by kernel_rfl
noncomputable def p2q12 : List Vl := [p2x62]
theorem p2r12 : (run (prm8 2 Tryd.prog) (piece (prm8 2 Tryd.prog) 12 1200 (ptD (pts8 2 Tryd.prog) 0 8) 12).1 (piece (prm8 2 Tryd.prog) 12 1200 (ptD (pts8 2 Tryd.prog) 0 8) 12).2).map (vOf (prm8 2 Tryd.prog) (ct8 2) (pts8 2 Tryd.prog)) = p2q12 := by kernel_rfl
noncomputable def p2q13 : List Vl := [p2x63]
theorem p2r13 : (run (prm8 2 Tryd.prog) (piece (prm8 2 Tryd.prog) 12 1200 (ptD (pts8 2 Tryd.prog) 0 8) 13).1 (piece (prm8 2 Tryd.prog) 12 1200 (ptD (pts8 2 Tryd.prog) 0 8) 13).2).map (vOf (prm8 2 Tryd.prog) (ct8 2) (pts8 2 Tryd.prog)) = p2q13 := by kernel_rfl
noncomputable def p2q14 : List Vl := [p2x64]
theorem p2r14 : (run (prm8 2 Tryd.prog) (piece (prm8 2 Tryd.prog) 12 1200 (ptD (pts8 2 Tryd.prog) 0 8) 14).1 (piece (prm8 2 Tryd.prog) 12 1200 (ptD (pts8 2 Tryd.prog) 0 8) 14).2).map (vOf (prm8 2 Tryd.prog) (ct8 2) (pts8 2 Tryd.prog)) = p2q14 := by kernel_rfl
noncomputable def p2q15 : List Vl := [p2x65]
theorem p2r15 : (run (prm8 2 Tryd.prog) (piece (prm8 2 Tryd.prog) 12 1200 (ptD (pts8 2 Tryd.prog) 0 8) 15).1 (piece (prm8 2 Tryd.prog) 12 1200 (ptD (pts8 2 Tryd.prog) 0 8) 15).2).map (vOf (prm8 2 Tryd.prog) (ct8 2) (pts8 2 Tryd.prog)) = p2q15 := by kernel_rfl
noncomputable def p2q16 : List Vl := [p2x66]
theorem p2r16 : (run (prm8 2 Tryd.prog) (piece (prm8 2 Tryd.prog) 12 1200 (ptD (pts8 2 Tryd.prog) 0 8) 16).1 (piece (prm8 2 Tryd.prog) 12 1200 (ptD (pts8 2 Tryd.prog) 0 8) 16).2).map (vOf (prm8 2 Tryd.prog) (ct8 2) (pts8 2 Tryd.prog)) = p2q16 := by kernel_rfl
theorem p2len : (cutR (prm8 2 Tryd.prog) 12 (1200, (ptD (pts8 2 Tryd.prog) 0 8))).length = 17 := by kernel_rfl
theorem p2run : (run (prm8 2 Tryd.prog) 1200 (ptD (pts8 2 Tryd.prog) 0 8)).map (vOf (prm8 2 Tryd.prog) (ct8 2) (pts8 2 Tryd.prog)) = p2ls := by
  refine (run_pieces (f := (vOf (prm8 2 Tryd.prog) (ct8 2) (pts8 2 Tryd.prog))) (d := 12) (ls := [p2q0, p2q1, p2q2, p2q3, p2q4, p2q5, p2q6, p2q7, p2q8, p2q9, p2q10, p2q11, p2q12, p2q13, p2q14, p2q15, p2q16]) p2len fun j hj => ?_).trans rfl
  simp only [List.length_cons, List.length_nil] at hj
  have hj : j = 0 ∨ j = 1 ∨ j = 2 ∨ j = 3 ∨ j = 4 ∨ j = 5 ∨ j = 6 ∨ j = 7 ∨ j = 8 ∨ j = 9 ∨ j = 10 ∨ j = 11 ∨ j = 12 ∨ j = 13 ∨ j = 14 ∨ j = 15 ∨ j = 16 := by omega
  rcases hj with rfl | rfl | rfl | rfl | rfl | rfl | rfl | rfl | rfl | rfl | rfl | rfl | rfl | rfl | rfl | rfl | rfl
  · exact p2r0
  · exact p2r1
  · exact p2r2
  · exact p2r3
  · exact p2r4
  · exact p2r5
  · exact p2r6
  · exact p2r7
  · exact p2r8
  · exact p2r9
  · exact p2r10
  · exact p2r11
  · exact p2r12
  · exact p2r13
  · exact p2r14
  · exact p2r15
  · exact p2r16
-- 67 ways; terms: p2e0, p2e1, p2e2, p2e3, p2e4, p2e5, p2e6, p2e7, p2e8, p2e9, p2e10, p2e11, p2e12, p2e13, p2e14, p2e15, p2e16, p2e17, p2e18, p2e19, p2e20, p2e21, p2e22, p2e23, p2e24, p2e25, p2e26, p2e27, p2e28, p2e29, p2e30, p2e31, p2e32, p2e33, p2e34, p2e35, p2e36, p2e37, p2e38, p2e39, p2e40, p2e41, p2e42, p2e43, p2e44, p2e45, p2e46, p2e47, p2e48, p2e49, p2e50, p2e51, p2e52, p2e53, p2e54, p2e55, p2e56, p2e57, p2e58, p2e59, p2e60, p2e61, p2e62, p2e63, p2e64, p2e65, p2e66, p2e67, p2e68, p2e69, p2e70, p2e71, p2e72, p2e73, p2e74, p2e75, p2e76, p2e77, p2e78, p2e79, p2e80, p2e81, p2e82, p2e83, p2e84, p2e85, p2e86, p2e87, p2e88, p2e89, p2e90, p2e91, p2e92, p2e93, p2e94, p2e95, p2e96, p2e97, p2e98, p2e99, p2e100, p2e101, p2e102, p2e103, p2e104, p2e105, p2e106, p2e107, p2e108, p2e109
end Go.Proofs.YtpjifimjoinnnaaDoor
