/- Application data's ReceivedPacket keeps its contracts. -/
import Derived.Test.YtgianhjmjiiadaaQmF
import Derived.Test.YtgianhjmjiiadaaQmZ
import Derived.Test.YtgianhjmjiiadaaQmW
set_option autoImplicit true
set_option relaxedAutoImplicit true
set_option linter.unusedVariables false
set_option linter.unusedSimpArgs false
set_option maxRecDepth 100000
set_option maxHeartbeats 4000000
namespace Go.Proofs.Ytgianhjmjiiadaa
open Go Go.Sy Go.RowKit
theorem d_bnot (E : Env) (x : SB) : (SB.not x).den E = !x.den E := rfl
theorem d_band (E : Env) (x y : SB) : (SB.and x y).den E = (x.den E && y.den E) := rfl
theorem d_bap' (E : Env) (f : Nat) (l : SL) : (SB.ap f l).den E = E.fn.g f (l.den E) := rfl
theorem le_f' {E : Env} {x y : SE} : (SB.le x y).den E = false ↔ ¬ x.den E ≤ y.den E := by simp only [SB.den, decide_eq_false_iff_not]
theorem d_beq (E : Env) (x y : SE) : (SB.eq x y).den E = (x.den E == y.den E) := rfl
noncomputable def h32xe0 : SE := .add (.v 31) (.c 1)
noncomputable def h32xe1 : SE := .ite (.eq (.v 50) (.c 3)) h32xe0 (.v 31)
noncomputable def h32xe2 : SE := .add (.v 32) (.c 1)
noncomputable def h32xe3 : SE := .ite (.eq (.v 50) (.c 2)) h32xe2 (.v 32)
noncomputable def h32xe4 : SE := .add (.v 33) (.c 1)
noncomputable def h32xe5 : SE := .ite (.eq (.v 50) (.c 4)) h32xe4 (.v 33)
noncomputable def h32xe6 : SE := .ite (.le (.v 35) (.v 1)) (.v 51) (.v 34)
noncomputable def h32xe7 : SE := .ite (.le (.v 35) (.v 1)) (.v 1) (.v 35)
noncomputable def h32xe8 : SE := .add (.v 37) (.c 1)
noncomputable def h32xe9 : AE := .ap 3 (.a (.v 0) (.i (.v 0) (.i (.v 1) .nil)))
noncomputable def h32xe10 : SE := .ap 3 (.a (.v 0) (.i (.v 0) (.i (.v 1) .nil)))
noncomputable def h32xe11 : SE := .ite (.v 2) h32xe8 (.v 37)
noncomputable def h32xe12 : SE := .ite (.v 1) (.v 38) (.c 0)
noncomputable def h32xe13 : SE := .add (.v 51) (.c 25000000)
noncomputable def h32xe14 : SE := .ite (.not (.and (.not (.v 1)) (.not (.and (.v 2) (.not (.and (.not (.ap 21 (.i (.v 36) (.i (.v 1) (.a (.v 2) (.i (.v 40) .nil)))))) (.not (.not (.and (.not (.le (.c 2) h32xe8)) (.not (.not (.and (.not (.ap 22 (.a h32xe9 (.i h32xe10 (.i h32xe7 (.i (.v 6) (.a (.v 2) .nil))))))) (.not (.eq (.v 50) (.c 4))))))))))))))) h32xe12 h32xe13
noncomputable def h32xe15 : SE := .ite (.v 2) h32xe14 (.v 38)
noncomputable def h32xe16 : SE := .add (.v 0) (.c 1)
noncomputable def h32xf0 : Fx := [((.le (.c 1) h32xe10), true), ((.le h32xe10 h32xe16), true), ((.ap 1 (.a h32xe9 (.i h32xe10 .nil))), true), ((.le (.c 0) (.v 0)), true), ((.le (.v 0) (.c 60)), true), ((.le (.c 0) (.v 1)), true), ((.le (.v 1) (.c 400)), true), ((.ap 1 (.a (.v 0) (.i (.v 0) .nil))), true), ((.lt (.v 1) (.v 6)), false), ((.ap 6 (.a (.v 0) (.i (.v 0) (.i (.v 1) .nil)))), false), ((.le (.c (-1)) (.v 6)), true), ((.le (.v 6) (.c 1000)), true), ((.le (.c 0) (.v 31)), true), ((.le (.v 31) (.c 1000)), true), ((.le (.c 0) (.v 32)), true), ((.le (.v 32) (.c 1000)), true), ((.le (.c 0) (.v 33)), true), ((.le (.v 33) (.c 1000)), true), ((.le (.c 0) (.v 35)), true), ((.le (.v 35) (.c 1000)), true), ((.le (.c 0) (.v 37)), true), ((.le (.v 37) (.c 1000)), true), ((.le (.c 0) (.v 51)), true), ((.le (.v 51) (.c 1000000000000000)), true), ((.le (.v 35) (.c 400)), true), ((.le (.c 1) (.v 40)), true), ((.le (.v 40) (.c 61)), true), ((.ap 2 (.a (.v 2) (.i (.v 40) .nil))), true)]
noncomputable def h32xf1 : Fx := ((.v 2), true) :: ((.le (.v 35) (.v 1)), true) :: h32xf0
noncomputable def h32xf2 : Fx := ((.ap 21 (.i (.v 36) (.i (.v 1) (.a (.v 2) (.i (.v 40) .nil))))), false) :: ((.v 1), false) :: h32xf1
noncomputable def h32xf3 : Fx := ((.le h32xe10 (.c 61)), true) :: ((.le (.c 2) h32xe8), false) :: h32xf2
noncomputable def h32xf4 : Fx := ((.ap 22 (.a h32xe9 (.i h32xe10 (.i (.v 1) (.i (.v 6) (.a (.v 2) .nil)))))), false) :: h32xf3
noncomputable def h32xf5 : Fx := ((.v 2), true) :: ((.le (.v 35) (.v 1)), false) :: h32xf0
noncomputable def h32xf6 : Fx := ((.ap 21 (.i (.v 36) (.i (.v 1) (.a (.v 2) (.i (.v 40) .nil))))), false) :: ((.v 1), false) :: h32xf5
noncomputable def h32xf7 : Fx := ((.le h32xe10 (.c 61)), true) :: ((.le (.c 2) h32xe8), false) :: h32xf6
noncomputable def h32xf8 : Fx := ((.ap 22 (.a h32xe9 (.i h32xe10 (.i (.v 35) (.i (.v 6) (.a (.v 2) .nil)))))), false) :: h32xf7
noncomputable def h32xx0 : Vl := .out 0 [.i h32xe1 h32xe1, .i h32xe3 h32xe3, .i h32xe5 h32xe5, .i (.v 6) (.v 6), .b (.not (.and (.not (.v 0)) (.not (.v 2)))) (.not (.and (.not (.v 0)) (.not (.v 2)))), .i (.v 51) h32xe6, .i (.v 1) h32xe7, .i (.v 36) (.v 36), .b (.v 1) (.not (.and (.not (.v 1)) (.not (.and (.v 2) (.not (.and (.not (.ap 21 (.i (.v 36) (.i (.v 1) (.a (.v 2) (.i (.v 40) .nil)))))) (.not (.not (.and (.not (.le (.c 2) h32xe8)) (.not (.not (.and (.not (.ap 22 (.a h32xe9 (.i h32xe10 (.i h32xe7 (.i (.v 6) (.a (.v 2) .nil))))))) (.not (.eq (.v 50) (.c 4))))))))))))))), .i h32xe8 h32xe11, .i (.v 38) h32xe15, .i (.v 39) (.v 39), .i (.v 41) (.v 41), .i (.v 42) (.v 42), .i (.v 43) (.v 43), .i (.v 44) (.v 44), .a (.v 2) (.v 2) (.v 40) 2, .i (.v 40) (.v 40), .a h32xe9 h32xe9 h32xe10 2, .i h32xe10 h32xe10] (((.v 1), true) :: h32xf1)
noncomputable def h32xx1 : Vl := .out 0 [.i h32xe1 h32xe1, .i h32xe3 h32xe3, .i h32xe5 h32xe5, .i (.v 6) (.v 6), .b (.not (.and (.not (.v 0)) (.not (.v 2)))) (.not (.and (.not (.v 0)) (.not (.v 2)))), .i (.v 51) h32xe6, .i (.v 1) h32xe7, .i (.v 36) (.v 36), .b (.c true) (.not (.and (.not (.v 1)) (.not (.and (.v 2) (.not (.and (.not (.ap 21 (.i (.v 36) (.i (.v 1) (.a (.v 2) (.i (.v 40) .nil)))))) (.not (.not (.and (.not (.le (.c 2) h32xe8)) (.not (.not (.and (.not (.ap 22 (.a h32xe9 (.i h32xe10 (.i h32xe7 (.i (.v 6) (.a (.v 2) .nil))))))) (.not (.eq (.v 50) (.c 4))))))))))))))), .i h32xe8 h32xe11, .i (.c 0) h32xe15, .i (.v 39) (.v 39), .i (.v 41) (.v 41), .i (.v 42) (.v 42), .i (.v 43) (.v 43), .i (.v 44) (.v 44), .a (.v 2) (.v 2) (.v 40) 2, .i (.v 40) (.v 40), .a h32xe9 h32xe9 h32xe10 2, .i h32xe10 h32xe10] (((.ap 21 (.i (.v 36) (.i (.v 1) (.a (.v 2) (.i (.v 40) .nil))))), true) :: ((.v 1), false) :: h32xf1)
noncomputable def h32xx2 : Vl := .out 0 [.i h32xe1 h32xe1, .i h32xe3 h32xe3, .i h32xe5 h32xe5, .i (.v 6) (.v 6), .b (.not (.and (.not (.v 0)) (.not (.v 2)))) (.not (.and (.not (.v 0)) (.not (.v 2)))), .i (.v 51) h32xe6, .i (.v 1) h32xe7, .i (.v 36) (.v 36), .b (.c true) (.not (.and (.not (.v 1)) (.not (.and (.v 2) (.not (.and (.not (.ap 21 (.i (.v 36) (.i (.v 1) (.a (.v 2) (.i (.v 40) .nil)))))) (.not (.not (.and (.not (.le (.c 2) h32xe8)) (.not (.not (.and (.not (.ap 22 (.a h32xe9 (.i h32xe10 (.i h32xe7 (.i (.v 6) (.a (.v 2) .nil))))))) (.not (.eq (.v 50) (.c 4))))))))))))))), .i h32xe8 h32xe11, .i (.c 0) h32xe15, .i (.v 39) (.v 39), .i (.v 41) (.v 41), .i (.v 42) (.v 42), .i (.v 43) (.v 43), .i (.v 44) (.v 44), .a (.v 2) (.v 2) (.v 40) 2, .i (.v 40) (.v 40), .a h32xe9 h32xe9 h32xe10 2, .i h32xe10 h32xe10] (((.le (.c 2) h32xe8), true) :: h32xf2)
noncomputable def h32xx3 : Vl := .out 0 [.i h32xe1 h32xe1, .i h32xe3 h32xe3, .i h32xe5 h32xe5, .i (.v 6) (.v 6), .b (.not (.and (.not (.v 0)) (.not (.v 2)))) (.not (.and (.not (.v 0)) (.not (.v 2)))), .i (.v 51) h32xe6, .i (.v 1) h32xe7, .i (.v 36) (.v 36), .b (.c true) (.not (.and (.not (.v 1)) (.not (.and (.v 2) (.not (.and (.not (.ap 21 (.i (.v 36) (.i (.v 1) (.a (.v 2) (.i (.v 40) .nil)))))) (.not (.not (.and (.not (.le (.c 2) h32xe8)) (.not (.not (.and (.not (.ap 22 (.a h32xe9 (.i h32xe10 (.i h32xe7 (.i (.v 6) (.a (.v 2) .nil))))))) (.not (.eq (.v 50) (.c 4))))))))))))))), .i h32xe8 h32xe11, .i (.c 0) h32xe15, .i (.v 39) (.v 39), .i (.v 41) (.v 41), .i (.v 42) (.v 42), .i (.v 43) (.v 43), .i (.v 44) (.v 44), .a (.v 2) (.v 2) (.v 40) 2, .i (.v 40) (.v 40), .a h32xe9 h32xe9 h32xe10 2, .i h32xe10 h32xe10] (((.ap 22 (.a h32xe9 (.i h32xe10 (.i (.v 1) (.i (.v 6) (.a (.v 2) .nil)))))), true) :: h32xf3)
noncomputable def h32xx4 : Vl := .out 0 [.i h32xe1 h32xe1, .i h32xe3 h32xe3, .i h32xe5 h32xe5, .i (.v 6) (.v 6), .b (.not (.and (.not (.v 0)) (.not (.v 2)))) (.not (.and (.not (.v 0)) (.not (.v 2)))), .i (.v 51) h32xe6, .i (.v 1) h32xe7, .i (.v 36) (.v 36), .b (.c true) (.not (.and (.not (.v 1)) (.not (.and (.v 2) (.not (.and (.not (.ap 21 (.i (.v 36) (.i (.v 1) (.a (.v 2) (.i (.v 40) .nil)))))) (.not (.not (.and (.not (.le (.c 2) h32xe8)) (.not (.not (.and (.not (.ap 22 (.a h32xe9 (.i h32xe10 (.i h32xe7 (.i (.v 6) (.a (.v 2) .nil))))))) (.not (.eq (.v 50) (.c 4))))))))))))))), .i h32xe8 h32xe11, .i (.c 0) h32xe15, .i (.v 39) (.v 39), .i (.v 41) (.v 41), .i (.v 42) (.v 42), .i (.v 43) (.v 43), .i (.v 44) (.v 44), .a (.v 2) (.v 2) (.v 40) 2, .i (.v 40) (.v 40), .a h32xe9 h32xe9 h32xe10 2, .i h32xe10 h32xe10] (((.eq (.v 50) (.c 4)), true) :: h32xf4)
noncomputable def h32xx5 : Vl := .out 0 [.i h32xe1 h32xe1, .i h32xe3 h32xe3, .i h32xe5 h32xe5, .i (.v 6) (.v 6), .b (.not (.and (.not (.v 0)) (.not (.v 2)))) (.not (.and (.not (.v 0)) (.not (.v 2)))), .i (.v 51) h32xe6, .i (.v 1) h32xe7, .i (.v 36) (.v 36), .b (.v 1) (.not (.and (.not (.v 1)) (.not (.and (.v 2) (.not (.and (.not (.ap 21 (.i (.v 36) (.i (.v 1) (.a (.v 2) (.i (.v 40) .nil)))))) (.not (.not (.and (.not (.le (.c 2) h32xe8)) (.not (.not (.and (.not (.ap 22 (.a h32xe9 (.i h32xe10 (.i h32xe7 (.i (.v 6) (.a (.v 2) .nil))))))) (.not (.eq (.v 50) (.c 4))))))))))))))), .i h32xe8 h32xe11, .i h32xe13 h32xe15, .i (.v 39) (.v 39), .i (.v 41) (.v 41), .i (.v 42) (.v 42), .i (.v 43) (.v 43), .i (.v 44) (.v 44), .a (.v 2) (.v 2) (.v 40) 2, .i (.v 40) (.v 40), .a h32xe9 h32xe9 h32xe10 2, .i h32xe10 h32xe10] (((.eq (.v 50) (.c 4)), false) :: h32xf4)
noncomputable def h32xx6 : Vl := .dead (((.le h32xe10 (.c 61)), false) :: ((.le (.c 2) h32xe8), false) :: h32xf2)
noncomputable def h32xx7 : Vl := .out 0 [.i h32xe1 h32xe1, .i h32xe3 h32xe3, .i h32xe5 h32xe5, .i (.v 6) (.v 6), .b (.not (.and (.not (.v 0)) (.not (.v 2)))) (.not (.and (.not (.v 0)) (.not (.v 2)))), .i (.v 51) h32xe6, .i (.v 1) h32xe7, .i (.v 36) (.v 36), .b (.v 1) (.not (.and (.not (.v 1)) (.not (.and (.v 2) (.not (.and (.not (.ap 21 (.i (.v 36) (.i (.v 1) (.a (.v 2) (.i (.v 40) .nil)))))) (.not (.not (.and (.not (.le (.c 2) h32xe8)) (.not (.not (.and (.not (.ap 22 (.a h32xe9 (.i h32xe10 (.i h32xe7 (.i (.v 6) (.a (.v 2) .nil))))))) (.not (.eq (.v 50) (.c 4))))))))))))))), .i (.v 37) h32xe11, .i (.v 38) h32xe15, .i (.v 39) (.v 39), .i (.v 41) (.v 41), .i (.v 42) (.v 42), .i (.v 43) (.v 43), .i (.v 44) (.v 44), .a (.v 2) (.v 2) (.v 40) 2, .i (.v 40) (.v 40), .a h32xe9 h32xe9 h32xe10 2, .i h32xe10 h32xe10] (((.v 2), false) :: ((.le (.v 35) (.v 1)), true) :: h32xf0)
noncomputable def h32xx8 : Vl := .out 0 [.i h32xe1 h32xe1, .i h32xe3 h32xe3, .i h32xe5 h32xe5, .i (.v 6) (.v 6), .b (.not (.and (.not (.v 0)) (.not (.v 2)))) (.not (.and (.not (.v 0)) (.not (.v 2)))), .i (.v 34) h32xe6, .i (.v 35) h32xe7, .i (.v 36) (.v 36), .b (.v 1) (.not (.and (.not (.v 1)) (.not (.and (.v 2) (.not (.and (.not (.ap 21 (.i (.v 36) (.i (.v 1) (.a (.v 2) (.i (.v 40) .nil)))))) (.not (.not (.and (.not (.le (.c 2) h32xe8)) (.not (.not (.and (.not (.ap 22 (.a h32xe9 (.i h32xe10 (.i h32xe7 (.i (.v 6) (.a (.v 2) .nil))))))) (.not (.eq (.v 50) (.c 4))))))))))))))), .i h32xe8 h32xe11, .i (.v 38) h32xe15, .i (.v 39) (.v 39), .i (.v 41) (.v 41), .i (.v 42) (.v 42), .i (.v 43) (.v 43), .i (.v 44) (.v 44), .a (.v 2) (.v 2) (.v 40) 2, .i (.v 40) (.v 40), .a h32xe9 h32xe9 h32xe10 2, .i h32xe10 h32xe10] (((.v 1), true) :: h32xf5)
noncomputable def h32xx9 : Vl := .out 0 [.i h32xe1 h32xe1, .i h32xe3 h32xe3, .i h32xe5 h32xe5, .i (.v 6) (.v 6), .b (.not (.and (.not (.v 0)) (.not (.v 2)))) (.not (.and (.not (.v 0)) (.not (.v 2)))), .i (.v 34) h32xe6, .i (.v 35) h32xe7, .i (.v 36) (.v 36), .b (.c true) (.not (.and (.not (.v 1)) (.not (.and (.v 2) (.not (.and (.not (.ap 21 (.i (.v 36) (.i (.v 1) (.a (.v 2) (.i (.v 40) .nil)))))) (.not (.not (.and (.not (.le (.c 2) h32xe8)) (.not (.not (.and (.not (.ap 22 (.a h32xe9 (.i h32xe10 (.i h32xe7 (.i (.v 6) (.a (.v 2) .nil))))))) (.not (.eq (.v 50) (.c 4))))))))))))))), .i h32xe8 h32xe11, .i (.c 0) h32xe15, .i (.v 39) (.v 39), .i (.v 41) (.v 41), .i (.v 42) (.v 42), .i (.v 43) (.v 43), .i (.v 44) (.v 44), .a (.v 2) (.v 2) (.v 40) 2, .i (.v 40) (.v 40), .a h32xe9 h32xe9 h32xe10 2, .i h32xe10 h32xe10] (((.ap 21 (.i (.v 36) (.i (.v 1) (.a (.v 2) (.i (.v 40) .nil))))), true) :: ((.v 1), false) :: h32xf5)
noncomputable def h32xx10 : Vl := .out 0 [.i h32xe1 h32xe1, .i h32xe3 h32xe3, .i h32xe5 h32xe5, .i (.v 6) (.v 6), .b (.not (.and (.not (.v 0)) (.not (.v 2)))) (.not (.and (.not (.v 0)) (.not (.v 2)))), .i (.v 34) h32xe6, .i (.v 35) h32xe7, .i (.v 36) (.v 36), .b (.c true) (.not (.and (.not (.v 1)) (.not (.and (.v 2) (.not (.and (.not (.ap 21 (.i (.v 36) (.i (.v 1) (.a (.v 2) (.i (.v 40) .nil)))))) (.not (.not (.and (.not (.le (.c 2) h32xe8)) (.not (.not (.and (.not (.ap 22 (.a h32xe9 (.i h32xe10 (.i h32xe7 (.i (.v 6) (.a (.v 2) .nil))))))) (.not (.eq (.v 50) (.c 4))))))))))))))), .i h32xe8 h32xe11, .i (.c 0) h32xe15, .i (.v 39) (.v 39), .i (.v 41) (.v 41), .i (.v 42) (.v 42), .i (.v 43) (.v 43), .i (.v 44) (.v 44), .a (.v 2) (.v 2) (.v 40) 2, .i (.v 40) (.v 40), .a h32xe9 h32xe9 h32xe10 2, .i h32xe10 h32xe10] (((.le (.c 2) h32xe8), true) :: h32xf6)
noncomputable def h32xx11 : Vl := .out 0 [.i h32xe1 h32xe1, .i h32xe3 h32xe3, .i h32xe5 h32xe5, .i (.v 6) (.v 6), .b (.not (.and (.not (.v 0)) (.not (.v 2)))) (.not (.and (.not (.v 0)) (.not (.v 2)))), .i (.v 34) h32xe6, .i (.v 35) h32xe7, .i (.v 36) (.v 36), .b (.c true) (.not (.and (.not (.v 1)) (.not (.and (.v 2) (.not (.and (.not (.ap 21 (.i (.v 36) (.i (.v 1) (.a (.v 2) (.i (.v 40) .nil)))))) (.not (.not (.and (.not (.le (.c 2) h32xe8)) (.not (.not (.and (.not (.ap 22 (.a h32xe9 (.i h32xe10 (.i h32xe7 (.i (.v 6) (.a (.v 2) .nil))))))) (.not (.eq (.v 50) (.c 4))))))))))))))), .i h32xe8 h32xe11, .i (.c 0) h32xe15, .i (.v 39) (.v 39), .i (.v 41) (.v 41), .i (.v 42) (.v 42), .i (.v 43) (.v 43), .i (.v 44) (.v 44), .a (.v 2) (.v 2) (.v 40) 2, .i (.v 40) (.v 40), .a h32xe9 h32xe9 h32xe10 2, .i h32xe10 h32xe10] (((.ap 22 (.a h32xe9 (.i h32xe10 (.i (.v 35) (.i (.v 6) (.a (.v 2) .nil)))))), true) :: h32xf7)
noncomputable def h32xx12 : Vl := .out 0 [.i h32xe1 h32xe1, .i h32xe3 h32xe3, .i h32xe5 h32xe5, .i (.v 6) (.v 6), .b (.not (.and (.not (.v 0)) (.not (.v 2)))) (.not (.and (.not (.v 0)) (.not (.v 2)))), .i (.v 34) h32xe6, .i (.v 35) h32xe7, .i (.v 36) (.v 36), .b (.c true) (.not (.and (.not (.v 1)) (.not (.and (.v 2) (.not (.and (.not (.ap 21 (.i (.v 36) (.i (.v 1) (.a (.v 2) (.i (.v 40) .nil)))))) (.not (.not (.and (.not (.le (.c 2) h32xe8)) (.not (.not (.and (.not (.ap 22 (.a h32xe9 (.i h32xe10 (.i h32xe7 (.i (.v 6) (.a (.v 2) .nil))))))) (.not (.eq (.v 50) (.c 4))))))))))))))), .i h32xe8 h32xe11, .i (.c 0) h32xe15, .i (.v 39) (.v 39), .i (.v 41) (.v 41), .i (.v 42) (.v 42), .i (.v 43) (.v 43), .i (.v 44) (.v 44), .a (.v 2) (.v 2) (.v 40) 2, .i (.v 40) (.v 40), .a h32xe9 h32xe9 h32xe10 2, .i h32xe10 h32xe10] (((.eq (.v 50) (.c 4)), true) :: h32xf8)
noncomputable def h32xx13 : Vl := .out 0 [.i h32xe1 h32xe1, .i h32xe3 h32xe3, .i h32xe5 h32xe5, .i (.v 6) (.v 6), .b (.not (.and (.not (.v 0)) (.not (.v 2)))) (.not (.and (.not (.v 0)) (.not (.v 2)))), .i (.v 34) h32xe6, .i (.v 35) h32xe7, .i (.v 36) (.v 36), .b (.v 1) (.not (.and (.not (.v 1)) (.not (.and (.v 2) (.not (.and (.not (.ap 21 (.i (.v 36) (.i (.v 1) (.a (.v 2) (.i (.v 40) .nil)))))) (.not (.not (.and (.not (.le (.c 2) h32xe8)) (.not (.not (.and (.not (.ap 22 (.a h32xe9 (.i h32xe10 (.i h32xe7 (.i (.v 6) (.a (.v 2) .nil))))))) (.not (.eq (.v 50) (.c 4))))))))))))))), .i h32xe8 h32xe11, .i h32xe13 h32xe15, .i (.v 39) (.v 39), .i (.v 41) (.v 41), .i (.v 42) (.v 42), .i (.v 43) (.v 43), .i (.v 44) (.v 44), .a (.v 2) (.v 2) (.v 40) 2, .i (.v 40) (.v 40), .a h32xe9 h32xe9 h32xe10 2, .i h32xe10 h32xe10] (((.eq (.v 50) (.c 4)), false) :: h32xf8)
noncomputable def h32xx14 : Vl := .dead (((.le h32xe10 (.c 61)), false) :: ((.le (.c 2) h32xe8), false) :: h32xf6)
noncomputable def h32xx15 : Vl := .out 0 [.i h32xe1 h32xe1, .i h32xe3 h32xe3, .i h32xe5 h32xe5, .i (.v 6) (.v 6), .b (.not (.and (.not (.v 0)) (.not (.v 2)))) (.not (.and (.not (.v 0)) (.not (.v 2)))), .i (.v 34) h32xe6, .i (.v 35) h32xe7, .i (.v 36) (.v 36), .b (.v 1) (.not (.and (.not (.v 1)) (.not (.and (.v 2) (.not (.and (.not (.ap 21 (.i (.v 36) (.i (.v 1) (.a (.v 2) (.i (.v 40) .nil)))))) (.not (.not (.and (.not (.le (.c 2) h32xe8)) (.not (.not (.and (.not (.ap 22 (.a h32xe9 (.i h32xe10 (.i h32xe7 (.i (.v 6) (.a (.v 2) .nil))))))) (.not (.eq (.v 50) (.c 4))))))))))))))), .i (.v 37) h32xe11, .i (.v 38) h32xe15, .i (.v 39) (.v 39), .i (.v 41) (.v 41), .i (.v 42) (.v 42), .i (.v 43) (.v 43), .i (.v 44) (.v 44), .a (.v 2) (.v 2) (.v 40) 2, .i (.v 40) (.v 40), .a h32xe9 h32xe9 h32xe10 2, .i h32xe10 h32xe10] (((.v 2), false) :: ((.le (.v 35) (.v 1)), false) :: h32xf0)
noncomputable def h32xls : List Vl := [h32xx0, h32xx1, h32xx2, h32xx3, h32xx4, h32xx5, h32xx6, h32xx7, h32xx8, h32xx9, h32xx10, h32xx11, h32xx12, h32xx13, h32xx14, h32xx15]
noncomputable def h32ne0 : SE := .add (.v 31) (.c 1)
noncomputable def h32ne1 : SE := .ite (.eq (.v 50) (.c 3)) h32ne0 (.v 31)
noncomputable def h32ne2 : SE := .add (.v 32) (.c 1)
noncomputable def h32ne3 : SE := .ite (.eq (.v 50) (.c 2)) h32ne2 (.v 32)
noncomputable def h32ne4 : SE := .add (.v 33) (.c 1)
noncomputable def h32ne5 : SE := .ite (.eq (.v 50) (.c 4)) h32ne4 (.v 33)
noncomputable def h32ne6 : SE := .ite (.le (.v 35) (.v 1)) (.v 51) (.v 34)
noncomputable def h32ne7 : SE := .ite (.le (.v 35) (.v 1)) (.v 1) (.v 35)
noncomputable def h32ne8 : SE := .add (.v 37) (.c 1)
noncomputable def h32ne9 : SE := .ite (.v 2) h32ne8 (.v 37)
noncomputable def h32ne10 : SE := .ite (.v 1) (.v 38) (.c 0)
noncomputable def h32ne11 : SE := .add (.v 51) (.c 25000000)
noncomputable def h32ne12 : SE := .ite (.not (.and (.not (.v 1)) (.not (.and (.v 2) (.not (.and (.not (.le (.c 2) h32ne8)) (.not (.eq (.v 50) (.c 4))))))))) h32ne10 h32ne11
noncomputable def h32ne13 : SE := .ite (.v 2) h32ne12 (.v 38)
noncomputable def h32ne14 : AE := .ap 3 (.a (.v 0) (.i (.v 0) (.i (.v 1) .nil)))
noncomputable def h32ne15 : SE := .ap 3 (.a (.v 0) (.i (.v 0) (.i (.v 1) .nil)))
noncomputable def h32ne16 : SE := .add (.v 0) (.c 1)
noncomputable def h32nf0 : Fx := [((.le (.c 1) h32ne15), true), ((.le h32ne15 h32ne16), true), ((.ap 1 (.a h32ne14 (.i h32ne15 .nil))), true), ((.le (.c 0) (.v 0)), true), ((.le (.v 0) (.c 60)), true), ((.le (.c 0) (.v 1)), true), ((.le (.v 1) (.c 400)), true), ((.ap 1 (.a (.v 0) (.i (.v 0) .nil))), true), ((.lt (.v 1) (.v 6)), false), ((.ap 6 (.a (.v 0) (.i (.v 0) (.i (.v 1) .nil)))), false), ((.le (.c (-1)) (.v 6)), true), ((.le (.v 6) (.c 1000)), true), ((.le (.c 0) (.v 31)), true), ((.le (.v 31) (.c 1000)), true), ((.le (.c 0) (.v 32)), true), ((.le (.v 32) (.c 1000)), true), ((.le (.c 0) (.v 33)), true), ((.le (.v 33) (.c 1000)), true), ((.le (.c 0) (.v 35)), true), ((.le (.v 35) (.c 1000)), true), ((.le (.c 0) (.v 37)), true), ((.le (.v 37) (.c 1000)), true), ((.le (.c 0) (.v 51)), true), ((.le (.v 51) (.c 1000000000000000)), true), ((.le (.v 35) (.c 400)), true)]
noncomputable def h32nf1 : Fx := ((.v 2), true) :: ((.le (.v 35) (.v 1)), true) :: h32nf0
noncomputable def h32nf2 : Fx := ((.le (.c 2) h32ne8), false) :: ((.v 1), false) :: h32nf1
noncomputable def h32nf3 : Fx := ((.v 2), true) :: ((.le (.v 35) (.v 1)), false) :: h32nf0
noncomputable def h32nf4 : Fx := ((.le (.c 2) h32ne8), false) :: ((.v 1), false) :: h32nf3
noncomputable def h32nx0 : Vl := .out 0 [.i h32ne1 h32ne1, .i h32ne3 h32ne3, .i h32ne5 h32ne5, .i (.v 6) (.v 6), .b (.not (.and (.not (.v 0)) (.not (.v 2)))) (.not (.and (.not (.v 0)) (.not (.v 2)))), .i (.v 51) h32ne6, .i (.v 1) h32ne7, .i (.v 36) (.v 36), .b (.v 1) (.not (.and (.not (.v 1)) (.not (.and (.v 2) (.not (.and (.not (.le (.c 2) h32ne8)) (.not (.eq (.v 50) (.c 4))))))))), .i h32ne8 h32ne9, .i (.v 38) h32ne13, .i (.v 39) (.v 39), .a h32ne14 h32ne14 h32ne15 2, .i h32ne15 h32ne15] (((.v 1), true) :: h32nf1)
noncomputable def h32nx1 : Vl := .out 0 [.i h32ne1 h32ne1, .i h32ne3 h32ne3, .i h32ne5 h32ne5, .i (.v 6) (.v 6), .b (.not (.and (.not (.v 0)) (.not (.v 2)))) (.not (.and (.not (.v 0)) (.not (.v 2)))), .i (.v 51) h32ne6, .i (.v 1) h32ne7, .i (.v 36) (.v 36), .b (.c true) (.not (.and (.not (.v 1)) (.not (.and (.v 2) (.not (.and (.not (.le (.c 2) h32ne8)) (.not (.eq (.v 50) (.c 4))))))))), .i h32ne8 h32ne9, .i (.c 0) h32ne13, .i (.v 39) (.v 39), .a h32ne14 h32ne14 h32ne15 2, .i h32ne15 h32ne15] (((.le (.c 2) h32ne8), true) :: ((.v 1), false) :: h32nf1)
noncomputable def h32nx2 : Vl := .out 0 [.i h32ne1 h32ne1, .i h32ne3 h32ne3, .i h32ne5 h32ne5, .i (.v 6) (.v 6), .b (.not (.and (.not (.v 0)) (.not (.v 2)))) (.not (.and (.not (.v 0)) (.not (.v 2)))), .i (.v 51) h32ne6, .i (.v 1) h32ne7, .i (.v 36) (.v 36), .b (.c true) (.not (.and (.not (.v 1)) (.not (.and (.v 2) (.not (.and (.not (.le (.c 2) h32ne8)) (.not (.eq (.v 50) (.c 4))))))))), .i h32ne8 h32ne9, .i (.c 0) h32ne13, .i (.v 39) (.v 39), .a h32ne14 h32ne14 h32ne15 2, .i h32ne15 h32ne15] (((.eq (.v 50) (.c 4)), true) :: h32nf2)
noncomputable def h32nx3 : Vl := .out 0 [.i h32ne1 h32ne1, .i h32ne3 h32ne3, .i h32ne5 h32ne5, .i (.v 6) (.v 6), .b (.not (.and (.not (.v 0)) (.not (.v 2)))) (.not (.and (.not (.v 0)) (.not (.v 2)))), .i (.v 51) h32ne6, .i (.v 1) h32ne7, .i (.v 36) (.v 36), .b (.v 1) (.not (.and (.not (.v 1)) (.not (.and (.v 2) (.not (.and (.not (.le (.c 2) h32ne8)) (.not (.eq (.v 50) (.c 4))))))))), .i h32ne8 h32ne9, .i h32ne11 h32ne13, .i (.v 39) (.v 39), .a h32ne14 h32ne14 h32ne15 2, .i h32ne15 h32ne15] (((.eq (.v 50) (.c 4)), false) :: h32nf2)
noncomputable def h32nx4 : Vl := .out 0 [.i h32ne1 h32ne1, .i h32ne3 h32ne3, .i h32ne5 h32ne5, .i (.v 6) (.v 6), .b (.not (.and (.not (.v 0)) (.not (.v 2)))) (.not (.and (.not (.v 0)) (.not (.v 2)))), .i (.v 51) h32ne6, .i (.v 1) h32ne7, .i (.v 36) (.v 36), .b (.v 1) (.not (.and (.not (.v 1)) (.not (.and (.v 2) (.not (.and (.not (.le (.c 2) h32ne8)) (.not (.eq (.v 50) (.c 4))))))))), .i (.v 37) h32ne9, .i (.v 38) h32ne13, .i (.v 39) (.v 39), .a h32ne14 h32ne14 h32ne15 2, .i h32ne15 h32ne15] (((.v 2), false) :: ((.le (.v 35) (.v 1)), true) :: h32nf0)
noncomputable def h32nx5 : Vl := .out 0 [.i h32ne1 h32ne1, .i h32ne3 h32ne3, .i h32ne5 h32ne5, .i (.v 6) (.v 6), .b (.not (.and (.not (.v 0)) (.not (.v 2)))) (.not (.and (.not (.v 0)) (.not (.v 2)))), .i (.v 34) h32ne6, .i (.v 35) h32ne7, .i (.v 36) (.v 36), .b (.v 1) (.not (.and (.not (.v 1)) (.not (.and (.v 2) (.not (.and (.not (.le (.c 2) h32ne8)) (.not (.eq (.v 50) (.c 4))))))))), .i h32ne8 h32ne9, .i (.v 38) h32ne13, .i (.v 39) (.v 39), .a h32ne14 h32ne14 h32ne15 2, .i h32ne15 h32ne15] (((.v 1), true) :: h32nf3)
noncomputable def h32nx6 : Vl := .out 0 [.i h32ne1 h32ne1, .i h32ne3 h32ne3, .i h32ne5 h32ne5, .i (.v 6) (.v 6), .b (.not (.and (.not (.v 0)) (.not (.v 2)))) (.not (.and (.not (.v 0)) (.not (.v 2)))), .i (.v 34) h32ne6, .i (.v 35) h32ne7, .i (.v 36) (.v 36), .b (.c true) (.not (.and (.not (.v 1)) (.not (.and (.v 2) (.not (.and (.not (.le (.c 2) h32ne8)) (.not (.eq (.v 50) (.c 4))))))))), .i h32ne8 h32ne9, .i (.c 0) h32ne13, .i (.v 39) (.v 39), .a h32ne14 h32ne14 h32ne15 2, .i h32ne15 h32ne15] (((.le (.c 2) h32ne8), true) :: ((.v 1), false) :: h32nf3)
noncomputable def h32nx7 : Vl := .out 0 [.i h32ne1 h32ne1, .i h32ne3 h32ne3, .i h32ne5 h32ne5, .i (.v 6) (.v 6), .b (.not (.and (.not (.v 0)) (.not (.v 2)))) (.not (.and (.not (.v 0)) (.not (.v 2)))), .i (.v 34) h32ne6, .i (.v 35) h32ne7, .i (.v 36) (.v 36), .b (.c true) (.not (.and (.not (.v 1)) (.not (.and (.v 2) (.not (.and (.not (.le (.c 2) h32ne8)) (.not (.eq (.v 50) (.c 4))))))))), .i h32ne8 h32ne9, .i (.c 0) h32ne13, .i (.v 39) (.v 39), .a h32ne14 h32ne14 h32ne15 2, .i h32ne15 h32ne15] (((.eq (.v 50) (.c 4)), true) :: h32nf4)
noncomputable def h32nx8 : Vl := .out 0 [.i h32ne1 h32ne1, .i h32ne3 h32ne3, .i h32ne5 h32ne5, .i (.v 6) (.v 6), .b (.not (.and (.not (.v 0)) (.not (.v 2)))) (.not (.and (.not (.v 0)) (.not (.v 2)))), .i (.v 34) h32ne6, .i (.v 35) h32ne7, .i (.v 36) (.v 36), .b (.v 1) (.not (.and (.not (.v 1)) (.not (.and (.v 2) (.not (.and (.not (.le (.c 2) h32ne8)) (.not (.eq (.v 50) (.c 4))))))))), .i h32ne8 h32ne9, .i h32ne11 h32ne13, .i (.v 39) (.v 39), .a h32ne14 h32ne14 h32ne15 2, .i h32ne15 h32ne15] (((.eq (.v 50) (.c 4)), false) :: h32nf4)
noncomputable def h32nx9 : Vl := .out 0 [.i h32ne1 h32ne1, .i h32ne3 h32ne3, .i h32ne5 h32ne5, .i (.v 6) (.v 6), .b (.not (.and (.not (.v 0)) (.not (.v 2)))) (.not (.and (.not (.v 0)) (.not (.v 2)))), .i (.v 34) h32ne6, .i (.v 35) h32ne7, .i (.v 36) (.v 36), .b (.v 1) (.not (.and (.not (.v 1)) (.not (.and (.v 2) (.not (.and (.not (.le (.c 2) h32ne8)) (.not (.eq (.v 50) (.c 4))))))))), .i (.v 37) h32ne9, .i (.v 38) h32ne13, .i (.v 39) (.v 39), .a h32ne14 h32ne14 h32ne15 2, .i h32ne15 h32ne15] (((.v 2), false) :: ((.le (.v 35) (.v 1)), false) :: h32nf0)
noncomputable def h32nls : List Vl := [h32nx0, h32nx1, h32nx2, h32nx3, h32nx4, h32nx5, h32nx6, h32nx7, h32nx8, h32nx9]
theorem prm32x_ok (E : Env) (hE : E.fn = fns) : PrmOk E (prm32x Try.prog) := prm_ok E hE (by
    intro c hc
    simp only [prm32x, List.mem_cons, List.not_mem_nil, or_false] at hc
    rcases hc with rfl | rfl | rfl
    · exact ct30t_ok
    · exact ct41t_ok
    · exact ct54t_ok) (by intro b hb; cases hb)
theorem ct32x_ok : CtOk Try.prog fns ct32x := by
  refine ct_of_pts (p := prm32x Try.prog) (pts := []) (n := 900) (c0 := enterD (prm32x Try.prog) ct32x) (fun E hE => prm32x_ok E hE) rfl (by intro q hq; cases hq) Try.func32 (by kernel_rfl) (by intro t ht; cases ht) (fun _ _ _ => True) (fun _ _ _ => 0) h32xls (by kernel_rfl) ?_ (by intro i t ht; cases ht)
  intro E hE hF
  obtain ⟨n, hn, hn60, p0, p1, hr⟩ := pre50 (la := laN) (ex := an2) hE (fun q hq => hF q (by
    have hq' : q ∈ (bd (.v 0) 0 60 ++ bd (.v 1) 0 400) ++ [rgF (.v 0) (.v 0)] := hq
    simp only [ct32x, rcG, rcF, List.mem_append] at hq' ⊢
    rcases hq' with (h | h) | h
    · simp [h]
    · simp [h]
    · simp at h; simp [h]))
  refine ⟨fun a ha => ?_, fun x hx => ?_⟩
  · obtain rfl := Option.some.inj ha; exact ad_facts hE hn p0 (by omega) hr
  · unfold h32xls at hx
    revert x
    simp only [List.forall_mem_cons, List.not_mem_nil, false_imp_iff, implies_true, and_true]
    refine ⟨?_, ?_, ?_, ?_, ?_, ?_, ?_, ?_, ?_, ?_, ?_, ?_, ?_, ?_, ?_, ?_⟩
    all_goals intro hf
    all_goals simp only [h32xf0, h32xf1, h32xf2, h32xf3, h32xf4, h32xf5, h32xf6, h32xf7, h32xf8, facts_cons, facts_nil, h32xe0, h32xe1, h32xe2, h32xe3, h32xe4, h32xe5, h32xe6, h32xe7, h32xe8, h32xe9, h32xe10, h32xe11, h32xe12, h32xe13, h32xe14, h32xe15, h32xe16, lt_t, lt_f, le_t, le_f', eq_t, eq_f, d_v, d_c, d_add, d_ite, d_bap', d_sla, d_sli, d_slnil, d_ap, d_bv, and_true] at hf
    all_goals first | (exfalso; clear hE hr; omega) | skip
    all_goals
      refine ⟨rfl, ?_⟩
      have d1 : (SB.le (.v 35) (.v 1)).den E = false ∧ E.i 1 < E.i 35 ∨ (SB.le (.v 35) (.v 1)).den E = true ∧ E.i 35 ≤ E.i 1 := by
        rcases Int.lt_or_le (E.i 1) (E.i 35) with c | c
        · exact .inl ⟨decide_eq_false (by show ¬ E.i 35 ≤ E.i 1; omega), c⟩
        · exact .inr ⟨decide_eq_true (by show E.i 35 ≤ E.i 1; omega), c⟩
      have d2 : (SB.le (.c 2) (.add (.v 37) (.c 1))).den E = false ∧ E.i 37 + 1 < 2 ∨ (SB.le (.c 2) (.add (.v 37) (.c 1))).den E = true ∧ 2 ≤ E.i 37 + 1 := by
        rcases Int.lt_or_le (E.i 37 + 1) 2 with c | c
        · exact .inl ⟨decide_eq_false (by show ¬ 2 ≤ E.i 37 + 1; omega), c⟩
        · exact .inr ⟨decide_eq_true (by show 2 ≤ E.i 37 + 1; omega), c⟩
      rcases d1 with ⟨d1, c1⟩ | ⟨d1, c1⟩ <;> rcases d2 with ⟨d2, c2⟩ | ⟨d2, c2⟩
      all_goals
        first | (exfalso; clear hE hr d1 d2; omega) | skip
        try (
          simp only [List.forall_mem_cons, List.not_mem_nil, false_imp_iff, implies_true, and_true, true_and, Eqn.ok, h32xe0, h32xe1, h32xe2, h32xe3, h32xe4, h32xe5, h32xe6, h32xe7, h32xe8, h32xe9, h32xe10, h32xe11, h32xe12, h32xe13, h32xe14, h32xe15, h32xe16, d_bnot, d_band, d_beq, d_v, d_c, d_add, d_ite, d_bap', d_sla, d_sli, d_slnil, d_ap, d_bv, d_bc, d1, d2]
          simp_all)
theorem prm32n_ok (E : Env) (hE : E.fn = fns) : PrmOk E (prm32n Try.prog) := prm_ok E hE (by
    intro c hc
    simp only [prm32n, List.mem_cons, List.not_mem_nil, or_false] at hc
    rcases hc with rfl
    exact ct30n_ok) (by intro b hb; cases hb)
theorem ct32n_ok : CtOk Try.prog fns ct32n := by
  refine ct_of_pts (p := prm32n Try.prog) (pts := []) (n := 900) (c0 := enterD (prm32n Try.prog) ct32n) (fun E hE => prm32n_ok E hE) rfl (by intro q hq; cases hq) Try.func32 (by kernel_rfl) (by intro t ht; cases ht) (fun _ _ _ => True) (fun _ _ _ => 0) h32nls (by kernel_rfl) ?_ (by intro i t ht; cases ht)
  intro E hE hF
  obtain ⟨n, hn, hn60, p0, p1, hr⟩ := pre50 (la := laN) (ex := an2) hE (fun q hq => hF q (by
    have hq' : q ∈ (bd (.v 0) 0 60 ++ bd (.v 1) 0 400) ++ [rgF (.v 0) (.v 0)] := hq
    simp only [ct32n, rcG, rcF, List.mem_append] at hq' ⊢
    rcases hq' with (h | h) | h
    · simp [h]
    · simp [h]
    · simp at h; simp [h]))
  refine ⟨fun a ha => ?_, fun x hx => ?_⟩
  · obtain rfl := Option.some.inj ha; exact ad_facts hE hn p0 (by omega) hr
  · unfold h32nls at hx
    revert x
    simp only [List.forall_mem_cons, List.not_mem_nil, false_imp_iff, implies_true, and_true]
    refine ⟨?_, ?_, ?_, ?_, ?_, ?_, ?_, ?_, ?_, ?_⟩
    all_goals intro hf
    all_goals simp only [h32nf0, h32nf1, h32nf2, h32nf3, h32nf4, facts_cons, facts_nil, h32ne0, h32ne1, h32ne2, h32ne3, h32ne4, h32ne5, h32ne6, h32ne7, h32ne8, h32ne9, h32ne10, h32ne11, h32ne12, h32ne13, h32ne14, h32ne15, h32ne16, lt_t, lt_f, le_t, le_f', eq_t, eq_f, d_v, d_c, d_add, d_ite, d_bap', d_sla, d_sli, d_slnil, d_ap, d_bv, and_true] at hf
    all_goals first | (exfalso; clear hE hr; omega) | skip
    all_goals
      refine ⟨rfl, ?_⟩
      have d1 : (SB.le (.v 35) (.v 1)).den E = false ∧ E.i 1 < E.i 35 ∨ (SB.le (.v 35) (.v 1)).den E = true ∧ E.i 35 ≤ E.i 1 := by
        rcases Int.lt_or_le (E.i 1) (E.i 35) with c | c
        · exact .inl ⟨decide_eq_false (by show ¬ E.i 35 ≤ E.i 1; omega), c⟩
        · exact .inr ⟨decide_eq_true (by show E.i 35 ≤ E.i 1; omega), c⟩
      have d2 : (SB.le (.c 2) (.add (.v 37) (.c 1))).den E = false ∧ E.i 37 + 1 < 2 ∨ (SB.le (.c 2) (.add (.v 37) (.c 1))).den E = true ∧ 2 ≤ E.i 37 + 1 := by
        rcases Int.lt_or_le (E.i 37 + 1) 2 with c | c
        · exact .inl ⟨decide_eq_false (by show ¬ 2 ≤ E.i 37 + 1; omega), c⟩
        · exact .inr ⟨decide_eq_true (by show 2 ≤ E.i 37 + 1; omega), c⟩
      rcases d1 with ⟨d1, c1⟩ | ⟨d1, c1⟩ <;> rcases d2 with ⟨d2, c2⟩ | ⟨d2, c2⟩
      all_goals
        first | (exfalso; clear hE hr d1 d2; omega) | skip
        try (
          simp only [List.forall_mem_cons, List.not_mem_nil, false_imp_iff, implies_true, and_true, true_and, Eqn.ok, h32ne0, h32ne1, h32ne2, h32ne3, h32ne4, h32ne5, h32ne6, h32ne7, h32ne8, h32ne9, h32ne10, h32ne11, h32ne12, h32ne13, h32ne14, h32ne15, h32ne16, d_bnot, d_band, d_beq, d_v, d_c, d_add, d_ite, d_bap', d_sla, d_sli, d_slnil, d_ap, d_bv, d_bc, d1, d2]
          simp_all)
end Go.Proofs.Ytgianhjmjiiadaa
