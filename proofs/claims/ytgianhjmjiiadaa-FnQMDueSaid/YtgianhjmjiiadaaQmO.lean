/- Application data's ReceivedPacket keeps its contracts. -/
import Derived.Test.YtgianhjmjiiadaaQmAc
import Derived.Test.YtgianhjmjiiadaaQmW
import Derived.KernelRfl
import Derived.RangeFuncBox
import Derived.RangeFuncLeaves
import Derived.Shelf.Abstract
import Derived.WalkKit
import Derived.OwnWalkIn
import Derived.TacticsInMore
import Derived.LoopNIn
import Derived.LoopIn
import Derived.Maps.AppendAt
import Derived.Shelf.RegionOpen
import Derived.Test.YtgianhjmjiiadaaChecked
import Derived.OrdersIn
import Derived.Great.Frames
import Derived.RangeFuncNested
section
set_option autoImplicit true
set_option relaxedAutoImplicit true
set_option linter.unusedVariables false
set_option linter.unusedSimpArgs false
set_option maxRecDepth 100000
set_option maxHeartbeats 4000000
namespace Go.Proofs.Ytgianhjmjiiadaa
open Go Go.Sy Go.RowKit
theorem d_bnot (E:Env) (x:SB):(SB.not x).den E=!x.den E:=rfl
theorem d_band (E:Env) (x y:SB):(SB.and x y).den E=(x.den E&&y.den E):=rfl
theorem d_bap' (E:Env) (f:Nat) (l:SL):(SB.ap f l).den E=E.fn.g f (l.den E):=rfl
theorem le_f' {E:Env} {x y:SE}:(SB.le x y).den E=false↔ ¬x.den E≤y.den E:=by simp only [SB.den,decide_eq_false_iff_not]
theorem d_beq (E:Env) (x y:SE):(SB.eq x y).den E=(x.den E==y.den E):=rfl
noncomputable def h32xe0:SE:= .add (.v 31) (.c 1)
noncomputable def h32xe1:SE:= .ite (.eq (.v 50) (.c 3)) h32xe0 (.v 31)
noncomputable def h32xe2:SE:= .add (.v 32) (.c 1)
noncomputable def h32xe3:SE:= .ite (.eq (.v 50) (.c 2)) h32xe2 (.v 32)
noncomputable def h32xe4:SE:= .add (.v 33) (.c 1)
noncomputable def h32xe5:SE:= .ite (.eq (.v 50) (.c 4)) h32xe4 (.v 33)
noncomputable def h32xe6:SE:= .ite (.le (.v 35) (.v 1)) (.v 51) (.v 34)
noncomputable def h32xe7:SE:= .ite (.le (.v 35) (.v 1)) (.v 1) (.v 35)
noncomputable def h32xe8:SE:= .add (.v 37) (.c 1)
noncomputable def h32xe9:AE:= .ap 3 (.a (.v 0) (.i (.v 0) (.i (.v 1) .nil)))
noncomputable def h32xe10:SE:= .ap 3 (.a (.v 0) (.i (.v 0) (.i (.v 1) .nil)))
noncomputable def h32xe11:SE:= .ite (.v 2) h32xe8 (.v 37)
noncomputable def h32xe12:SE:= .ite (.v 1) (.v 38) (.c 0)
noncomputable def h32xe13:SE:= .add (.v 51) (.c 25000000)
noncomputable def h32xe14:SE:= .ite (.not (.and (.not (.v 1)) (.not (.and (.v 2) (.not (.and (.not (.ap 21 (.i (.v 36) (.i (.v 1) (.a (.v 2) (.i (.v 40) .nil)))))) (.not (.not (.and (.not (.le (.c 2) h32xe8)) (.not (.not (.and (.not (.ap 22 (.a h32xe9 (.i h32xe10 (.i h32xe7 (.i (.v 6) (.a (.v 2) .nil))))))) (.not (.eq (.v 50) (.c 4))))))))))))))) h32xe12 h32xe13
noncomputable def h32xe15:SE:= .ite (.v 2) h32xe14 (.v 38)
noncomputable def h32xe16:SE:= .add (.v 0) (.c 1)
noncomputable def h32xf0:Fx:=[((.le (.c 1) h32xe10),true),((.le h32xe10 h32xe16),true),((.ap 1 (.a h32xe9 (.i h32xe10 .nil))),true),((.le (.c 0) (.v 0)),true),((.le (.v 0) (.c 60)),true),((.le (.c 0) (.v 1)),true),((.le (.v 1) (.c 400)),true),((.ap 1 (.a (.v 0) (.i (.v 0) .nil))),true),((.lt (.v 1) (.v 6)),false),((.ap 6 (.a (.v 0) (.i (.v 0) (.i (.v 1) .nil)))),false),((.le (.c (-1)) (.v 6)),true),((.le (.v 6) (.c 1000)),true),((.le (.c 0) (.v 31)),true),((.le (.v 31) (.c 1000)),true),((.le (.c 0) (.v 32)),true),((.le (.v 32) (.c 1000)),true),((.le (.c 0) (.v 33)),true),((.le (.v 33) (.c 1000)),true),((.le (.c 0) (.v 35)),true),((.le (.v 35) (.c 1000)),true),((.le (.c 0) (.v 37)),true),((.le (.v 37) (.c 1000)),true),((.le (.c 0) (.v 51)),true),((.le (.v 51) (.c 1000000000000000)),true),((.le (.v 35) (.c 400)),true),((.le (.c 1) (.v 40)),true),((.le (.v 40) (.c 61)),true),((.ap 2 (.a (.v 2) (.i (.v 40) .nil))),true)]
noncomputable def h32xf1:Fx:=((.v 2),true)::((.le (.v 35) (.v 1)),true)::h32xf0
noncomputable def h32xf2:Fx:=((.ap 21 (.i (.v 36) (.i (.v 1) (.a (.v 2) (.i (.v 40) .nil))))),false)::((.v 1),false)::h32xf1
noncomputable def h32xf3:Fx:=((.le h32xe10 (.c 61)),true)::((.le (.c 2) h32xe8),false)::h32xf2
noncomputable def h32xf4:Fx:=((.ap 22 (.a h32xe9 (.i h32xe10 (.i (.v 1) (.i (.v 6) (.a (.v 2) .nil)))))),false)::h32xf3
noncomputable def h32xf5:Fx:=((.v 2),true)::((.le (.v 35) (.v 1)),false)::h32xf0
noncomputable def h32xf6:Fx:=((.ap 21 (.i (.v 36) (.i (.v 1) (.a (.v 2) (.i (.v 40) .nil))))),false)::((.v 1),false)::h32xf5
noncomputable def h32xf7:Fx:=((.le h32xe10 (.c 61)),true)::((.le (.c 2) h32xe8),false)::h32xf6
noncomputable def h32xf8:Fx:=((.ap 22 (.a h32xe9 (.i h32xe10 (.i (.v 35) (.i (.v 6) (.a (.v 2) .nil)))))),false)::h32xf7
noncomputable def h32xx0:Vl:= .out 0 [.i h32xe1 h32xe1,.i h32xe3 h32xe3,.i h32xe5 h32xe5,.i (.v 6) (.v 6),.b (.not (.and (.not (.v 0)) (.not (.v 2)))) (.not (.and (.not (.v 0)) (.not (.v 2)))),.i (.v 51) h32xe6,.i (.v 1) h32xe7,.i (.v 36) (.v 36),.b (.v 1) (.not (.and (.not (.v 1)) (.not (.and (.v 2) (.not (.and (.not (.ap 21 (.i (.v 36) (.i (.v 1) (.a (.v 2) (.i (.v 40) .nil)))))) (.not (.not (.and (.not (.le (.c 2) h32xe8)) (.not (.not (.and (.not (.ap 22 (.a h32xe9 (.i h32xe10 (.i h32xe7 (.i (.v 6) (.a (.v 2) .nil))))))) (.not (.eq (.v 50) (.c 4))))))))))))))),.i h32xe8 h32xe11,.i (.v 38) h32xe15,.i (.v 39) (.v 39),.i (.v 41) (.v 41),.i (.v 42) (.v 42),.i (.v 43) (.v 43),.i (.v 44) (.v 44),.a (.v 2) (.v 2) (.v 40) 2,.i (.v 40) (.v 40),.a h32xe9 h32xe9 h32xe10 2,.i h32xe10 h32xe10] (((.v 1),true)::h32xf1)
noncomputable def h32xx1:Vl:= .out 0 [.i h32xe1 h32xe1,.i h32xe3 h32xe3,.i h32xe5 h32xe5,.i (.v 6) (.v 6),.b (.not (.and (.not (.v 0)) (.not (.v 2)))) (.not (.and (.not (.v 0)) (.not (.v 2)))),.i (.v 51) h32xe6,.i (.v 1) h32xe7,.i (.v 36) (.v 36),.b (.c true) (.not (.and (.not (.v 1)) (.not (.and (.v 2) (.not (.and (.not (.ap 21 (.i (.v 36) (.i (.v 1) (.a (.v 2) (.i (.v 40) .nil)))))) (.not (.not (.and (.not (.le (.c 2) h32xe8)) (.not (.not (.and (.not (.ap 22 (.a h32xe9 (.i h32xe10 (.i h32xe7 (.i (.v 6) (.a (.v 2) .nil))))))) (.not (.eq (.v 50) (.c 4))))))))))))))),.i h32xe8 h32xe11,.i (.c 0) h32xe15,.i (.v 39) (.v 39),.i (.v 41) (.v 41),.i (.v 42) (.v 42),.i (.v 43) (.v 43),.i (.v 44) (.v 44),.a (.v 2) (.v 2) (.v 40) 2,.i (.v 40) (.v 40),.a h32xe9 h32xe9 h32xe10 2,.i h32xe10 h32xe10] (((.ap 21 (.i (.v 36) (.i (.v 1) (.a (.v 2) (.i (.v 40) .nil))))),true)::((.v 1),false)::h32xf1)
noncomputable def h32xx2:Vl:= .out 0 [.i h32xe1 h32xe1,.i h32xe3 h32xe3,.i h32xe5 h32xe5,.i (.v 6) (.v 6),.b (.not (.and (.not (.v 0)) (.not (.v 2)))) (.not (.and (.not (.v 0)) (.not (.v 2)))),.i (.v 51) h32xe6,.i (.v 1) h32xe7,.i (.v 36) (.v 36),.b (.c true) (.not (.and (.not (.v 1)) (.not (.and (.v 2) (.not (.and (.not (.ap 21 (.i (.v 36) (.i (.v 1) (.a (.v 2) (.i (.v 40) .nil)))))) (.not (.not (.and (.not (.le (.c 2) h32xe8)) (.not (.not (.and (.not (.ap 22 (.a h32xe9 (.i h32xe10 (.i h32xe7 (.i (.v 6) (.a (.v 2) .nil))))))) (.not (.eq (.v 50) (.c 4))))))))))))))),.i h32xe8 h32xe11,.i (.c 0) h32xe15,.i (.v 39) (.v 39),.i (.v 41) (.v 41),.i (.v 42) (.v 42),.i (.v 43) (.v 43),.i (.v 44) (.v 44),.a (.v 2) (.v 2) (.v 40) 2,.i (.v 40) (.v 40),.a h32xe9 h32xe9 h32xe10 2,.i h32xe10 h32xe10] (((.le (.c 2) h32xe8),true)::h32xf2)
noncomputable def h32xx3:Vl:= .out 0 [.i h32xe1 h32xe1,.i h32xe3 h32xe3,.i h32xe5 h32xe5,.i (.v 6) (.v 6),.b (.not (.and (.not (.v 0)) (.not (.v 2)))) (.not (.and (.not (.v 0)) (.not (.v 2)))),.i (.v 51) h32xe6,.i (.v 1) h32xe7,.i (.v 36) (.v 36),.b (.c true) (.not (.and (.not (.v 1)) (.not (.and (.v 2) (.not (.and (.not (.ap 21 (.i (.v 36) (.i (.v 1) (.a (.v 2) (.i (.v 40) .nil)))))) (.not (.not (.and (.not (.le (.c 2) h32xe8)) (.not (.not (.and (.not (.ap 22 (.a h32xe9 (.i h32xe10 (.i h32xe7 (.i (.v 6) (.a (.v 2) .nil))))))) (.not (.eq (.v 50) (.c 4))))))))))))))),.i h32xe8 h32xe11,.i (.c 0) h32xe15,.i (.v 39) (.v 39),.i (.v 41) (.v 41),.i (.v 42) (.v 42),.i (.v 43) (.v 43),.i (.v 44) (.v 44),.a (.v 2) (.v 2) (.v 40) 2,.i (.v 40) (.v 40),.a h32xe9 h32xe9 h32xe10 2,.i h32xe10 h32xe10] (((.ap 22 (.a h32xe9 (.i h32xe10 (.i (.v 1) (.i (.v 6) (.a (.v 2) .nil)))))),true)::h32xf3)
noncomputable def h32xx4:Vl:= .out 0 [.i h32xe1 h32xe1,.i h32xe3 h32xe3,.i h32xe5 h32xe5,.i (.v 6) (.v 6),.b (.not (.and (.not (.v 0)) (.not (.v 2)))) (.not (.and (.not (.v 0)) (.not (.v 2)))),.i (.v 51) h32xe6,.i (.v 1) h32xe7,.i (.v 36) (.v 36),.b (.c true) (.not (.and (.not (.v 1)) (.not (.and (.v 2) (.not (.and (.not (.ap 21 (.i (.v 36) (.i (.v 1) (.a (.v 2) (.i (.v 40) .nil)))))) (.not (.not (.and (.not (.le (.c 2) h32xe8)) (.not (.not (.and (.not (.ap 22 (.a h32xe9 (.i h32xe10 (.i h32xe7 (.i (.v 6) (.a (.v 2) .nil))))))) (.not (.eq (.v 50) (.c 4))))))))))))))),.i h32xe8 h32xe11,.i (.c 0) h32xe15,.i (.v 39) (.v 39),.i (.v 41) (.v 41),.i (.v 42) (.v 42),.i (.v 43) (.v 43),.i (.v 44) (.v 44),.a (.v 2) (.v 2) (.v 40) 2,.i (.v 40) (.v 40),.a h32xe9 h32xe9 h32xe10 2,.i h32xe10 h32xe10] (((.eq (.v 50) (.c 4)),true)::h32xf4)
noncomputable def h32xx5:Vl:= .out 0 [.i h32xe1 h32xe1,.i h32xe3 h32xe3,.i h32xe5 h32xe5,.i (.v 6) (.v 6),.b (.not (.and (.not (.v 0)) (.not (.v 2)))) (.not (.and (.not (.v 0)) (.not (.v 2)))),.i (.v 51) h32xe6,.i (.v 1) h32xe7,.i (.v 36) (.v 36),.b (.v 1) (.not (.and (.not (.v 1)) (.not (.and (.v 2) (.not (.and (.not (.ap 21 (.i (.v 36) (.i (.v 1) (.a (.v 2) (.i (.v 40) .nil)))))) (.not (.not (.and (.not (.le (.c 2) h32xe8)) (.not (.not (.and (.not (.ap 22 (.a h32xe9 (.i h32xe10 (.i h32xe7 (.i (.v 6) (.a (.v 2) .nil))))))) (.not (.eq (.v 50) (.c 4))))))))))))))),.i h32xe8 h32xe11,.i h32xe13 h32xe15,.i (.v 39) (.v 39),.i (.v 41) (.v 41),.i (.v 42) (.v 42),.i (.v 43) (.v 43),.i (.v 44) (.v 44),.a (.v 2) (.v 2) (.v 40) 2,.i (.v 40) (.v 40),.a h32xe9 h32xe9 h32xe10 2,.i h32xe10 h32xe10] (((.eq (.v 50) (.c 4)),false)::h32xf4)
noncomputable def h32xx6:Vl:= .dead (((.le h32xe10 (.c 61)),false)::((.le (.c 2) h32xe8),false)::h32xf2)
noncomputable def h32xx7:Vl:= .out 0 [.i h32xe1 h32xe1,.i h32xe3 h32xe3,.i h32xe5 h32xe5,.i (.v 6) (.v 6),.b (.not (.and (.not (.v 0)) (.not (.v 2)))) (.not (.and (.not (.v 0)) (.not (.v 2)))),.i (.v 51) h32xe6,.i (.v 1) h32xe7,.i (.v 36) (.v 36),.b (.v 1) (.not (.and (.not (.v 1)) (.not (.and (.v 2) (.not (.and (.not (.ap 21 (.i (.v 36) (.i (.v 1) (.a (.v 2) (.i (.v 40) .nil)))))) (.not (.not (.and (.not (.le (.c 2) h32xe8)) (.not (.not (.and (.not (.ap 22 (.a h32xe9 (.i h32xe10 (.i h32xe7 (.i (.v 6) (.a (.v 2) .nil))))))) (.not (.eq (.v 50) (.c 4))))))))))))))),.i (.v 37) h32xe11,.i (.v 38) h32xe15,.i (.v 39) (.v 39),.i (.v 41) (.v 41),.i (.v 42) (.v 42),.i (.v 43) (.v 43),.i (.v 44) (.v 44),.a (.v 2) (.v 2) (.v 40) 2,.i (.v 40) (.v 40),.a h32xe9 h32xe9 h32xe10 2,.i h32xe10 h32xe10] (((.v 2),false)::((.le (.v 35) (.v 1)),true)::h32xf0)
noncomputable def h32xx8:Vl:= .out 0 [.i h32xe1 h32xe1,.i h32xe3 h32xe3,.i h32xe5 h32xe5,.i (.v 6) (.v 6),.b (.not (.and (.not (.v 0)) (.not (.v 2)))) (.not (.and (.not (.v 0)) (.not (.v 2)))),.i (.v 34) h32xe6,.i (.v 35) h32xe7,.i (.v 36) (.v 36),.b (.v 1) (.not (.and (.not (.v 1)) (.not (.and (.v 2) (.not (.and (.not (.ap 21 (.i (.v 36) (.i (.v 1) (.a (.v 2) (.i (.v 40) .nil)))))) (.not (.not (.and (.not (.le (.c 2) h32xe8)) (.not (.not (.and (.not (.ap 22 (.a h32xe9 (.i h32xe10 (.i h32xe7 (.i (.v 6) (.a (.v 2) .nil))))))) (.not (.eq (.v 50) (.c 4))))))))))))))),.i h32xe8 h32xe11,.i (.v 38) h32xe15,.i (.v 39) (.v 39),.i (.v 41) (.v 41),.i (.v 42) (.v 42),.i (.v 43) (.v 43),.i (.v 44) (.v 44),.a (.v 2) (.v 2) (.v 40) 2,.i (.v 40) (.v 40),.a h32xe9 h32xe9 h32xe10 2,.i h32xe10 h32xe10] (((.v 1),true)::h32xf5)
noncomputable def h32xx9:Vl:= .out 0 [.i h32xe1 h32xe1,.i h32xe3 h32xe3,.i h32xe5 h32xe5,.i (.v 6) (.v 6),.b (.not (.and (.not (.v 0)) (.not (.v 2)))) (.not (.and (.not (.v 0)) (.not (.v 2)))),.i (.v 34) h32xe6,.i (.v 35) h32xe7,.i (.v 36) (.v 36),.b (.c true) (.not (.and (.not (.v 1)) (.not (.and (.v 2) (.not (.and (.not (.ap 21 (.i (.v 36) (.i (.v 1) (.a (.v 2) (.i (.v 40) .nil)))))) (.not (.not (.and (.not (.le (.c 2) h32xe8)) (.not (.not (.and (.not (.ap 22 (.a h32xe9 (.i h32xe10 (.i h32xe7 (.i (.v 6) (.a (.v 2) .nil))))))) (.not (.eq (.v 50) (.c 4))))))))))))))),.i h32xe8 h32xe11,.i (.c 0) h32xe15,.i (.v 39) (.v 39),.i (.v 41) (.v 41),.i (.v 42) (.v 42),.i (.v 43) (.v 43),.i (.v 44) (.v 44),.a (.v 2) (.v 2) (.v 40) 2,.i (.v 40) (.v 40),.a h32xe9 h32xe9 h32xe10 2,.i h32xe10 h32xe10] (((.ap 21 (.i (.v 36) (.i (.v 1) (.a (.v 2) (.i (.v 40) .nil))))),true)::((.v 1),false)::h32xf5)
noncomputable def h32xx10:Vl:= .out 0 [.i h32xe1 h32xe1,.i h32xe3 h32xe3,.i h32xe5 h32xe5,.i (.v 6) (.v 6),.b (.not (.and (.not (.v 0)) (.not (.v 2)))) (.not (.and (.not (.v 0)) (.not (.v 2)))),.i (.v 34) h32xe6,.i (.v 35) h32xe7,.i (.v 36) (.v 36),.b (.c true) (.not (.and (.not (.v 1)) (.not (.and (.v 2) (.not (.and (.not (.ap 21 (.i (.v 36) (.i (.v 1) (.a (.v 2) (.i (.v 40) .nil)))))) (.not (.not (.and (.not (.le (.c 2) h32xe8)) (.not (.not (.and (.not (.ap 22 (.a h32xe9 (.i h32xe10 (.i h32xe7 (.i (.v 6) (.a (.v 2) .nil))))))) (.not (.eq (.v 50) (.c 4))))))))))))))),.i h32xe8 h32xe11,.i (.c 0) h32xe15,.i (.v 39) (.v 39),.i (.v 41) (.v 41),.i (.v 42) (.v 42),.i (.v 43) (.v 43),.i (.v 44) (.v 44),.a (.v 2) (.v 2) (.v 40) 2,.i (.v 40) (.v 40),.a h32xe9 h32xe9 h32xe10 2,.i h32xe10 h32xe10] (((.le (.c 2) h32xe8),true)::h32xf6)
noncomputable def h32xx11:Vl:= .out 0 [.i h32xe1 h32xe1,.i h32xe3 h32xe3,.i h32xe5 h32xe5,.i (.v 6) (.v 6),.b (.not (.and (.not (.v 0)) (.not (.v 2)))) (.not (.and (.not (.v 0)) (.not (.v 2)))),.i (.v 34) h32xe6,.i (.v 35) h32xe7,.i (.v 36) (.v 36),.b (.c true) (.not (.and (.not (.v 1)) (.not (.and (.v 2) (.not (.and (.not (.ap 21 (.i (.v 36) (.i (.v 1) (.a (.v 2) (.i (.v 40) .nil)))))) (.not (.not (.and (.not (.le (.c 2) h32xe8)) (.not (.not (.and (.not (.ap 22 (.a h32xe9 (.i h32xe10 (.i h32xe7 (.i (.v 6) (.a (.v 2) .nil))))))) (.not (.eq (.v 50) (.c 4))))))))))))))),.i h32xe8 h32xe11,.i (.c 0) h32xe15,.i (.v 39) (.v 39),.i (.v 41) (.v 41),.i (.v 42) (.v 42),.i (.v 43) (.v 43),.i (.v 44) (.v 44),.a (.v 2) (.v 2) (.v 40) 2,.i (.v 40) (.v 40),.a h32xe9 h32xe9 h32xe10 2,.i h32xe10 h32xe10] (((.ap 22 (.a h32xe9 (.i h32xe10 (.i (.v 35) (.i (.v 6) (.a (.v 2) .nil)))))),true)::h32xf7)
noncomputable def h32xx12:Vl:= .out 0 [.i h32xe1 h32xe1,.i h32xe3 h32xe3,.i h32xe5 h32xe5,.i (.v 6) (.v 6),.b (.not (.and (.not (.v 0)) (.not (.v 2)))) (.not (.and (.not (.v 0)) (.not (.v 2)))),.i (.v 34) h32xe6,.i (.v 35) h32xe7,.i (.v 36) (.v 36),.b (.c true) (.not (.and (.not (.v 1)) (.not (.and (.v 2) (.not (.and (.not (.ap 21 (.i (.v 36) (.i (.v 1) (.a (.v 2) (.i (.v 40) .nil)))))) (.not (.not (.and (.not (.le (.c 2) h32xe8)) (.not (.not (.and (.not (.ap 22 (.a h32xe9 (.i h32xe10 (.i h32xe7 (.i (.v 6) (.a (.v 2) .nil))))))) (.not (.eq (.v 50) (.c 4))))))))))))))),.i h32xe8 h32xe11,.i (.c 0) h32xe15,.i (.v 39) (.v 39),.i (.v 41) (.v 41),.i (.v 42) (.v 42),.i (.v 43) (.v 43),.i (.v 44) (.v 44),.a (.v 2) (.v 2) (.v 40) 2,.i (.v 40) (.v 40),.a h32xe9 h32xe9 h32xe10 2,.i h32xe10 h32xe10] (((.eq (.v 50) (.c 4)),true)::h32xf8)
noncomputable def h32xx13:Vl:= .out 0 [.i h32xe1 h32xe1,.i h32xe3 h32xe3,.i h32xe5 h32xe5,.i (.v 6) (.v 6),.b (.not (.and (.not (.v 0)) (.not (.v 2)))) (.not (.and (.not (.v 0)) (.not (.v 2)))),.i (.v 34) h32xe6,.i (.v 35) h32xe7,.i (.v 36) (.v 36),.b (.v 1) (.not (.and (.not (.v 1)) (.not (.and (.v 2) (.not (.and (.not (.ap 21 (.i (.v 36) (.i (.v 1) (.a (.v 2) (.i (.v 40) .nil)))))) (.not (.not (.and (.not (.le (.c 2) h32xe8)) (.not (.not (.and (.not (.ap 22 (.a h32xe9 (.i h32xe10 (.i h32xe7 (.i (.v 6) (.a (.v 2) .nil))))))) (.not (.eq (.v 50) (.c 4))))))))))))))),.i h32xe8 h32xe11,.i h32xe13 h32xe15,.i (.v 39) (.v 39),.i (.v 41) (.v 41),.i (.v 42) (.v 42),.i (.v 43) (.v 43),.i (.v 44) (.v 44),.a (.v 2) (.v 2) (.v 40) 2,.i (.v 40) (.v 40),.a h32xe9 h32xe9 h32xe10 2,.i h32xe10 h32xe10] (((.eq (.v 50) (.c 4)),false)::h32xf8)
noncomputable def h32xx14:Vl:= .dead (((.le h32xe10 (.c 61)),false)::((.le (.c 2) h32xe8),false)::h32xf6)
noncomputable def h32xx15:Vl:= .out 0 [.i h32xe1 h32xe1,.i h32xe3 h32xe3,.i h32xe5 h32xe5,.i (.v 6) (.v 6),.b (.not (.and (.not (.v 0)) (.not (.v 2)))) (.not (.and (.not (.v 0)) (.not (.v 2)))),.i (.v 34) h32xe6,.i (.v 35) h32xe7,.i (.v 36) (.v 36),.b (.v 1) (.not (.and (.not (.v 1)) (.not (.and (.v 2) (.not (.and (.not (.ap 21 (.i (.v 36) (.i (.v 1) (.a (.v 2) (.i (.v 40) .nil)))))) (.not (.not (.and (.not (.le (.c 2) h32xe8)) (.not (.not (.and (.not (.ap 22 (.a h32xe9 (.i h32xe10 (.i h32xe7 (.i (.v 6) (.a (.v 2) .nil))))))) (.not (.eq (.v 50) (.c 4))))))))))))))),.i (.v 37) h32xe11,.i (.v 38) h32xe15,.i (.v 39) (.v 39),.i (.v 41) (.v 41),.i (.v 42) (.v 42),.i (.v 43) (.v 43),.i (.v 44) (.v 44),.a (.v 2) (.v 2) (.v 40) 2,.i (.v 40) (.v 40),.a h32xe9 h32xe9 h32xe10 2,.i h32xe10 h32xe10] (((.v 2),false)::((.le (.v 35) (.v 1)),false)::h32xf0)
noncomputable def h32xls:List Vl:=[h32xx0,h32xx1,h32xx2,h32xx3,h32xx4,h32xx5,h32xx6,h32xx7,h32xx8,h32xx9,h32xx10,h32xx11,h32xx12,h32xx13,h32xx14,h32xx15]
noncomputable def h32ne0:SE:= .add (.v 31) (.c 1)
noncomputable def h32ne1:SE:= .ite (.eq (.v 50) (.c 3)) h32ne0 (.v 31)
noncomputable def h32ne2:SE:= .add (.v 32) (.c 1)
noncomputable def h32ne3:SE:= .ite (.eq (.v 50) (.c 2)) h32ne2 (.v 32)
noncomputable def h32ne4:SE:= .add (.v 33) (.c 1)
noncomputable def h32ne5:SE:= .ite (.eq (.v 50) (.c 4)) h32ne4 (.v 33)
noncomputable def h32ne6:SE:= .ite (.le (.v 35) (.v 1)) (.v 51) (.v 34)
noncomputable def h32ne7:SE:= .ite (.le (.v 35) (.v 1)) (.v 1) (.v 35)
noncomputable def h32ne8:SE:= .add (.v 37) (.c 1)
noncomputable def h32ne9:SE:= .ite (.v 2) h32ne8 (.v 37)
noncomputable def h32ne10:SE:= .ite (.v 1) (.v 38) (.c 0)
noncomputable def h32ne11:SE:= .add (.v 51) (.c 25000000)
noncomputable def h32ne12:SE:= .ite (.not (.and (.not (.v 1)) (.not (.and (.v 2) (.not (.and (.not (.le (.c 2) h32ne8)) (.not (.eq (.v 50) (.c 4))))))))) h32ne10 h32ne11
noncomputable def h32ne13:SE:= .ite (.v 2) h32ne12 (.v 38)
noncomputable def h32ne14:AE:= .ap 3 (.a (.v 0) (.i (.v 0) (.i (.v 1) .nil)))
noncomputable def h32ne15:SE:= .ap 3 (.a (.v 0) (.i (.v 0) (.i (.v 1) .nil)))
noncomputable def h32ne16:SE:= .add (.v 0) (.c 1)
noncomputable def h32nf0:Fx:=[((.le (.c 1) h32ne15),true),((.le h32ne15 h32ne16),true),((.ap 1 (.a h32ne14 (.i h32ne15 .nil))),true),((.le (.c 0) (.v 0)),true),((.le (.v 0) (.c 60)),true),((.le (.c 0) (.v 1)),true),((.le (.v 1) (.c 400)),true),((.ap 1 (.a (.v 0) (.i (.v 0) .nil))),true),((.lt (.v 1) (.v 6)),false),((.ap 6 (.a (.v 0) (.i (.v 0) (.i (.v 1) .nil)))),false),((.le (.c (-1)) (.v 6)),true),((.le (.v 6) (.c 1000)),true),((.le (.c 0) (.v 31)),true),((.le (.v 31) (.c 1000)),true),((.le (.c 0) (.v 32)),true),((.le (.v 32) (.c 1000)),true),((.le (.c 0) (.v 33)),true),((.le (.v 33) (.c 1000)),true),((.le (.c 0) (.v 35)),true),((.le (.v 35) (.c 1000)),true),((.le (.c 0) (.v 37)),true),((.le (.v 37) (.c 1000)),true),((.le (.c 0) (.v 51)),true),((.le (.v 51) (.c 1000000000000000)),true),((.le (.v 35) (.c 400)),true)]
noncomputable def h32nf1:Fx:=((.v 2),true)::((.le (.v 35) (.v 1)),true)::h32nf0
noncomputable def h32nf2:Fx:=((.le (.c 2) h32ne8),false)::((.v 1),false)::h32nf1
noncomputable def h32nf3:Fx:=((.v 2),true)::((.le (.v 35) (.v 1)),false)::h32nf0
noncomputable def h32nf4:Fx:=((.le (.c 2) h32ne8),false)::((.v 1),false)::h32nf3
noncomputable def h32nx0:Vl:= .out 0 [.i h32ne1 h32ne1,.i h32ne3 h32ne3,.i h32ne5 h32ne5,.i (.v 6) (.v 6),.b (.not (.and (.not (.v 0)) (.not (.v 2)))) (.not (.and (.not (.v 0)) (.not (.v 2)))),.i (.v 51) h32ne6,.i (.v 1) h32ne7,.i (.v 36) (.v 36),.b (.v 1) (.not (.and (.not (.v 1)) (.not (.and (.v 2) (.not (.and (.not (.le (.c 2) h32ne8)) (.not (.eq (.v 50) (.c 4))))))))),.i h32ne8 h32ne9,.i (.v 38) h32ne13,.i (.v 39) (.v 39),.a h32ne14 h32ne14 h32ne15 2,.i h32ne15 h32ne15] (((.v 1),true)::h32nf1)
noncomputable def h32nx1:Vl:= .out 0 [.i h32ne1 h32ne1,.i h32ne3 h32ne3,.i h32ne5 h32ne5,.i (.v 6) (.v 6),.b (.not (.and (.not (.v 0)) (.not (.v 2)))) (.not (.and (.not (.v 0)) (.not (.v 2)))),.i (.v 51) h32ne6,.i (.v 1) h32ne7,.i (.v 36) (.v 36),.b (.c true) (.not (.and (.not (.v 1)) (.not (.and (.v 2) (.not (.and (.not (.le (.c 2) h32ne8)) (.not (.eq (.v 50) (.c 4))))))))),.i h32ne8 h32ne9,.i (.c 0) h32ne13,.i (.v 39) (.v 39),.a h32ne14 h32ne14 h32ne15 2,.i h32ne15 h32ne15] (((.le (.c 2) h32ne8),true)::((.v 1),false)::h32nf1)
noncomputable def h32nx2:Vl:= .out 0 [.i h32ne1 h32ne1,.i h32ne3 h32ne3,.i h32ne5 h32ne5,.i (.v 6) (.v 6),.b (.not (.and (.not (.v 0)) (.not (.v 2)))) (.not (.and (.not (.v 0)) (.not (.v 2)))),.i (.v 51) h32ne6,.i (.v 1) h32ne7,.i (.v 36) (.v 36),.b (.c true) (.not (.and (.not (.v 1)) (.not (.and (.v 2) (.not (.and (.not (.le (.c 2) h32ne8)) (.not (.eq (.v 50) (.c 4))))))))),.i h32ne8 h32ne9,.i (.c 0) h32ne13,.i (.v 39) (.v 39),.a h32ne14 h32ne14 h32ne15 2,.i h32ne15 h32ne15] (((.eq (.v 50) (.c 4)),true)::h32nf2)
noncomputable def h32nx3:Vl:= .out 0 [.i h32ne1 h32ne1,.i h32ne3 h32ne3,.i h32ne5 h32ne5,.i (.v 6) (.v 6),.b (.not (.and (.not (.v 0)) (.not (.v 2)))) (.not (.and (.not (.v 0)) (.not (.v 2)))),.i (.v 51) h32ne6,.i (.v 1) h32ne7,.i (.v 36) (.v 36),.b (.v 1) (.not (.and (.not (.v 1)) (.not (.and (.v 2) (.not (.and (.not (.le (.c 2) h32ne8)) (.not (.eq (.v 50) (.c 4))))))))),.i h32ne8 h32ne9,.i h32ne11 h32ne13,.i (.v 39) (.v 39),.a h32ne14 h32ne14 h32ne15 2,.i h32ne15 h32ne15] (((.eq (.v 50) (.c 4)),false)::h32nf2)
noncomputable def h32nx4:Vl:= .out 0 [.i h32ne1 h32ne1,.i h32ne3 h32ne3,.i h32ne5 h32ne5,.i (.v 6) (.v 6),.b (.not (.and (.not (.v 0)) (.not (.v 2)))) (.not (.and (.not (.v 0)) (.not (.v 2)))),.i (.v 51) h32ne6,.i (.v 1) h32ne7,.i (.v 36) (.v 36),.b (.v 1) (.not (.and (.not (.v 1)) (.not (.and (.v 2) (.not (.and (.not (.le (.c 2) h32ne8)) (.not (.eq (.v 50) (.c 4))))))))),.i (.v 37) h32ne9,.i (.v 38) h32ne13,.i (.v 39) (.v 39),.a h32ne14 h32ne14 h32ne15 2,.i h32ne15 h32ne15] (((.v 2),false)::((.le (.v 35) (.v 1)),true)::h32nf0)
noncomputable def h32nx5:Vl:= .out 0 [.i h32ne1 h32ne1,.i h32ne3 h32ne3,.i h32ne5 h32ne5,.i (.v 6) (.v 6),.b (.not (.and (.not (.v 0)) (.not (.v 2)))) (.not (.and (.not (.v 0)) (.not (.v 2)))),.i (.v 34) h32ne6,.i (.v 35) h32ne7,.i (.v 36) (.v 36),.b (.v 1) (.not (.and (.not (.v 1)) (.not (.and (.v 2) (.not (.and (.not (.le (.c 2) h32ne8)) (.not (.eq (.v 50) (.c 4))))))))),.i h32ne8 h32ne9,.i (.v 38) h32ne13,.i (.v 39) (.v 39),.a h32ne14 h32ne14 h32ne15 2,.i h32ne15 h32ne15] (((.v 1),true)::h32nf3)
noncomputable def h32nx6:Vl:= .out 0 [.i h32ne1 h32ne1,.i h32ne3 h32ne3,.i h32ne5 h32ne5,.i (.v 6) (.v 6),.b (.not (.and (.not (.v 0)) (.not (.v 2)))) (.not (.and (.not (.v 0)) (.not (.v 2)))),.i (.v 34) h32ne6,.i (.v 35) h32ne7,.i (.v 36) (.v 36),.b (.c true) (.not (.and (.not (.v 1)) (.not (.and (.v 2) (.not (.and (.not (.le (.c 2) h32ne8)) (.not (.eq (.v 50) (.c 4))))))))),.i h32ne8 h32ne9,.i (.c 0) h32ne13,.i (.v 39) (.v 39),.a h32ne14 h32ne14 h32ne15 2,.i h32ne15 h32ne15] (((.le (.c 2) h32ne8),true)::((.v 1),false)::h32nf3)
noncomputable def h32nx7:Vl:= .out 0 [.i h32ne1 h32ne1,.i h32ne3 h32ne3,.i h32ne5 h32ne5,.i (.v 6) (.v 6),.b (.not (.and (.not (.v 0)) (.not (.v 2)))) (.not (.and (.not (.v 0)) (.not (.v 2)))),.i (.v 34) h32ne6,.i (.v 35) h32ne7,.i (.v 36) (.v 36),.b (.c true) (.not (.and (.not (.v 1)) (.not (.and (.v 2) (.not (.and (.not (.le (.c 2) h32ne8)) (.not (.eq (.v 50) (.c 4))))))))),.i h32ne8 h32ne9,.i (.c 0) h32ne13,.i (.v 39) (.v 39),.a h32ne14 h32ne14 h32ne15 2,.i h32ne15 h32ne15] (((.eq (.v 50) (.c 4)),true)::h32nf4)
noncomputable def h32nx8:Vl:= .out 0 [.i h32ne1 h32ne1,.i h32ne3 h32ne3,.i h32ne5 h32ne5,.i (.v 6) (.v 6),.b (.not (.and (.not (.v 0)) (.not (.v 2)))) (.not (.and (.not (.v 0)) (.not (.v 2)))),.i (.v 34) h32ne6,.i (.v 35) h32ne7,.i (.v 36) (.v 36),.b (.v 1) (.not (.and (.not (.v 1)) (.not (.and (.v 2) (.not (.and (.not (.le (.c 2) h32ne8)) (.not (.eq (.v 50) (.c 4))))))))),.i h32ne8 h32ne9,.i h32ne11 h32ne13,.i (.v 39) (.v 39),.a h32ne14 h32ne14 h32ne15 2,.i h32ne15 h32ne15] (((.eq (.v 50) (.c 4)),false)::h32nf4)
noncomputable def h32nx9:Vl:= .out 0 [.i h32ne1 h32ne1,.i h32ne3 h32ne3,.i h32ne5 h32ne5,.i (.v 6) (.v 6),.b (.not (.and (.not (.v 0)) (.not (.v 2)))) (.not (.and (.not (.v 0)) (.not (.v 2)))),.i (.v 34) h32ne6,.i (.v 35) h32ne7,.i (.v 36) (.v 36),.b (.v 1) (.not (.and (.not (.v 1)) (.not (.and (.v 2) (.not (.and (.not (.le (.c 2) h32ne8)) (.not (.eq (.v 50) (.c 4))))))))),.i (.v 37) h32ne9,.i (.v 38) h32ne13,.i (.v 39) (.v 39),.a h32ne14 h32ne14 h32ne15 2,.i h32ne15 h32ne15] (((.v 2),false)::((.le (.v 35) (.v 1)),false)::h32nf0)
noncomputable def h32nls:List Vl:=[h32nx0,h32nx1,h32nx2,h32nx3,h32nx4,h32nx5,h32nx6,h32nx7,h32nx8,h32nx9]
theorem prm32x_ok (E:Env) (hE:E.fn=fns):PrmOk E (prm32x Try.prog):=prm_ok E hE (by
 intro c hc
 simp only [prm32x,List.mem_cons,List.not_mem_nil,or_false] at hc
 rcases hc with rfl|rfl|rfl
 ·exact ct30a_ok
 ·exact ct41t_ok
 ·exact ct54t_ok) (by intro b hb;cases hb)
theorem ct32x_ok:CtOk Try.prog fns ct32x:=by
 refine ct_of_pts (p:=prm32x Try.prog) (pts:=[]) (n:=900) (c0:=enterD (prm32x Try.prog) ct32x) (fun E hE=>prm32x_ok E hE) rfl (by intro q hq;cases hq) Try.func32 (by kernel_rfl) (by intro t ht;cases ht) (fun _ _ _=>True) (fun _ _ _=>0) h32xls (by kernel_rfl) ?_ (by intro i t ht;cases ht)
 intro E hE hF
 obtain ⟨n,hn,hn60,p0,p1,hr⟩:=pre50 (s:=true) hE (fun q hq=>hF q (by
  have hq':q∈(bd (.v 0) 0 60++bd (.v 1) 0 400)++[rgF (.v 0) (.v 0)]:=hq
  simp only [ct32x,rcG,rcF,List.mem_append] at hq'⊢
  rcases hq' with (h|h)|h
  ·simp [h]
  ·simp [h]
  ·simp at h;simp [h]))
 refine ⟨fun a ha=>?_,fun x hx=>?_⟩
 ·obtain rfl:=Option.some.inj ha;exact ad_facts hE hn p0 (by omega) hr
 ·unfold h32xls at hx
  revert x
  simp only [List.forall_mem_cons,List.not_mem_nil,false_imp_iff,implies_true,and_true]
  refine ⟨?_,?_,?_,?_,?_,?_,?_,?_,?_,?_,?_,?_,?_,?_,?_,?_⟩
  all_goals intro hf
  all_goals simp only [h32xf0,h32xf1,h32xf2,h32xf3,h32xf4,h32xf5,h32xf6,h32xf7,h32xf8,facts_cons,facts_nil,h32xe0,h32xe1,h32xe2,h32xe3,h32xe4,h32xe5,h32xe6,h32xe7,h32xe8,h32xe9,h32xe10,h32xe11,h32xe12,h32xe13,h32xe14,h32xe15,h32xe16,lt_t,lt_f,le_t,le_f',eq_t,eq_f,d_v,d_c,d_add,d_ite,d_bap',d_sla,d_sli,d_slnil,d_ap,d_bv,and_true] at hf
  all_goals first|(exfalso;clear hE hr;omega)|skip
  all_goals
   refine ⟨rfl,?_⟩
   have d1:(SB.le (.v 35) (.v 1)).den E=false∧E.i 1<E.i 35∨(SB.le (.v 35) (.v 1)).den E=true∧E.i 35≤E.i 1:=by
    rcases Int.lt_or_le (E.i 1) (E.i 35) with c|c
    ·exact .inl ⟨decide_eq_false (by show¬E.i 35≤E.i 1;omega),c⟩
    ·exact .inr ⟨decide_eq_true (by show E.i 35≤E.i 1;omega),c⟩
   have d2:(SB.le (.c 2) (.add (.v 37) (.c 1))).den E=false∧E.i 37+1<2∨(SB.le (.c 2) (.add (.v 37) (.c 1))).den E=true∧2≤E.i 37+1:=by
    rcases Int.lt_or_le (E.i 37+1) 2 with c|c
    ·exact .inl ⟨decide_eq_false (by show¬2≤E.i 37+1;omega),c⟩
    ·exact .inr ⟨decide_eq_true (by show 2≤E.i 37+1;omega),c⟩
   rcases d1 with ⟨d1,c1⟩|⟨d1,c1⟩<;>rcases d2 with ⟨d2,c2⟩|⟨d2,c2⟩
   all_goals
    first|(exfalso;clear hE hr d1 d2;omega)|skip
    try (
     simp only [List.forall_mem_cons,List.not_mem_nil,false_imp_iff,implies_true,and_true,true_and,Eqn.ok,h32xe0,h32xe1,h32xe2,h32xe3,h32xe4,h32xe5,h32xe6,h32xe7,h32xe8,h32xe9,h32xe10,h32xe11,h32xe12,h32xe13,h32xe14,h32xe15,h32xe16,d_bnot,d_band,d_beq,d_v,d_c,d_add,d_ite,d_bap',d_sla,d_sli,d_slnil,d_ap,d_bv,d_bc,d1,d2]
     simp_all)
theorem prm32n_ok (E:Env) (hE:E.fn=fns):PrmOk E (prm32n Try.prog):=prm_ok E hE (by
 intro c hc
 simp only [prm32n,List.mem_cons,List.not_mem_nil,or_false] at hc
 rcases hc with rfl
 exact ct30a_ok) (by intro b hb;cases hb)
theorem ct32n_ok:CtOk Try.prog fns ct32n:=by
 refine ct_of_pts (p:=prm32n Try.prog) (pts:=[]) (n:=900) (c0:=enterD (prm32n Try.prog) ct32n) (fun E hE=>prm32n_ok E hE) rfl (by intro q hq;cases hq) Try.func32 (by kernel_rfl) (by intro t ht;cases ht) (fun _ _ _=>True) (fun _ _ _=>0) h32nls (by kernel_rfl) ?_ (by intro i t ht;cases ht)
 intro E hE hF
 obtain ⟨n,hn,hn60,p0,p1,hr⟩:=pre50 (s:=true) hE (fun q hq=>hF q (by
  have hq':q∈(bd (.v 0) 0 60++bd (.v 1) 0 400)++[rgF (.v 0) (.v 0)]:=hq
  simp only [ct32n,rcG,rcF,List.mem_append] at hq'⊢
  rcases hq' with (h|h)|h
  ·simp [h]
  ·simp [h]
  ·simp at h;simp [h]))
 refine ⟨fun a ha=>?_,fun x hx=>?_⟩
 ·obtain rfl:=Option.some.inj ha;exact ad_facts hE hn p0 (by omega) hr
 ·unfold h32nls at hx
  revert x
  simp only [List.forall_mem_cons,List.not_mem_nil,false_imp_iff,implies_true,and_true]
  refine ⟨?_,?_,?_,?_,?_,?_,?_,?_,?_,?_⟩
  all_goals intro hf
  all_goals simp only [h32nf0,h32nf1,h32nf2,h32nf3,h32nf4,facts_cons,facts_nil,h32ne0,h32ne1,h32ne2,h32ne3,h32ne4,h32ne5,h32ne6,h32ne7,h32ne8,h32ne9,h32ne10,h32ne11,h32ne12,h32ne13,h32ne14,h32ne15,h32ne16,lt_t,lt_f,le_t,le_f',eq_t,eq_f,d_v,d_c,d_add,d_ite,d_bap',d_sla,d_sli,d_slnil,d_ap,d_bv,and_true] at hf
  all_goals first|(exfalso;clear hE hr;omega)|skip
  all_goals
   refine ⟨rfl,?_⟩
   have d1:(SB.le (.v 35) (.v 1)).den E=false∧E.i 1<E.i 35∨(SB.le (.v 35) (.v 1)).den E=true∧E.i 35≤E.i 1:=by
    rcases Int.lt_or_le (E.i 1) (E.i 35) with c|c
    ·exact .inl ⟨decide_eq_false (by show¬E.i 35≤E.i 1;omega),c⟩
    ·exact .inr ⟨decide_eq_true (by show E.i 35≤E.i 1;omega),c⟩
   have d2:(SB.le (.c 2) (.add (.v 37) (.c 1))).den E=false∧E.i 37+1<2∨(SB.le (.c 2) (.add (.v 37) (.c 1))).den E=true∧2≤E.i 37+1:=by
    rcases Int.lt_or_le (E.i 37+1) 2 with c|c
    ·exact .inl ⟨decide_eq_false (by show¬2≤E.i 37+1;omega),c⟩
    ·exact .inr ⟨decide_eq_true (by show 2≤E.i 37+1;omega),c⟩
   rcases d1 with ⟨d1,c1⟩|⟨d1,c1⟩<;>rcases d2 with ⟨d2,c2⟩|⟨d2,c2⟩
   all_goals
    first|(exfalso;clear hE hr d1 d2;omega)|skip
    try (
     simp only [List.forall_mem_cons,List.not_mem_nil,false_imp_iff,implies_true,and_true,true_and,Eqn.ok,h32ne0,h32ne1,h32ne2,h32ne3,h32ne4,h32ne5,h32ne6,h32ne7,h32ne8,h32ne9,h32ne10,h32ne11,h32ne12,h32ne13,h32ne14,h32ne15,h32ne16,d_bnot,d_band,d_beq,d_v,d_c,d_add,d_ite,d_bap',d_sla,d_sli,d_slnil,d_ap,d_bv,d_bc,d1,d2]
     simp_all)
noncomputable def h49aae0:AE:= .ap 5 (.a (.v 0) (.i (.v 0) (.i (.v 1) .nil)))
noncomputable def h49aae1:SE:= .ap 4 (.a (.v 0) (.i (.v 0) (.i (.v 1) .nil)))
noncomputable def h49aax0:Vl:= .out 0 [.i (.v 1) (.v 1),.a (.v 0) h49aae0 h49aae1 2,.i (.v 0) h49aae1] [((.eq (.v 0) (.c 0)),true),((.le (.c 0) (.v 0)),true),((.le (.v 0) (.c 61)),true),((.le (.c 0) (.v 1)),true),((.le (.v 1) (.c 400)),true),((.ap 1 (.a (.v 0) (.i (.v 0) .nil))),true),((.lt (.v 1) (.v 6)),false)]
noncomputable def h49aax1:Vl:= .go 0 [(20,(.c 0)),(21,(.c (-1)))] [] [] [((.eq (.v 0) (.c 0)),false),((.le (.c 0) (.v 0)),true),((.le (.v 0) (.c 61)),true),((.le (.c 0) (.v 1)),true),((.le (.v 1) (.c 400)),true),((.ap 1 (.a (.v 0) (.i (.v 0) .nil))),true),((.lt (.v 1) (.v 6)),false)] (.code (.loop (loopB (prm49 Try.prog).P 49 5))) (loopK (prm49 Try.prog).P 49 5)
noncomputable def h49aals:List Vl:=[h49aax0,h49aax1]
noncomputable def h49ap0e0:SE:= .add (.v 20) (.c 1)
noncomputable def h49ap0e1:SE:= .mul (.v 20) (.c 2)
noncomputable def h49ap0e2:SE:= .add h49ap0e1 (.c 1)
noncomputable def h49ap0e3:SE:= .rd (.v 0) h49ap0e2
noncomputable def h49ap0e4:AE:= .up (.v 0) h49ap0e1 (.v 1)
noncomputable def h49ap0e5:SE:= .add (.v 21) (.c 1)
noncomputable def h49ap0e6:AE:= .ap 4 (.a h49ap0e4 (.i (.c 0) (.i h49ap0e5 .nil)))
noncomputable def h49ap0e7:AE:= .ap 5 (.a (.v 0) (.i (.v 0) (.i (.v 1) .nil)))
noncomputable def h49ap0e8:SE:= .ap 4 (.a (.v 0) (.i (.v 0) (.i (.v 1) .nil)))
noncomputable def h49ap0e9:SE:= .sub (.v 0) h49ap0e5
noncomputable def h49ap0e10:SE:= .rd (.v 0) h49ap0e1
noncomputable def h49ap0e11:AE:= .ap 4 (.a (.v 0) (.i (.c 0) (.i h49ap0e5 .nil)))
noncomputable def h49ap0x0:Vl:= .go 0 [(20,h49ap0e0),(21,(.v 20))] [] [] [((.lt h49ap0e3 (.v 1)),true),((.lt (.v 20) (.v 0)),true),((.le (.c 0) (.v 0)),true),((.le (.v 0) (.c 61)),true),((.le (.c 0) (.v 1)),true),((.le (.v 1) (.c 400)),true),((.ap 1 (.a (.v 0) (.i (.v 0) .nil))),true),((.lt (.v 1) (.v 6)),false),((.le (.c 0) (.v 20)),true),((.le (.v 20) (.c 61)),true),((.le (.c (-1)) (.v 21)),true),((.le (.v 21) (.c 60)),true),((.le (.c 1) (.v 0)),true),((.le (.v 20) (.v 0)),true),((.lt (.v 21) (.v 20)),true)] (.exit .normal) (.loop (loopB (prm49 Try.prog).P 49 5)::loopK (prm49 Try.prog).P 49 5)
noncomputable def h49ap0x1:Vl:= .out 0 [.i (.v 1) (.v 1),.a h49ap0e6 h49ap0e7 h49ap0e8 2,.i h49ap0e9 h49ap0e8] [((.le h49ap0e5 (.v 0)),true),((.le (.c 0) (.v 21)),true),((.le (.v 1) h49ap0e3),true),((.lt h49ap0e10 (.v 1)),true),((.lt h49ap0e3 (.v 1)),false),((.lt (.v 20) (.v 0)),true),((.le (.c 0) (.v 0)),true),((.le (.v 0) (.c 61)),true),((.le (.c 0) (.v 1)),true),((.le (.v 1) (.c 400)),true),((.ap 1 (.a (.v 0) (.i (.v 0) .nil))),true),((.lt (.v 1) (.v 6)),false),((.le (.c 0) (.v 20)),true),((.le (.v 20) (.c 61)),true),((.le (.c (-1)) (.v 21)),true),((.le (.v 21) (.c 60)),true),((.le (.c 1) (.v 0)),true),((.le (.v 20) (.v 0)),true),((.lt (.v 21) (.v 20)),true)]
noncomputable def h49ap0x2:Vl:= .dead [((.le h49ap0e5 (.v 0)),false),((.le (.c 0) (.v 21)),true),((.le (.v 1) h49ap0e3),true),((.lt h49ap0e10 (.v 1)),true),((.lt h49ap0e3 (.v 1)),false),((.lt (.v 20) (.v 0)),true),((.le (.c 0) (.v 0)),true),((.le (.v 0) (.c 61)),true),((.le (.c 0) (.v 1)),true),((.le (.v 1) (.c 400)),true),((.ap 1 (.a (.v 0) (.i (.v 0) .nil))),true),((.lt (.v 1) (.v 6)),false),((.le (.c 0) (.v 20)),true),((.le (.v 20) (.c 61)),true),((.le (.c (-1)) (.v 21)),true),((.le (.v 21) (.c 60)),true),((.le (.c 1) (.v 0)),true),((.le (.v 20) (.v 0)),true),((.lt (.v 21) (.v 20)),true)]
noncomputable def h49ap0x3:Vl:= .out 0 [.i (.v 1) (.v 1),.a h49ap0e4 h49ap0e7 h49ap0e8 2,.i (.v 0) h49ap0e8] [((.le (.c 0) (.v 21)),false),((.le (.v 1) h49ap0e3),true),((.lt h49ap0e10 (.v 1)),true),((.lt h49ap0e3 (.v 1)),false),((.lt (.v 20) (.v 0)),true),((.le (.c 0) (.v 0)),true),((.le (.v 0) (.c 61)),true),((.le (.c 0) (.v 1)),true),((.le (.v 1) (.c 400)),true),((.ap 1 (.a (.v 0) (.i (.v 0) .nil))),true),((.lt (.v 1) (.v 6)),false),((.le (.c 0) (.v 20)),true),((.le (.v 20) (.c 61)),true),((.le (.c (-1)) (.v 21)),true),((.le (.v 21) (.c 60)),true),((.le (.c 1) (.v 0)),true),((.le (.v 20) (.v 0)),true),((.lt (.v 21) (.v 20)),true)]
noncomputable def h49ap0x4:Vl:= .out 0 [.i (.v 1) (.v 1),.a h49ap0e11 h49ap0e7 h49ap0e8 2,.i h49ap0e9 h49ap0e8] [((.le h49ap0e5 (.v 0)),true),((.le (.c 0) (.v 21)),true),((.le (.v 1) h49ap0e3),false),((.lt h49ap0e10 (.v 1)),true),((.lt h49ap0e3 (.v 1)),false),((.lt (.v 20) (.v 0)),true),((.le (.c 0) (.v 0)),true),((.le (.v 0) (.c 61)),true),((.le (.c 0) (.v 1)),true),((.le (.v 1) (.c 400)),true),((.ap 1 (.a (.v 0) (.i (.v 0) .nil))),true),((.lt (.v 1) (.v 6)),false),((.le (.c 0) (.v 20)),true),((.le (.v 20) (.c 61)),true),((.le (.c (-1)) (.v 21)),true),((.le (.v 21) (.c 60)),true),((.le (.c 1) (.v 0)),true),((.le (.v 20) (.v 0)),true),((.lt (.v 21) (.v 20)),true)]
noncomputable def h49ap0x5:Vl:= .dead [((.le h49ap0e5 (.v 0)),false),((.le (.c 0) (.v 21)),true),((.le (.v 1) h49ap0e3),false),((.lt h49ap0e10 (.v 1)),true),((.lt h49ap0e3 (.v 1)),false),((.lt (.v 20) (.v 0)),true),((.le (.c 0) (.v 0)),true),((.le (.v 0) (.c 61)),true),((.le (.c 0) (.v 1)),true),((.le (.v 1) (.c 400)),true),((.ap 1 (.a (.v 0) (.i (.v 0) .nil))),true),((.lt (.v 1) (.v 6)),false),((.le (.c 0) (.v 20)),true),((.le (.v 20) (.c 61)),true),((.le (.c (-1)) (.v 21)),true),((.le (.v 21) (.c 60)),true),((.le (.c 1) (.v 0)),true),((.le (.v 20) (.v 0)),true),((.lt (.v 21) (.v 20)),true)]
noncomputable def h49ap0x6:Vl:= .out 0 [.i (.v 1) (.v 1),.a (.v 0) h49ap0e7 h49ap0e8 2,.i (.v 0) h49ap0e8] [((.le (.c 0) (.v 21)),false),((.le (.v 1) h49ap0e3),false),((.lt h49ap0e10 (.v 1)),true),((.lt h49ap0e3 (.v 1)),false),((.lt (.v 20) (.v 0)),true),((.le (.c 0) (.v 0)),true),((.le (.v 0) (.c 61)),true),((.le (.c 0) (.v 1)),true),((.le (.v 1) (.c 400)),true),((.ap 1 (.a (.v 0) (.i (.v 0) .nil))),true),((.lt (.v 1) (.v 6)),false),((.le (.c 0) (.v 20)),true),((.le (.v 20) (.c 61)),true),((.le (.c (-1)) (.v 21)),true),((.le (.v 21) (.c 60)),true),((.le (.c 1) (.v 0)),true),((.le (.v 20) (.v 0)),true),((.lt (.v 21) (.v 20)),true)]
noncomputable def h49ap0x7:Vl:= .out 0 [.i (.v 1) (.v 1),.a h49ap0e11 h49ap0e7 h49ap0e8 2,.i h49ap0e9 h49ap0e8] [((.le h49ap0e5 (.v 0)),true),((.le (.c 0) (.v 21)),true),((.lt h49ap0e10 (.v 1)),false),((.lt h49ap0e3 (.v 1)),false),((.lt (.v 20) (.v 0)),true),((.le (.c 0) (.v 0)),true),((.le (.v 0) (.c 61)),true),((.le (.c 0) (.v 1)),true),((.le (.v 1) (.c 400)),true),((.ap 1 (.a (.v 0) (.i (.v 0) .nil))),true),((.lt (.v 1) (.v 6)),false),((.le (.c 0) (.v 20)),true),((.le (.v 20) (.c 61)),true),((.le (.c (-1)) (.v 21)),true),((.le (.v 21) (.c 60)),true),((.le (.c 1) (.v 0)),true),((.le (.v 20) (.v 0)),true),((.lt (.v 21) (.v 20)),true)]
noncomputable def h49ap0x8:Vl:= .dead [((.le h49ap0e5 (.v 0)),false),((.le (.c 0) (.v 21)),true),((.lt h49ap0e10 (.v 1)),false),((.lt h49ap0e3 (.v 1)),false),((.lt (.v 20) (.v 0)),true),((.le (.c 0) (.v 0)),true),((.le (.v 0) (.c 61)),true),((.le (.c 0) (.v 1)),true),((.le (.v 1) (.c 400)),true),((.ap 1 (.a (.v 0) (.i (.v 0) .nil))),true),((.lt (.v 1) (.v 6)),false),((.le (.c 0) (.v 20)),true),((.le (.v 20) (.c 61)),true),((.le (.c (-1)) (.v 21)),true),((.le (.v 21) (.c 60)),true),((.le (.c 1) (.v 0)),true),((.le (.v 20) (.v 0)),true),((.lt (.v 21) (.v 20)),true)]
noncomputable def h49ap0x9:Vl:= .out 0 [.i (.v 1) (.v 1),.a (.v 0) h49ap0e7 h49ap0e8 2,.i (.v 0) h49ap0e8] [((.le (.c 0) (.v 21)),false),((.lt h49ap0e10 (.v 1)),false),((.lt h49ap0e3 (.v 1)),false),((.lt (.v 20) (.v 0)),true),((.le (.c 0) (.v 0)),true),((.le (.v 0) (.c 61)),true),((.le (.c 0) (.v 1)),true),((.le (.v 1) (.c 400)),true),((.ap 1 (.a (.v 0) (.i (.v 0) .nil))),true),((.lt (.v 1) (.v 6)),false),((.le (.c 0) (.v 20)),true),((.le (.v 20) (.c 61)),true),((.le (.c (-1)) (.v 21)),true),((.le (.v 21) (.c 60)),true),((.le (.c 1) (.v 0)),true),((.le (.v 20) (.v 0)),true),((.lt (.v 21) (.v 20)),true)]
noncomputable def h49ap0x10:Vl:= .out 0 [.i (.v 1) (.v 1),.a h49ap0e11 h49ap0e7 h49ap0e8 2,.i h49ap0e9 h49ap0e8] [((.le h49ap0e5 (.v 0)),true),((.le (.c 0) (.v 21)),true),((.lt (.v 20) (.v 0)),false),((.le (.c 0) (.v 0)),true),((.le (.v 0) (.c 61)),true),((.le (.c 0) (.v 1)),true),((.le (.v 1) (.c 400)),true),((.ap 1 (.a (.v 0) (.i (.v 0) .nil))),true),((.lt (.v 1) (.v 6)),false),((.le (.c 0) (.v 20)),true),((.le (.v 20) (.c 61)),true),((.le (.c (-1)) (.v 21)),true),((.le (.v 21) (.c 60)),true),((.le (.c 1) (.v 0)),true),((.le (.v 20) (.v 0)),true),((.lt (.v 21) (.v 20)),true)]
noncomputable def h49ap0x11:Vl:= .dead [((.le h49ap0e5 (.v 0)),false),((.le (.c 0) (.v 21)),true),((.lt (.v 20) (.v 0)),false),((.le (.c 0) (.v 0)),true),((.le (.v 0) (.c 61)),true),((.le (.c 0) (.v 1)),true),((.le (.v 1) (.c 400)),true),((.ap 1 (.a (.v 0) (.i (.v 0) .nil))),true),((.lt (.v 1) (.v 6)),false),((.le (.c 0) (.v 20)),true),((.le (.v 20) (.c 61)),true),((.le (.c (-1)) (.v 21)),true),((.le (.v 21) (.c 60)),true),((.le (.c 1) (.v 0)),true),((.le (.v 20) (.v 0)),true),((.lt (.v 21) (.v 20)),true)]
noncomputable def h49ap0x12:Vl:= .out 0 [.i (.v 1) (.v 1),.a (.v 0) h49ap0e7 h49ap0e8 2,.i (.v 0) h49ap0e8] [((.le (.c 0) (.v 21)),false),((.lt (.v 20) (.v 0)),false),((.le (.c 0) (.v 0)),true),((.le (.v 0) (.c 61)),true),((.le (.c 0) (.v 1)),true),((.le (.v 1) (.c 400)),true),((.ap 1 (.a (.v 0) (.i (.v 0) .nil))),true),((.lt (.v 1) (.v 6)),false),((.le (.c 0) (.v 20)),true),((.le (.v 20) (.c 61)),true),((.le (.c (-1)) (.v 21)),true),((.le (.v 21) (.c 60)),true),((.le (.c 1) (.v 0)),true),((.le (.v 20) (.v 0)),true),((.lt (.v 21) (.v 20)),true)]
noncomputable def h49ap0ls:List Vl:=[h49ap0x0,h49ap0x1,h49ap0x2,h49ap0x3,h49ap0x4,h49ap0x5,h49ap0x6,h49ap0x7,h49ap0x8,h49ap0x9,h49ap0x10,h49ap0x11,h49ap0x12]
theorem h49ap0run:(run (prm49 Try.prog) 900 (ptD (pts49 Try.prog true) 0 49)).map (vOf (prm49 Try.prog) (ct49 true) (pts49 Try.prog true))=h49ap0ls:=by kernel_rfl
theorem prm49_ok (E:Env) (hE:E.fn=fns):PrmOk E (prm49 Try.prog):=prm_ok E hE (by
 intro c hc
 simp only [List.mem_cons,List.not_mem_nil,or_false] at hc
 subst hc;exact ct51_ok) (by intro b hb;cases hb)
theorem cut_den {E:Env} (hE:E.fn=fns) {n:Nat} (hn:E.i 0=n):(f3 4 (.v 0) (.v 0) (.v 1)).den E=((n - dkR (E.a 0) (E.i 1) n:Nat):Int)∧(a3 5 (.v 0) (.v 0) (.v 1)).den E=cutA (E.a 0) n (E.i 1):=by
 refine ⟨?_,?_⟩<;>(simp only [f3,a3,SE.den,AE.den,SL.den,hE])
 ·show (((E.i 0).toNat - dkR (fun j=>E.a 0 j) (E.i 1) (E.i 0).toNat:Nat):Int)=_;rw [hn];rfl
 ·show cutA (fun j=>E.a 0 j) (E.i 0).toNat (E.i 1)=_;rw [hn];rfl
theorem cut_facts {E:Env} (hE:E.fn=fns) {n:Nat} (hn:E.i 0=n) (p0:0≤E.i 1) (p1:E.i 1≤1000) (hr:Rg (E.a 0) n):Facts E cutF:=by
 obtain ⟨dN,dA⟩:=cut_den hE hn
 have k1:=cut_ok hr p0 p1
 have h:(rgF (a3 5 (.v 0) (.v 0) (.v 1)) (f3 4 (.v 0) (.v 0) (.v 1))).1.den E=true:=of_rg hE _ _ (by rw [dN,dA,Int.toNat_natCast];exact k1)
 unfold cutF
 simp only [facts_cons,facts_nil,le_t,d_c,d_v,d_add,and_true,dN,hn]
 exact ⟨by omega,by omega,fun q hq=>by simp only [List.mem_singleton] at hq;subst hq;exact h⟩
theorem pre49 {E0:Env} {s:Bool} (hE:E0.fn=fns) (hF:Facts E0 (ct49 s).pre): ∃n:Nat,E0.i 0=n∧n≤61∧0≤E0.i 1∧E0.i 1≤400∧Rg (E0.a 0) n∧ ¬E0.i 1<E0.i 6:=by
 have hF':Facts E0 [((.le (.c 0) (.v 0)),true),((.le (.v 0) (.c 61)),true),((.le (.c 0) (.v 1)),true),((.le (.v 1) (.c 400)),true),rgF (.v 0) (.v 0),((.lt (.v 1) (.v 6)),false)]:=hF
 have h:=rg_of hE (.v 0) (.v 0) (hF' (rgF (.v 0) (.v 0)) (by simp))
 simp only [facts_cons,facts_nil,le_t,lt_f,d_c,d_v,and_true,rgF] at hF'
 obtain ⟨a,b,c,d,e,f⟩:=hF'
 refine ⟨(E0.i 0).toNat,by omega,by omega,c,d,?_,by omega⟩
 have h2:Rg (E0.a 0) (E0.i 0).toNat:=h
 exact h2
structure I49 (n:Nat) (E0 E:Env) (k:Nat):Prop where
 s:Sm2 E0 E
 i20:E.i 20=(k:Int)
 i21:E.i 21=(k:Int) - 1
 kn:k≤n
 n1:1≤n
 lo:0<k→E0.a 0 ((k - 1)*2+1)<E0.i 1
theorem keep49 {E0 E:Env} {A X:AE} {N Y:SE} (h: ∀k,k≠20→k≠21→E.i k=E0.i k) (hb:E.b=E0.b) (hA: ∀j,j<(Y.den E0).toNat*2→A.den E j=X.den E0 j) (hN:N.den E=Y.den E0): ∀q∈([.i (.v 1) (.v 1),.a A X Y 2,.i N Y]:List Eqn),q.ok E E0:=by
 simp only [List.forall_mem_cons,List.not_mem_nil,false_imp_iff,implies_true,and_true,true_and,Eqn.ok]
 refine ⟨h 1 (by decide) (by decide),hA,hN⟩
theorem del2_0 (A:Nat→Int) (d j:Nat):del2 A 0 d j=A (j+d*2):=by unfold del2;rw [if_neg (by omega)]
theorem ct49a_ok:CtOk Try.prog fns (ct49 true):=by
 refine ct_of_pts (p:=prm49 Try.prog) (pts:=pts49 Try.prog true) (n:=900) (c0:=enterD (prm49 Try.prog) (ct49 true)) (fun E hE=>prm49_ok E hE) rfl (by intro q hq;cases hq) Try.func49 (by kernel_rfl) ?_ (fun E0 _ E=> ∃k,I49 (E0.i 0).toNat E0 E k) (fun E0 _ E=>(E0.i 0 - E.i 20).toNat) h49aals (by kernel_rfl) ?_ ?_
 ·intro t ht
  simp only [pts49,List.mem_cons,List.not_mem_nil,or_false] at ht
  subst ht
  exact ⟨by kernel_rfl,by decide⟩
 ·intro E hE hF
  obtain ⟨n,hn,hn60,p0,p1,hr,hd⟩:=pre49 hE hF
  have hnt:(E.i 0).toNat=n:=by omega
  obtain ⟨dN,dA⟩:=cut_den hE hn
  refine ⟨fun a ha=>?_,fun x hx=>?_⟩
  ·obtain rfl:=Option.some.inj ha;exact cut_facts hE hn p0 (by omega) hr
  ·unfold h49aals at hx
   simp only [List.mem_cons,List.not_mem_nil,or_false] at hx
   rcases hx with rfl|rfl
   ·intro hf
    have h0:=hf (SB.eq (.v 0) (.c 0),true) (by simp)
    simp only [eq_t,d_v,d_c] at h0
    have e1:h49aae1.den E=_:=dN
    have hz:n - dkR (E.a 0) (E.i 1) n=0:=by omega
    refine ⟨rfl,keep49 (fun _ _ _=>rfl) rfl (fun j hj=>?_) ?_⟩
    ·rw [e1,hz] at hj;exact absurd hj (by simp)
    ·rw [e1,hz];exact h0
   ·intro hf
    have h0:=hf (SB.eq (.v 0) (.c 0),false) (by simp)
    simp only [eq_f,d_v,d_c] at h0
    refine ⟨⟨_,rfl,.inl ⟨rfl,rfl⟩⟩,fun o=>⟨⟨0,⟨fun k h1 h2=>?_,rfl,rfl⟩,rfl,rfl,Nat.zero_le _,by omega,fun h=>absurd h (Nat.lt_irrefl _)⟩,fun b hb=>by cases hb⟩⟩
    show (match fnd k [(20,SE.c 0),(21,SE.c (-1))] with|some e=>e.den E|none=>E.i k)=_
    simp only [fnd,if_neg (Ne.symm h1),if_neg (Ne.symm h2)]
 ·intro kk t ht
  have hk:kk=0:=by
   have:=(List.getElem?_eq_some_iff.1 ht).1
   simp [pts49] at this;omega
  subst hk
  refine ⟨h49ap0ls,by rw [←ptD_some ht (ct49 true).g];exact h49ap0run,fun E0 E hE0 hE hF0 ⟨k,hI⟩=>?_⟩
  obtain ⟨n,hn,hn60,p0,p1,hr,hd⟩:=pre49 hE0 hF0
  have hnt:(E0.i 0).toNat=n:=by omega
  rw [hnt] at hI
  obtain ⟨hS,h20,h21,hkn,hn1,hlo⟩:=hI
  obtain ⟨dN,dA⟩:=cut_den hE0 hn
  have q0:=hS.i 0 (by decide) (by decide);have q1:=hS.i 1 (by decide) (by decide);have q6:=hS.i 6 (by decide) (by decide)
  have qa:E.a 0=E0.a 0:=by rw [hS.a]
  have hnE:E.i 0=n:=q0.trans hn
  have e7:h49ap0e7.den E0=_:=dA
  have e8:h49ap0e8.den E0=_:=dN
  refine ⟨?_,fun x hx=>?_⟩
  ·obtain rfl:=Option.some.inj ht
   show Facts E ([((.le (.c 0) (.v 0)),true),((.le (.v 0) (.c 61)),true),((.le (.c 0) (.v 1)),true),((.le (.v 1) (.c 400)),true),((rgF (.v 0) (.v 0)).1,true),((.lt (.v 1) (.v 6)),false),((.le (.c 0) (.v 20)),true),((.le (.v 20) (.c 61)),true),((.le (.c (-1)) (.v 21)),true),((.le (.v 21) (.c 60)),true),((.le (.c 1) (.v 0)),true),((.le (.v 20) (.v 0)),true),((.lt (.v 21) (.v 20)),true)])
   have hsr:(rgF (.v 0) (.v 0)).1.den E=true:=of_rg hE (.v 0) (.v 0) (by
    show Rg (fun j=>E.a 0 j) (E.i 0).toNat
    rw [hnE,Int.toNat_natCast,qa];exact hr)
   simp only [facts_cons,facts_nil,le_t,lt_t,lt_f,d_c,d_v,d_add,and_true]
   refine ⟨by omega,by omega,by omega,by omega,hsr,by omega,by omega,by omega,by omega,by omega,by omega,by omega,by omega⟩
  ·unfold h49ap0ls at hx
   simp only [List.mem_cons,List.not_mem_nil,or_false] at hx
   have D3:h49ap0e3.den E=E0.a 0 (k*2+1):=by
    show E.a 0 (E.i 20*2+1).toNat=_
    rw [qa,show (E.i 20*2+1).toNat=k*2+1 by omega]
   have D10:h49ap0e10.den E=E0.a 0 (k*2):=by
    show E.a 0 (E.i 20*2).toNat=_
    rw [qa,show (E.i 20*2).toNat=k*2 by omega]
   have D5:h49ap0e5.den E=(k:Int):=by show E.i 21+1=_;omega
   have D4:h49ap0e4.den E=upd (E0.a 0) (k*2) (E0.i 1):=by
    funext j
    show (if j=(E.i 20*2).toNat then E.i 1 else E.a 0 j)=_
    rw [h20,show ((k:Int)*2).toNat=k*2 by omega,qa,q1];rfl
   have D6:h49ap0e6.den E=del2 (upd (E0.a 0) (k*2) (E0.i 1)) 0 k:=by
    show E.fn.a 4 [.a (h49ap0e4.den E),.i 0,.i (h49ap0e5.den E)]=_
    rw [hE,D4,D5];rfl
   have D11:h49ap0e11.den E=del2 (E0.a 0) 0 k:=by
    show E.fn.a 4 [.a (fun j=>E.a 0 j),.i 0,.i (h49ap0e5.den E)]=_
    rw [hE,D5,qa];rfl
   have D9:h49ap0e9.den E=(n:Int) - k:=by show E.i 0 - h49ap0e5.den E=_;rw [D5,hnE]
   have fin: ∀(A:AE) (N:SE),(k<n→E0.i 1≤E0.a 0 (k*2+1))→N.den E=(n:Int) - k→(∀j,A.den E j=(if k<n∧E0.a 0 (k*2)<E0.i 1 then upd (del2 (E0.a 0) 0 k) 0 (E0.i 1) else del2 (E0.a 0) 0 k) j)→ ∀q∈([.i (.v 1) (.v 1),.a A h49ap0e7 h49ap0e8 2,.i N h49ap0e8]:List Eqn),q.ok E E0:=fun A N hk hN hA=>by
    have hdk:dkR (E0.a 0) (E0.i 1) n=k:=dkR_eq hr hkn hk hlo
    refine keep49 (fun m h1 h2=>hS.i m h1 h2) hS.b (fun j _=>?_) ?_
    ·rw [e7,hA];unfold cutA;rw [hdk]
    ·rw [e8,hdk,hN];omega
   have dl0:k=0→ ∀j,del2 (E0.a 0) 0 k j=E0.a 0 j:=fun h j=>by rw [del2_0,h];rfl
   rcases hx with rfl|rfl|rfl|rfl|rfl|rfl|rfl|rfl|rfl|rfl|rfl|rfl|rfl
   ·intro hf
    simp only [facts_cons,facts_nil,le_t,le_f,lt_t,lt_f,eq_t,eq_f,d_v,d_c,D3,D10,D5,h20,h21,hnE,q1,q6,and_true] at hf
    refine ⟨⟨_,rfl,.inr ⟨rfl,rfl⟩⟩,fun o=>⟨⟨k+1,?_⟩,fun b hb=>?_⟩⟩
    ·rw [hnt]
     refine ⟨⟨fun m h1 h2=>?_,hS.b,hS.a⟩,?_,?_,by omega,hn1,fun _=>?_⟩
     ·show (match fnd m [(20,h49ap0e0),(21,SE.v 20)] with|some e=>e.den E|none=>E.i m)=_
      simp only [fnd,if_neg (Ne.symm h1),if_neg (Ne.symm h2)];exact hS.i m h1 h2
     ·show E.i 20+1=_
      omega
     ·show E.i 20=_
      omega
     ·show E0.a 0 (k*2+1)<_
      omega
    ·obtain rfl:=Option.some.inj hb
     show (E0.i 0 - (E.i 20+1)).toNat<(E0.i 0 - E.i 20).toNat
     omega
   ·intro hf
    simp only [facts_cons,facts_nil,le_t,le_f,lt_t,lt_f,eq_t,eq_f,d_v,d_c,D3,D10,D5,h20,h21,hnE,q1,q6,and_true] at hf
    exact ⟨rfl,fin _ _ (fun _=>by omega) D9 (fun j=>by
     rw [D6,if_pos (by omega),del2_0]
     unfold upd
     by_cases hj:j=0
     ·rw [if_pos hj,if_pos (by omega)]
     ·rw [if_neg hj,if_neg (by omega),del2_0])⟩
   ·intro hf
    simp only [facts_cons,facts_nil,le_t,le_f,lt_t,lt_f,eq_t,eq_f,d_v,d_c,D3,D10,D5,h20,h21,hnE,q1,q6,and_true] at hf
    omega
   ·intro hf
    simp only [facts_cons,facts_nil,le_t,le_f,lt_t,lt_f,eq_t,eq_f,d_v,d_c,D3,D10,D5,h20,h21,hnE,q1,q6,and_true] at hf
    exact ⟨rfl,fin _ _ (fun _=>by omega) (by show E.i 0=_;omega) (fun j=>by
     rw [D4,if_pos (by omega)]
     unfold upd
     by_cases hj:j=0
     ·rw [if_pos hj,if_pos (by omega)]
     ·rw [if_neg hj,if_neg (by omega),dl0 (by omega)])⟩
   ·intro hf
    simp only [facts_cons,facts_nil,le_t,le_f,lt_t,lt_f,eq_t,eq_f,d_v,d_c,D3,D10,D5,h20,h21,hnE,q1,q6,and_true] at hf
    exfalso;omega
   ·intro hf
    simp only [facts_cons,facts_nil,le_t,le_f,lt_t,lt_f,eq_t,eq_f,d_v,d_c,D3,D10,D5,h20,h21,hnE,q1,q6,and_true] at hf
    omega
   ·intro hf
    simp only [facts_cons,facts_nil,le_t,le_f,lt_t,lt_f,eq_t,eq_f,d_v,d_c,D3,D10,D5,h20,h21,hnE,q1,q6,and_true] at hf
    exfalso;omega
   ·intro hf
    simp only [facts_cons,facts_nil,le_t,le_f,lt_t,lt_f,eq_t,eq_f,d_v,d_c,D3,D10,D5,h20,h21,hnE,q1,q6,and_true] at hf
    exact ⟨rfl,fin _ _ (fun _=>by omega) D9 (fun j=>by rw [D11,if_neg (by omega)])⟩
   ·intro hf
    simp only [facts_cons,facts_nil,le_t,le_f,lt_t,lt_f,eq_t,eq_f,d_v,d_c,D3,D10,D5,h20,h21,hnE,q1,q6,and_true] at hf
    omega
   ·intro hf
    simp only [facts_cons,facts_nil,le_t,le_f,lt_t,lt_f,eq_t,eq_f,d_v,d_c,D3,D10,D5,h20,h21,hnE,q1,q6,and_true] at hf
    exact ⟨rfl,fin _ _ (fun _=>by omega) (by show E.i 0=_;omega) (fun j=>by
     rw [if_neg (by omega),dl0 (by omega)]
     show E.a 0 j=_;rw [qa])⟩
   ·intro hf
    simp only [facts_cons,facts_nil,le_t,le_f,lt_t,lt_f,eq_t,eq_f,d_v,d_c,D3,D10,D5,h20,h21,hnE,q1,q6,and_true] at hf
    exact ⟨rfl,fin _ _ (fun _=>by omega) D9 (fun j=>by rw [D11,if_neg (by omega)])⟩
   ·intro hf
    simp only [facts_cons,facts_nil,le_t,le_f,lt_t,lt_f,eq_t,eq_f,d_v,d_c,D3,D10,D5,h20,h21,hnE,q1,q6,and_true] at hf
    omega
   ·intro hf
    simp only [facts_cons,facts_nil,le_t,le_f,lt_t,lt_f,eq_t,eq_f,d_v,d_c,D3,D10,D5,h20,h21,hnE,q1,q6,and_true] at hf
    exfalso;omega
end Go.Proofs.Ytgianhjmjiiadaa
end
section
set_option autoImplicit true
set_option relaxedAutoImplicit true
set_option linter.unusedVariables false
set_option linter.unusedSimpArgs false
namespace Go.Proofs.Ytgianhjmjiiadaa
open Go Go.Sy Go.RowKit Go.Shelf
section
attribute [local go_sem] Oper.semAt_some
structure BkAt (W:World) (Bn m o3 g cc k:Nat) (A:Nat→Int):Prop where
 b:W.cell? ⟨Bn,0,none⟩=some (.pointer (some ⟨m,o3,none⟩))
 s:W.cell? ⟨m,o3,none⟩=some (.slice (some ⟨g,0,none⟩) k cc)
 c: ∀j,j<k*2→W.cell? ⟨g,j,none⟩=some (.int .i64 (A j))
def KpR (Bn m g:Nat) (W W':World):Prop:=W'.heap[Bn]?=W.heap[Bn]?∧W'.heap[m]?=W.heap[m]?∧W'.heap[g]?=W.heap[g]?
theorem BkAt.keep {W W':World} {Bn m o3 g cc k:Nat} {A:Nat→Int} (h:BkAt W Bn m o3 g cc k A) (hk:KpR Bn m g W W'):BkAt W' Bn m o3 g cc k A:=
 ⟨(World.cell?_of_block (a:=⟨Bn,0,none⟩) hk.1).trans h.b,(World.cell?_of_block (a:=⟨m,o3,none⟩) hk.2.1).trans h.s,fun j hj=>(World.cell?_of_block (a:=⟨g,j,none⟩) hk.2.2).trans (h.c j hj)⟩
def pr2 (A:Nat→Int) (i:Nat):Int×Int:=(A (i*2),A (i*2+1))
def downL (A:Nat→Int) (k:Nat):List (Int×Int):=(List.range k).reverse.map (pr2 A)
def downP (A:Nat→Int) (k r:Nat):List (Int×Int):=(downL A k).take r
theorem downL_len (A:Nat→Int) (k:Nat):(downL A k).length=k:=by simp [downL]
theorem downP_succ (A:Nat→Int) {k r:Nat} (h:r<k):downP A k (r+1)=downP A k r++[pr2 A (k - 1 - r)]:=by
 unfold downP
 rw [List.take_add_one]
 congr 1
 have:(downL A k)[r]?=some (pr2 A (k - 1 - r)):=by
  unfold downL
  rw [List.getElem?_map,List.getElem?_reverse (by simpa using h),List.length_range,List.getElem?_range (by omega)];rfl
 rw [this];rfl
def encR (x:Int×Int):Array Value:= #[.agg #[.int .i64 x.1,.int .i64 x.2]]
set_option maxRecDepth 100000 in
set_option maxHeartbeats 4000000 in
theorem back1_in (F:Fence) (n:Nat) (h56:F.fn 56) (hro:F.round=none) (hn:1≤n) (l Bn m o3 g cc k:Nat) (A:Nat→Int) (hk:1≤k) (hk2:k≤100000) (J Jx:List (Int×Int)→World→Prop)
 (hY: ∀pre x W,J pre W→pre.length<k→YieldAt F (n - 1) Try.prog l (encR x) W fun e W'=>
   (e= .returned (.bool true)∧J (pre++[x]) W'∧KpR Bn m g W W')∨(e= .returned (.bool false)∧Jx (pre++[x]) W'))
 (W:World) (hB:BkAt W Bn m o3 g cc k A) (h0:J [] W):
 CallsIn F n Try.prog 56 #[.func (.yield l) #[] #[],.pointer (some ⟨Bn,0,none⟩)] W fun e W'=>(∃v,e= .returned v)∧
  ((∃ys,ys=downL A k∧J ys W')∨(∃pre,pre<+:downL A k∧Jx pre W')):=by
 have hb:=hB.b;have hs:=hB.s
 refine callsIn_of_wp Try.func56 rfl h56 ?_ hro
 simp only [Try.ntmps56,List.size_toArray,List.length_cons,List.length_nil,Nat.reduceAdd,Nat.reduceSub,Array.replicate_succ,Array.replicate_zero,List.push_toArray,List.append_toArray,List.nil_append,List.cons_append]
 gi_wp2
 gi_loopw [3] (fun p wr=> ∃r:Nat,r≤k∧p= .int .i64 ((k:Int) - 1 - r)∧BkAt wr Bn m o3 g cc k A∧J (downP A k r) wr)
  (fun p wr=>(RowKit.intOf p+1).toNat)
 case atStart=>
  exact ⟨0,Nat.zero_le _,by simp,hB,h0⟩
 case round=>
  obtain ⟨r,hr,rfl,hBr,hJ⟩:=hrel
  have hb:=hBr.b;have hs:=hBr.s
  rcases Nat.lt_or_ge r k with hrk|hrk
  ·obtain ⟨i,hi⟩: ∃i:Nat,k - 1 - r=i:=⟨_,rfl⟩
   have hi':(k:Int) - 1 - (r:Int)=(i:Int):=by omega
   have hik:i<k:=by omega
   have hiI:(i:Int)<(k:Int):=by omega
   have c0:=hBr.c (i*2) (by omega)
   have c1:=hBr.c (i*2+1) (by omega)
   have hlen:(downP A k r).length<k:=by unfold downP;rw [List.length_take,downL_len];omega
   obtain ⟨fn,tmps,assign,body,hy,hR⟩:=hY (downP A k r) (pr2 A i) wr hJ hlen
   simp only [encR,pr2] at hy
   simp only [hi']
   gi_wp2
   refine hR.mono ?_
   rintro e W3 (⟨rfl,hJ3,hk3⟩|⟨rfl,hJx3⟩)
   ·have hB3:=hBr.keep hk3
    gi_wp2
    go_roundw
    case rel=>
     refine ⟨r+1,hrk,by simp;omega,hB3,?_⟩
     rw [downP_succ A hrk,hi];exact hJ3
    case measure=>simp [RowKit.intOf]
   ·gi_wp2
    refine bodyPost_ret (results_none rfl _ _ _) rfl ?_
    refine ⟨⟨_,rfl⟩,.inr ⟨downP A k r++[pr2 A i],?_,hJx3⟩⟩
    rw [←hi,←downP_succ A hrk]
    exact List.take_prefix _ _
  ·have hi':(k:Int) - 1 - (r:Int)= -1:=by omega
   simp only [hi']
   gi_wp2
   go_end0
   refine ⟨⟨_,rfl⟩,.inl ⟨_,?_,hJ⟩⟩
   unfold downP
   exact List.take_of_length_le (by rw [downL_len];omega)
theorem KpR.trans {Bn m g:Nat} {A B C:World} (h:KpR Bn m g A B) (h':KpR Bn m g B C):KpR Bn m g A C:=⟨h'.1.trans h.1,h'.2.1.trans h.2.1,h'.2.2.trans h.2.2⟩
theorem back_stops (F:Fence) (n:Nat) (h56:F.fn 56) (hro:F.round=none) (hn:1≤n) (Bn m o3 g cc k:Nat) (A:Nat→Int) (hk:1≤k) (hk2:k≤100000) (w:World) (hB:BkAt w Bn m o3 g cc k A) (hlt:Bn<w.heap.size∧m<w.heap.size∧g<w.heap.size):
 SeqStopsK F n Try.prog 56 #[.pointer (some ⟨Bn,0,none⟩)] encR (KpR Bn m g) (fun ys=>ys=downL A k) (fun pre=>pre<+:downL A k) k w:=fun l J Jx W hW _ _ hY h0=>
 back1_in F n h56 hro hn l Bn m o3 g cc k A hk hk2 J Jx hY W
  ⟨(hW.cell (p:=⟨Bn,0,none⟩) hlt.1).trans hB.b,(hW.cell (p:=⟨m,o3,none⟩) hlt.2.1).trans hB.s,fun j hj=>(hW.cell (p:=⟨g,j,none⟩) hlt.2.2).trans (hB.c j hj)⟩ h0
set_option maxHeartbeats 1000000 in
theorem backward_in (F:Fence) (n:Nat) (h45:F.fn 45) (hro:F.round=none) (p0:Option Addr) (w:World):
 CallsIn F n Try.prog 45 #[.pointer p0] w fun e w'=>e= .returned (.func (.func 56) #[] #[.pointer (some ⟨w.heap.size,0,none⟩)])∧w'=w.alloc (.cells #[.pointer p0] 95):=by
 refine callsIn_of_wp Try.func45 rfl h45 ?_ hro
 simp only [Try.ntmps45,List.size_toArray,List.length_cons,List.length_nil,Nat.reduceAdd,Nat.reduceSub,Array.replicate_succ,Array.replicate_zero,List.push_toArray,List.append_toArray,List.nil_append,List.cons_append]
 gi_wp2
 go_ret
 exact ⟨rfl,rfl⟩
structure Turned (K:Nat) (cs:Array Value) (T:TypeId) (w W:World):Prop where
 k:W.heap[K]?=some (.cells cs T (0,0))
 same: ∀j,j<w.heap.size→j≠K→W.heap[j]?=w.heap[j]?
 size:w.heap.size≤W.heap.size
 os:W.os=w.os
 tape:W.tape=w.tape
 output:W.output=w.output
theorem Turned.alloc {K:Nat} {cs:Array Value} {T:TypeId} {w W:World} (h:Turned K cs T w W) (hK:K<w.heap.size) (o:Obj):Turned K cs T w (W.alloc o) where
 k:=by
  have:=h.size
  simp only [World.alloc];rw [Array.getElem?_push_lt (by omega),←Array.getElem?_eq_getElem];exact h.k
 same j hj hn:=by
  have:=h.size
  simp only [World.alloc];rw [Array.getElem?_push_lt (by omega),←Array.getElem?_eq_getElem];exact h.same j hj hn
 size:=by have:=h.size;simp only [World.alloc,Array.size_push];omega
 os:=h.os
 tape:=h.tape
 output:=h.output
theorem heap_setCell_ne {w:World} {b o:Nat} {v:Value} {j:Nat} (h:j≠b):(w.setCell ⟨b,o,none⟩ v).heap[j]?=w.heap[j]?:=Below.heap_setCell _ _ _ j (fun e=>h e)
theorem size_setCell (w:World) (a:Addr) (v:Value):(w.setCell a v).heap.size=w.heap.size:=by simp [World.setCell]
theorem Turned.far {K:Nat} {cs:Array Value} {T:TypeId} {w W:World} (h:Turned K cs T w W) (hK:K<w.heap.size) {b o:Nat} (hb:w.heap.size≤b) (v:Value):Turned K cs T w (W.setCell ⟨b,o,none⟩ v) where
 k:=by rw [heap_setCell_ne (by omega)];exact h.k
 same j hj hn:=by rw [heap_setCell_ne (by omega)];exact h.same j hj hn
 size:=by rw [size_setCell];exact h.size
 os:=h.os
 tape:=h.tape
 output:=h.output
theorem Turned.set {K:Nat} {cs:Array Value} {T:TypeId} {w W:World} (h:Turned K cs T w W) (o:Nat) (v:Value):Turned K (cs.setIfInBounds o v) T w (W.setCell ⟨K,o,none⟩ v) where
 k:=by rw [setCell_wset h.k];exact wset_same (Array.getElem?_eq_some_iff.1 h.k).1
 same j hj hn:=by rw [heap_setCell_ne hn];exact h.same j hj hn
 size:=by rw [size_setCell];exact h.size
 os:=h.os
 tape:=h.tape
 output:=h.output
theorem Turned.drew {K:Nat} {cs:Array Value} {T:TypeId} {w W:World} (h:Turned K cs T w W):Turned K cs T w W.drew:=⟨h.k,h.same,h.size,h.os,h.tape,h.output⟩
theorem Turned.of {K:Nat} {cs:Array Value} {T:TypeId} {w:World} (h:w.heap[K]?=some (.cells cs T (0,0))):Turned K cs T w w:=⟨h,fun _ _ _=>rfl,Nat.le_refl _,rfl,rfl,rfl⟩
theorem Turned.cell {K:Nat} {cs:Array Value} {T:TypeId} {w W:World} (h:Turned K cs T w W) (j:Nat):W.cell? ⟨K,j,none⟩=cs[j]?∧W.frozen? ⟨K,j,none⟩=false:=by
 simp [World.cell?,World.frozen?,h.k]
set_option maxRecDepth 100000 in
set_option maxHeartbeats 4000000 in
theorem reset_nil (F:Fence) (n:Nat) (h44:F.fn 44) (hro:F.round=none) (K:Nat) (x1 x2 x3 x4:Int) (w:World) (hK:w.heap[K]?=some (.cells #[.slice none 0 0,.int .i64 x1,.int .u64 x2,.int .u64 x3,.int .u64 x4] 65 (0,0))):
 CallsIn F n Try.prog 44 #[.pointer (some ⟨K,0,none⟩)] w fun e W'=>e= .returned (.tuple #[])∧Turned K #[.slice none 0 0,.int .i64 0,.int .u64 0,.int .u64 0,.int .u64 0] 65 w W':=by
 have T0:=Turned.of hK
 have c0:=T0.cell 0;have c1:=T0.cell 1;have c2:=T0.cell 2;have c3:=T0.cell 3;have c4:=T0.cell 4
 obtain ⟨c0,f0⟩:=c0;obtain ⟨c1,f1⟩:=c1;obtain ⟨c2,f2⟩:=c2;obtain ⟨c3,f3⟩:=c3;obtain ⟨c4,f4⟩:=c4
 simp only [List.getElem?_toArray,List.getElem?_cons_zero,List.getElem?_cons_succ] at c0 c1 c2 c3 c4
 refine callsIn_of_wp Try.func44 rfl h44 ?_ hro
 simp only [Try.ntmps44,List.size_toArray,List.length_cons,List.length_nil,Nat.reduceAdd,Nat.reduceSub,Array.replicate_succ,Array.replicate_zero,List.push_toArray,List.append_toArray,List.nil_append,List.cons_append]
 gi_wp2
 gi_loopw [21] (fun i wr=>i= .int .i64 0∧Turned K #[.slice none 0 0,.int .i64 0,.int .u64 0,.int .u64 0,.int .u64 0] 65 w wr) (fun _ _=>0)
 case atStart=>exact ⟨rfl,(((T0.set 1 (.int .i64 0)).set 2 (.int .u64 0)).set 3 (.int .u64 0)).set 4 (.int .u64 0)⟩
 case round=>
  obtain ⟨rfl,hT⟩:=hrel
  obtain ⟨d0,g0⟩:=hT.cell 0
  simp only [List.getElem?_toArray,List.getElem?_cons_zero,List.getElem?_cons_succ] at d0
  gi_wp2
  go_end0
  exact ⟨rfl,hT.set 0 _⟩
set_option maxRecDepth 100000 in
set_option maxHeartbeats 4000000 in
theorem reset_some (F:Fence) (n:Nat) (h44:F.fn 44) (w0:Nat) (hro:F.round=none) (K rb mm cc:Nat) (B:Nat→Int) (hrK:rb≠K) (hrw:rb<w0) (hm:mm≤100000) (hmc:mm≤cc) (x1 x2 x3 x4:Int) (w:World) (hw0:w0=w.heap.size) (hB: ∀j,j<mm*2→w.cell? ⟨rb,j,none⟩=some (.int .i64 (B j))) (hK:w.heap[K]?=some (.cells #[.slice (some ⟨rb,0,none⟩) mm cc,.int .i64 x1,.int .u64 x2,.int .u64 x3,.int .u64 x4] 65 (0,0))):
 CallsIn F n Try.prog 44 #[.pointer (some ⟨K,0,none⟩)] w fun e W'=>e= .returned (.tuple #[])∧Turned K #[.slice (some ⟨rb,0,none⟩) 0 cc,.int .i64 0,.int .u64 0,.int .u64 0,.int .u64 0] 65 w W':=by
 have T0:=Turned.of hK
 have c0:=T0.cell 0;have c1:=T0.cell 1;have c2:=T0.cell 2;have c3:=T0.cell 3;have c4:=T0.cell 4
 obtain ⟨c0,f0⟩:=c0;obtain ⟨c1,f1⟩:=c1;obtain ⟨c2,f2⟩:=c2;obtain ⟨c3,f3⟩:=c3;obtain ⟨c4,f4⟩:=c4
 simp only [List.getElem?_toArray,List.getElem?_cons_zero,List.getElem?_cons_succ] at c0 c1 c2 c3 c4
 refine callsIn_of_wp Try.func44 rfl h44 ?_ hro
 simp only [Try.ntmps44,List.size_toArray,List.length_cons,List.length_nil,Nat.reduceAdd,Nat.reduceSub,Array.replicate_succ,Array.replicate_zero,List.push_toArray,List.append_toArray,List.nil_append,List.cons_append]
 subst hw0
 have hKw:K<w.heap.size:=(Array.getElem?_eq_some_iff.1 hK).1
 gi_wp2
 gi_loopw [21] (fun i wr=> ∃r:Nat,r≤mm∧i= .int .i64 (r:Int)∧Turned K #[.slice (some ⟨rb,0,none⟩) mm cc,.int .i64 0,.int .u64 0,.int .u64 0,.int .u64 0] 65 w wr) (fun p _=>(mm - (RowKit.intOf p).toNat))
 case atStart=>exact ⟨0,Nat.zero_le _,rfl,(((T0.set 1 (.int .i64 0)).set 2 (.int .u64 0)).set 3 (.int .u64 0)).set 4 (.int .u64 0)⟩
 case round=>
  obtain ⟨r,hr,rfl,hT⟩:=hrel
  obtain ⟨d0,g0⟩:=hT.cell 0
  simp only [List.getElem?_toArray,List.getElem?_cons_zero,List.getElem?_cons_succ] at d0
  rcases Nat.lt_or_ge r mm with hrm|hrm
  ·have b0:wr.cell? ⟨rb,r*2,none⟩=some (.int .i64 (B (r*2))):=(World.cell?_of_block (a:=⟨rb,r*2,none⟩) (hT.same rb hrw hrK)).trans (hB _ (by omega))
   have b1:wr.cell? ⟨rb,r*2+1,none⟩=some (.int .i64 (B (r*2+1))):=(World.cell?_of_block (a:=⟨rb,r*2+1,none⟩) (hT.same rb hrw hrK)).trans (hB _ (by omega))
   have hrI:(r:Int)<(mm:Int):=by omega
   gi_wp2
   go_roundw
   case rel=>exact ⟨r+1,hrm,by simp,hT.alloc hKw _⟩
   case measure=>simp [RowKit.intOf];omega
  ·have hrI: ¬ ((r:Int)<(mm:Int)):=by omega
   gi_wp2
   go_end0
   exact ⟨rfl,hT.set 0 _⟩
theorem post44 {w wl W:World} {K bx m o:Nat} {cs:Array Value} {e0 e1 ec:Int} {rs:Value} (hT:Turned K cs 65 wl W) (hs:w.heap.size≤wl.heap.size) (hbx:wl.heap[bx]?=some (.cells #[.pointer (some ⟨K,0,none⟩)] 60 (0,0))) (hne:bx≠K) (hmK:m≠K)
 (hold:wl.heap[m]?=w.heap[m]?) (hmw:m<w.heap.size) (fz: ∀j,w.frozen? ⟨m,j,none⟩=false)
 (c0:w.cell? ⟨m,o,none⟩=some (.int .u64 e0)) (c1:w.cell? ⟨m,o+1,none⟩=some (.int .u64 e1)) (c2:w.cell? ⟨m,o+2,none⟩=some (.int .u64 ec)) (c3:w.cell? ⟨m,o+3,none⟩=some rs):
 W.cell? ⟨bx,0,none⟩=some (.pointer (some ⟨K,0,none⟩))∧W.cell? ⟨m,o,none⟩=some (.int .u64 e0)∧W.cell? ⟨m,o+1,none⟩=some (.int .u64 e1)∧W.cell? ⟨m,o+2,none⟩=some (.int .u64 ec)∧W.cell? ⟨m,o+3,none⟩=some rs∧(∀j,W.frozen? ⟨m,j,none⟩=false)∧
  W.heap[m]?=w.heap[m]?∧W.heap[bx]?=some (.cells #[.pointer (some ⟨K,0,none⟩)] 60 (0,0)):=by
 have hm:W.heap[m]?=w.heap[m]?:=(hT.same m (by omega) hmK).trans hold
 have hb:W.heap[bx]?=some (.cells #[.pointer (some ⟨K,0,none⟩)] 60 (0,0)):=(hT.same bx (Array.getElem?_eq_some_iff.1 hbx).1 hne).trans hbx
 refine ⟨by simp [World.cell?,hb],(World.cell?_of_block (a:=⟨m,o,none⟩) hm).trans c0,(World.cell?_of_block (a:=⟨m,o+1,none⟩) hm).trans c1,(World.cell?_of_block (a:=⟨m,o+2,none⟩) hm).trans c2,(World.cell?_of_block (a:=⟨m,o+3,none⟩) hm).trans c3,fun j=>(World.frozen?_of_block (a:=⟨m,j,none⟩) hm).trans (fz j),hm,hb⟩
end
end Go.Proofs.Ytgianhjmjiiadaa
end
section
set_option autoImplicit true
set_option relaxedAutoImplicit true
set_option linter.unusedVariables false
set_option linter.unusedSimpArgs false
namespace Go.Proofs.Ytgianhjmjiiadaa
open Go
def aheadOk (ops:Array Oper):Bool:=(List.range ops.size).all fun j=>((ops[j]?).map fun o=>o.after.all fun e=>decide (e.on<j)).getD true
theorem aheadOk_spec {ops:Array Oper} (h:aheadOk ops=true) {j:Nat} {o:Oper} (ho:ops[j]?=some o): ∀e∈o.after,e.on<j:=by
 have hlt:j<ops.size:=(Array.getElem?_eq_some_iff.1 ho).1
 have:=List.all_eq_true.1 h j (List.mem_range.2 hlt)
 rw [ho] at this
 simp at this
 intro e he
 obtain ⟨i,hi,rfl⟩:=Array.getElem_of_mem he
 exact this i hi
def Closed (ops:Array Oper) (listed:Array Bool):Prop:= ∀j o,ops[j]?=some o→listed.getD j false=true→ ∀e∈o.after,Region.binds .any e=true→listed.getD e.on false=true
theorem getD_set_or {L:Array Bool} {i j:Nat} (h:(L.setIfInBounds i true).getD j false=true):j=i∨L.getD j false=true:=by
 by_cases hij:i=j
 ·exact .inl hij.symm
 ·rw [getD_set_ne false hij] at h;exact .inr h
theorem getD_set_keep {L:Array Bool} {i j:Nat} (h:L.getD j false=true):(L.setIfInBounds i true).getD j false=true:=by
 by_cases hij:i=j
 ·subst hij
  have hlt:i<L.size:=by
   rcases Nat.lt_or_ge i L.size with h'|h'
   ·exact h'
   ·simp [Array.getD,Nat.not_lt.2 h'] at h
  simp [Array.getD,hlt]
 ·rw [getD_set_ne false hij];exact h
theorem all_of_ready_nil {ops:Array Oper} {L:Array Bool} (ha:aheadOk ops=true) (hs:L.size=ops.size) (hr:Region.ready .any ops L=[]): ∀j,j<ops.size→L.getD j false=true:=by
 intro j
 induction j using Nat.strongRecOn with
 |ind j ih=>
  intro hj
  by_cases h:L.getD j false=true
  ·exact h
  ·exfalso
   have hjs:j<L.size:=by omega
   have:j∈Region.ready .any ops L:=mem_ready.2 ⟨by simp [Array.getD,hjs] at h⊢;exact h,ops[j],by simp [hj],fun e he hb=>by
    have:=aheadOk_spec ha (j:=j) (o:=ops[j]) (by simp [hj]) e he
    exact ih e.on this (by omega)⟩
   rw [hr] at this;cases this
theorem wpAnyIn_inv {F:Fence} {n:Nat} {P:Program} {ops:Array Oper} {Q:Exit→Act→World→Prop} (S:Array Bool→Act→World→Prop) (ha:aheadOk ops=true)
 (hstep: ∀i o,ops[i]?=some o→ ∀L a w,L.size=ops.size→Closed ops L→S L a w→L.getD i true=false→(∀e∈o.after,Region.binds .any e=true→L.getD e.on false=true)→wpOpIn F n P ops Q i (S (L.setIfInBounds i true)) a w)
 (hdone: ∀L a w,(∀j,j<ops.size→L.getD j false=true)→S L a w→Q .normal a w):
 ∀(fuel:Nat) (L:Array Bool) (a:Act) (w:World),L.toList.count false≤fuel→L.size=ops.size→Closed ops L→S L a w→wpAnyIn F n P .any ops Q fuel L a w:=by
 intro fuel
 induction fuel with
 |zero=>
  intro L a w hc hs hcl hS
  have h0:L.toList.count false=0:=by omega
  have hall: ∀j,j<ops.size→L.getD j false=true:=by
   intro j hj
   have hjs:j<L.size:=by omega
   have hm:L[j]∈L.toList:=by simp
   have hnf:=List.count_eq_zero.1 h0
   simp only [Array.getD,hjs,dif_pos]
   cases hb:L[j] with
   |true=>simpa using hb
   |false=>rw [hb] at hm;exact absurd hm hnf
  refine ⟨?_,hdone L a w hall hS⟩
  cases hr:Region.ready .any ops L with
  |nil=>rfl
  |cons x xs=>
   have hx:x∈Region.ready .any ops L:=by rw [hr];simp
   obtain ⟨h1,o,ho,_⟩:=mem_ready.1 hx
   have hlt:x<ops.size:=(Array.getElem?_eq_some_iff.1 ho).1
   have:=hall x hlt
   have hxs:x<L.size:=by omega
   simp [Array.getD,hxs] at h1 this
   rw [h1] at this;cases this
 |succ fuel ih=>
  intro L a w hc hs hcl hS
  refine ⟨fun hr=>hdone L a w (all_of_ready_nil ha hs hr) hS,fun i hi=>?_⟩
  obtain ⟨h1,o,ho,hd⟩:=mem_ready.1 hi
  have hlt:i<ops.size:=(Array.getElem?_eq_some_iff.1 ho).1
  have his:i<L.size:=by omega
  refine wpOpIn_mono (fun a' w' hS'=>ih _ a' w' ?_ (by simpa using hs) ?_ hS') (hstep i o ho L a w hs hcl hS h1 hd)
  ·have hf:L[i]=false:=by simpa [Array.getD,his] using h1
   simp only [Array.setIfInBounds,his,dif_pos,Array.toList_set]
   rw [List.count_set (by simpa using his)]
   have:0<L.toList.count false:=List.count_pos_iff.2 (by rw [←hf];simp)
   simp [hf]
   have e0:L.toList.count false=Array.count false L:=by simp
   omega
  ·intro j oj hoj hj e he hb
   refine getD_set_keep ?_
   rcases getD_set_or hj with rfl|hj
   ·rw [ho] at hoj;cases hoj
    exact hd e he hb
   ·exact hcl j oj hoj hj e he hb
theorem region_inv {F:Fence} {n:Nat} {P:Program} {ops:Array Oper} {Q:Exit→Act→World→Prop} {id:Nat} {a:Act} {w:World} (hm:P.follows .mixedOrders=true) (S:Array Bool→Act→World→Prop) (ha:aheadOk ops=true)
 (h0:S (Array.replicate ops.size false) a w.drew)
 (hstep: ∀i o,ops[i]?=some o→ ∀L a w,L.size=ops.size→Closed ops L→S L a w→L.getD i true=false→(∀e∈o.after,Region.binds .any e=true→L.getD e.on false=true)→wpOpIn F n P ops Q i (S (L.setIfInBounds i true)) a w)
 (hdone: ∀L a w,(∀j,j<ops.size→L.getD j false=true)→S L a w→Q .normal a w):
 (Code.region id ops true).wpIn F n P Q a w:=by
 refine wpIn_region_any hm ?_
 refine wpAnyIn_inv S ha hstep hdone _ _ _ _ ?_ (by simp) ?_ h0
 ·simp
 ·intro j o ho hj
  simp [Array.getD] at hj
end Go.Proofs.Ytgianhjmjiiadaa
end
section
set_option autoImplicit true
set_option relaxedAutoImplicit true
set_option linter.unusedVariables false
set_option linter.unusedSimpArgs false
namespace Go.Proofs.Ytgianhjmjiiadaa
open Go Go.Sy Go.RowKit Go.Shelf
section
attribute [local go_sem] Oper.semAt_some
theorem t62:Try.prog.underlying 62=some (.slice 67):=by kernel_rfl
theorem i67c:(Try.prog.info? 67).map (fun i=>(i.zero.map (·.cells),i.size,i.bytes))=some (some #[.int .i64 0,.int .i64 0],2,16):=by kernel_rfl
theorem i67: ∃i z,Try.prog.info? 67=some i∧i.zero=some z∧z.cells.size=2∧i.size=2∧i.bytes=16:=by
 have h:=i67c
 cases hq:Try.prog.info? 67 with
 |none=>rw [hq] at h;cases h
 |some i0=>
  rw [hq] at h
  simp only [Option.map_some,Option.some.injEq,Prod.mk.injEq] at h
  obtain ⟨h1,h2,h3⟩:=h
  cases hz:i0.zero with
  |none=>rw [hz] at h1;cases h1
  |some z=>rw [hz] at h1;simp only [Option.map_some,Option.some.injEq] at h1;exact ⟨i0,z,rfl,hz,by rw [h1];rfl,h2,h3⟩
def flatR (l:List (Int×Int)):List Value:=l.flatMap fun x=>[.int .i64 x.1,.int .i64 x.2]
theorem flatR_snoc (l:List (Int×Int)) (x:Int×Int):flatR (l++[x])=flatR l++[.int .i64 x.1,.int .i64 x.2]:=by simp [flatR]
def frm (v:Value) (e0 e1 ec:Int):Array Value:= #[v,.int .i64 0,.int .u64 e0,.int .u64 e1,.int .u64 ec]
structure GW (K:Nat) (e0 e1 ec:Int) (S0:Value) (wB:World) (v:Value) (pre:List (Int×Int)) (W:World):Prop where
 k:W.heap[K]?=some (.cells (frm v e0 e1 ec) 65 (0,0))
 same: ∀j,j<wB.heap.size→j≠K→S0.ownBlock≠some j→W.heap[j]?=wB.heap[j]?
 size:wB.heap.size≤W.heap.size
 os:W.os=wB.os
 tape:W.tape=wB.tape
 output:W.output=wB.output
 row:W.ownsRow 0 67 2 v pre.length (flatR pre)
 at_: ∀r,v.ownBlock=some r→S0.ownBlock=some r∨wB.heap.size≤r
theorem own_cells {W:World} {base e size n:Nat} {v:Value} {xs:List Value} (h:W.ownsRow base e size v n xs) {j:Nat} (hj:v.ownBlock=some j): ∃cur,W.heap[j]?=some (.cells cur e (0,0)):=by
 rcases h.2 with ⟨rfl,_⟩|⟨g,cap,cur,rfl,_,hg,_⟩
 ·simp [Value.ownBlock] at hj
 ·obtain rfl:g=j:=by simpa [Value.ownBlock] using hj
  exact ⟨cur,hg⟩
theorem ga_step {K:Nat} {e0 e1 ec:Int} {S0:Value} {wB:World} {v:Value} {pre:List (Int×Int)} {W:World} (h:GW K e0 e1 ec S0 wB v pre W) (hK:K<wB.heap.size) (x:Int×Int) (hlen:pre.length<1000) (ty:TypeId):
 ∃v' w1,(Builtin.append_ #[62,62] ty #[v,.slice (some ⟨W.heap.size,0,none⟩) 1 1]).run Try.prog (W.drew.alloc (.cells #[.int .i64 x.1,.int .i64 x.2] 67))= .ok v' w1∧GW K e0 e1 ec S0 wB v' (pre++[x]) (w1.setCell ⟨K,0,none⟩ v')∧
  w1.heap[K]?=some (.cells (frm v e0 e1 ec) 65 (0,0))∧KeepsFrom wB.heap.size W (w1.setCell ⟨K,0,none⟩ v')∧(∀j,j<wB.heap.size→j≠K→S0.ownBlock≠some j→w1.heap[j]?=W.heap[j]?)∧(∃g cap,v'= .slice (some ⟨g,0,none⟩) (pre.length+1) cap):=by
 obtain ⟨i,z,hi,hz,hzs,hs,hb⟩:=i67
 have hrow0:(W.drew.alloc (.cells #[.int .i64 x.1,.int .i64 x.2] 67)).ownsRow 0 67 2 v pre.length (flatR pre):=World.ownsRow.alloc (show W.drew.ownsRow 0 67 2 v pre.length (flatR pre) from h.row) _
 have hnewb:(W.drew.alloc (.cells #[.int .i64 x.1,.int .i64 x.2] 67)).heap[W.heap.size]?=some (.cells #[.int .i64 x.1,.int .i64 x.2] 67 (0,0)):=World.alloc_heap_new W.drew _
 have hold: ∀j,j<W.heap.size→(W.drew.alloc (.cells #[.int .i64 x.1,.int .i64 x.2] 67)).heap[j]?=W.heap[j]?:=fun j hj=>Below.heap_alloc W.drew _ _ hj
 obtain ⟨v',w1,hrun,hown,hgr,hnil,hat⟩:=run_append_own_at (P:=Try.prog) (W.drew.alloc (.cells #[.int .i64 x.1,.int .i64 x.2] 67)) 0 62 ty 67 i z 2 16 t62 hi hz hs hb hzs (by decide) v pre.length (flatR pre) hrow0 ⟨W.heap.size,0,none⟩ 1 1 [.int .i64 x.1,.int .i64 x.2] rfl
  (by
    intro j u hj
    rw [addr_add,Nat.zero_add]
    simp only [World.cell?,hnewb]
    simpa using hj)
  (by intro u hu;simp at hu;rcases hu with rfl|rfl<;>rfl) (by simp only [maxLen];omega) (by omega) (Nat.zero_le _)
 have hsz0:(W.drew.alloc (.cells #[.int .i64 x.1,.int .i64 x.2] 67)).heap.size=W.heap.size+1:=World.size_alloc _ _
 have hKW:K<W.heap.size:=Nat.lt_of_lt_of_le hK h.size
 have hvK:some K≠v.ownBlock:=fun e=>by
  obtain ⟨cur,hc⟩:=own_cells h.row e.symm
  rw [h.k] at hc;simp at hc
 have hK1:w1.heap[K]?=some (.cells (frm v e0 e1 ec) 65 (0,0)):=(hgr.block K (by omega) hvK).trans ((hold K hKW).trans h.k)
 have hv'K:some K≠v'.ownBlock:=fun e=>by
  obtain ⟨cur,hc⟩:=own_cells hown e.symm
  rw [hK1] at hc;simp at hc
 have hfl:flatR (pre++[x])=flatR pre++[.int .i64 x.1,.int .i64 x.2]:=flatR_snoc pre x
 have hsame: ∀j,j<wB.heap.size→j≠K→S0.ownBlock≠some j→w1.heap[j]?=W.heap[j]?:=fun j hj hjK hjS=>by
  have hjW:j<W.heap.size:=Nat.lt_of_lt_of_le hj h.size
  refine (hgr.block j (by omega) fun e=>?_).trans (hold j hjW)
  rcases h.at_ j e.symm with h'|h'
  ·exact hjS h'
  ·omega
 have hk3:(w1.setCell ⟨K,0,none⟩ v').heap[K]?=some (.cells (frm v' e0 e1 ec) 65 (0,0)):=by
  rw [setCell_wset hK1]
  exact wset_same (Array.getElem?_eq_some_iff.1 hK1).1
 have hne3: ∀j,j≠K→(w1.setCell ⟨K,0,none⟩ v').heap[j]?=w1.heap[j]?:=fun j hj=>heap_setCell_ne hj
 refine ⟨v',w1,hrun,⟨hk3,fun j hj hjK hjS=>(hne3 j hjK).trans ((hsame j hj hjK hjS).trans (h.same j hj hjK hjS)),?_,hgr.os.trans h.os,hgr.tape.trans h.tape,hgr.output.trans h.output,?_,?_⟩,hK1,⟨?_,?_⟩,hsame,ownsRow_succ hown⟩
 ·have:=hgr.size;have:=h.size
  rw [size_setCell];omega
 ·rw [hfl,List.length_append]
  exact hown.kept (grownBy_setCell' w1 K v') (.inr fun e=>hv'K e.symm)
 ·intro r hr
  rcases hat with h'|h'
  ·exact h.at_ r (h'▸hr)
  ·rw [h'] at hr
   have:(W.drew.alloc (.cells #[.int .i64 x.1,.int .i64 x.2] 67)).heap.size=r:=by simpa using hr
   have:=h.size
   right;omega
 ·have:=hgr.size
  rw [size_setCell];omega
 ·intro j o hj ho hc
  have hjK:j≠K:=by omega
  have hjW:j<W.heap.size:=(Array.getElem?_eq_some_iff.1 ho).1
  refine (hne3 j hjK).trans ((hgr.block j (by omega) fun e=>?_).trans ((hold j hjW).trans ho))
  obtain ⟨cur,hcc⟩:=own_cells h.row e.symm
  rw [ho] at hcc;cases hcc;cases hc
end
section
attribute [local go_sem] Oper.semAt_some
theorem grown_block {B:Nat} {W W':World} {row:Option Nat} (hg:W.grownBy W' row) (hr: ∀r,row=some r→B≤r∧ ∃o:Obj,W.heap[r]?=some o∧o.isCells=false) {j:Nat} {cs:Array Value} {T:TypeId} (h:W.heap[j]?=some (.cells cs T (0,0))):W'.heap[j]?=some (.cells cs T (0,0)):=by
 refine (hg.block j (Array.getElem?_eq_some_iff.1 h).1 fun e=>?_).trans h
 obtain ⟨_,o,ho,hc⟩:=hr j e.symm
 rw [h] at ho;cases ho;cases hc
theorem ginv_from {K:Nat} {e0 e1 ec:Int} {S0:Value} {wB:World}:OwnFrom wB.heap.size (fun pre W=> ∃v,GW K e0 e1 ec S0 wB v pre W):=by
 rintro pre W W' row ⟨v,h⟩ hg hr
 refine ⟨v,grown_block hg hr h.k,fun j hj hjK hjS=>?_,Nat.le_trans h.size hg.size,hg.os.trans h.os,hg.tape.trans h.tape,hg.output.trans h.output,h.row.kept hg ?_,h.at_⟩
 ·refine (hg.block j (Nat.lt_of_lt_of_le hj h.size) fun e=>?_).trans (h.same j hj hjK hjS)
  have:=(hr j e.symm).1;omega
 ·cases hv:v.ownBlock with
  |none=>exact .inl rfl
  |some r=>
   refine .inr fun e=>?_
   obtain ⟨cur,hc⟩:=own_cells h.row hv
   obtain ⟨_,o,ho,hcc⟩:=hr r e.symm
   rw [hc] at ho;cases ho;cases hcc
def AxB (bx:Nat) (wB:World) (x:Int×Int) (a:Act) (W:World):Prop:=
 ∃b,wB.heap.size≤b∧W.heap[b]?=some (.cells #[.int .i64 x.1,.int .i64 x.2] 106 (0,0))∧a.tmps.size=68∧a.eval (.tmp 3)= .pointer (some ⟨bx,0,none⟩)∧a.eval (.tmp 4)= .pointer (some ⟨b,0,none⟩)
theorem ax_from {bx:Nat} {wB:World} (x:Int×Int) (a:Act):OwnFrom wB.heap.size (fun (_:Unit) W=>AxB bx wB x a W):=by
 rintro _ W W' row ⟨b,hb,hbb,h⟩ hg hr
 exact ⟨b,hb,grown_block hg hr hbb,h⟩
def vals12 (K b:Nat) (v v':Value) (x:Int×Int) (nb:Nat):Nat→Value
 |0=> .pointer (some ⟨K,0,none⟩)
 |1=> .pointer (some ⟨K,0,none⟩)
 |2=> .pointer (some ⟨K,0,none⟩)
 |3=> .pointer (some ⟨K,0,none⟩)
 |4=>v
 |5=> .pointer (some ⟨b,0,none⟩)
 |6=> .int .i64 x.1
 |7=> .pointer (some ⟨b,1,none⟩)
 |8=> .int .i64 x.2
 |9=> .agg #[.int .i64 x.1,.int .i64 x.2]
 |10=> .slice (some ⟨nb,0,none⟩) 1 1
 |11=>v'
 |12=> .pointer (some ⟨K,0,none⟩)
 |13=> .pointer (some ⟨K,0,none⟩)
 |_=>undef
def wOf (K:Nat) (v':Value) (x:Int×Int) (W w1:World) (l10 l11 l14:Bool):World:=
 if l14 then w1.setCell ⟨K,0,none⟩ v' else if l11 then w1 else if l10 then W.drew.alloc (.cells #[.int .i64 x.1,.int .i64 x.2] 67) else W.drew
structure S12 (bx K b:Nat) (v v':Value) (x:Int×Int) (W w1:World) (L:Array Bool) (a:Act) (w:World):Prop where
 sz:a.tmps.size=68
 t3:a.eval (.tmp 3)= .pointer (some ⟨bx,0,none⟩)
 t4:a.eval (.tmp 4)= .pointer (some ⟨b,0,none⟩)
 val: ∀j,j<14→L.getD j false=true→a.eval (.tmp (46+j))=vals12 K b v v' x W.heap.size j
 w:w=wOf K v' x W w1 (L.getD 10 false) (L.getD 11 false) (L.getD 14 false)
theorem getD_set_same {L:Array Bool} {i:Nat} (h:i<L.size):(L.setIfInBounds i true).getD i false=true:=by simp [Array.getD,h]
theorem S12.put {bx K b:Nat} {v v':Value} {x:Int×Int} {W w1:World} {L:Array Bool} {a:Act} {w w':World} (h:S12 bx K b v v' x W w1 L a w) {i:Nat} (hi:i<14) {u:Value} (hu:u=vals12 K b v v' x W.heap.size i)
 (hw:w'=wOf K v' x W w1 ((L.setIfInBounds i true).getD 10 false) ((L.setIfInBounds i true).getD 11 false) ((L.setIfInBounds i true).getD 14 false)):S12 bx K b v v' x W w1 (L.setIfInBounds i true) (a.put (some (46+i)) u) w' where
 sz:=by simp [Act.put,h.sz]
 t3:=by rw [Act.eval_put_ne _ _ _ _ (by omega)];exact h.t3
 t4:=by rw [Act.eval_put_ne _ _ _ _ (by omega)];exact h.t4
 val j hj hL:=by
  by_cases hij:i=j
  ·subst hij;rw [Act.eval_put_same _ _ _ (by rw [h.sz];omega)];exact hu
  ·rw [Act.eval_put_ne _ _ _ _ (by omega)]
   rw [getD_set_ne false hij] at hL
   exact h.val j hj hL
 w:=hw
theorem S12.soft {bx K b:Nat} {v v':Value} {x:Int×Int} {W w1:World} {L:Array Bool} {a:Act} {w:World} (h:S12 bx K b v v' x W w1 L a w) {i:Nat} (hi:i<14) (h10:i≠10) (h11:i≠11) {u:Value} (hu:u=vals12 K b v v' x W.heap.size i):
 S12 bx K b v v' x W w1 (L.setIfInBounds i true) (a.put (some (46+i)) u) w:=
 h.put hi hu (by rw [getD_set_ne false h10,getD_set_ne false h11,getD_set_ne false (by omega:i≠14)];exact h.w)
theorem wpOpIn_value {F:Fence} {n:Nat} {P:Program} {ops:Array Oper} {Q:Exit→Act→World→Prop} {i:Nat} {o:Oper} {K:Act→World→Prop} {a:Act} {w w':World} {u:Value} (ho:ops[i]?=some o) (hg:o.guard=none) (hd: ∀c,o.op≠ .defer c)
 (hab:o.about P w a.eval=none) (hrun:(execOp a.eval o).run P w= .ok (.value u) w') (hK:K (a.put o.dst u) w'):wpOpIn F n P ops Q i K a w:=by
 refine wpOpIn_step ho fun K' hK'=>?_
 have hw:Region.wanted o (yielded ops a.tmps)=true:=by simp [Region.wanted,hg]
 rw [if_pos hw]
 refine ⟨fun f hf=>(by rw [hab] at hf;cases hf),?_⟩
 rw [Oper.semAt_plain F _ _ hd,hrun]
 exact hK' _ _ hK
theorem wpOpIn_skip {F:Fence} {n:Nat} {P:Program} {ops:Array Oper} {Q:Exit→Act→World→Prop} {i:Nat} {o:Oper} {K:Act→World→Prop} {a:Act} {w w':World} (ho:ops[i]?=some o) (hg:o.guard=none) (hd: ∀c,o.op≠ .defer c)
 (hab:o.about P w a.eval=none) (hrun:(execOp a.eval o).run P w= .ok .skip w') (hK:K (a.put o.dst undef) w'):wpOpIn F n P ops Q i K a w:=by
 refine wpOpIn_step ho fun K' hK'=>?_
 have hw:Region.wanted o (yielded ops a.tmps)=true:=by simp [Region.wanted,hg]
 rw [if_pos hw]
 refine ⟨fun f hf=>(by rw [hab] at hf;cases hf),?_⟩
 rw [Oper.semAt_plain F _ _ hd,hrun]
 exact hK' _ _ hK
theorem S12.last {bx K b:Nat} {v v':Value} {x:Int×Int} {W w1:World} {L:Array Bool} {a:Act} {w:World} (h:S12 bx K b v v' x W w1 L a w) (hL:14<L.size):S12 bx K b v v' x W w1 (L.setIfInBounds 14 true) a (w1.setCell ⟨K,0,none⟩ v') where
 sz:=h.sz
 t3:=h.t3
 t4:=h.t4
 val j hj hLj:=by rw [getD_set_ne false (by omega)] at hLj;exact h.val j hj hLj
 w:=by rw [getD_set_same hL];rfl
theorem get14 {L:Array Bool} {j:Nat} (h:L.getD j true=false):L.getD j false=false:=by
 simp only [Array.getD] at h⊢
 split at h
 ·rename_i hj;rw [dif_pos hj];exact h
 ·cases h
theorem wOf_t (K:Nat) (v':Value) (x:Int×Int) (W w1:World):wOf K v' x W w1 true true true=w1.setCell ⟨K,0,none⟩ v':=rfl
theorem wOf_heap {K:Nat} {v':Value} {x:Int×Int} {W w1:World} {l10 l11:Bool} {j:Nat} (hj:j<W.heap.size) (h1:l11=true→w1.heap[j]?=W.heap[j]?):(wOf K v' x W w1 l10 l11 false).heap[j]?=W.heap[j]?:=by
 cases l11 with
 |true=>exact h1 rfl
 |false=>
  cases l10 with
  |true=>exact Below.heap_alloc W.drew _ _ hj
  |false=>rfl
structure GaPost (K m o k:Nat) (A:Nat→Int) (e0 e1 ec:Int) (S0:Value) (w:World) (csM:Array Value) (TM:TypeId) (v':Value) (W:World):Prop where
 kb:W.heap[K]?=some (.cells (frm v' e0 e1 ec) 65 (0,0))
 mb:W.heap[m]?=some (.cells ((csM.setIfInBounds (o+5) (.pointer (some ⟨K,0,none⟩))).setIfInBounds (o+6) (.bool false)) TM (0,0))
 same: ∀j,j<w.heap.size→j≠m→j≠K→S0.ownBlock≠some j→W.heap[j]?=w.heap[j]?
 size:w.heap.size≤W.heap.size
 os:W.os=w.os
 tape:W.tape=w.tape
 output:W.output=w.output
 row:W.ownsRow 0 67 2 v' k (flatR (downL A k))
 at_: ∀r,v'.ownBlock=some r→S0.ownBlock=some r∨w.heap.size≤r
theorem postB {w0 w' wB:World} {K:Nat} {S0:Value} {e0 e1 ec:Int} {o':Obj} (hT:Turned K #[S0,.int .i64 0,.int .u64 0,.int .u64 0,.int .u64 0] 65 w0 w') (hK:K<w'.heap.size)
 (hwB:wB=((((w'.setCell ⟨K,2,none⟩ (.int .u64 e0)).setCell ⟨K,3,none⟩ (.int .u64 e1)).setCell ⟨K,4,none⟩ (.int .u64 ec)).alloc o').drew.drew.drew):
 wB.heap[K]?=some (.cells (frm S0 e0 e1 ec) 65 (0,0))∧(∀j,j<w'.heap.size→j≠K→wB.heap[j]?=w'.heap[j]?)∧wB.heap[w'.heap.size]?=some o'∧wB.heap.size=w'.heap.size+1∧wB.os=w'.os∧wB.tape=w'.tape∧wB.output=w'.output:=by
 have T1:=((((Turned.of hT.k).set 2 (.int .u64 e0)).set 3 (.int .u64 e1)).set 4 (.int .u64 ec)).alloc hK o'
 have T2:=T1.drew.drew.drew
 rw [←hwB] at T2
 have hsz:(((w'.setCell ⟨K,2,none⟩ (.int .u64 e0)).setCell ⟨K,3,none⟩ (.int .u64 e1)).setCell ⟨K,4,none⟩ (.int .u64 ec)).heap.size=w'.heap.size:=by rw [size_setCell,size_setCell,size_setCell]
 refine ⟨T2.k,T2.same,?_,?_,T2.os,T2.tape,T2.output⟩
 ·subst hwB
  have:=World.alloc_heap_new (((w'.setCell ⟨K,2,none⟩ (.int .u64 e0)).setCell ⟨K,3,none⟩ (.int .u64 e1)).setCell ⟨K,4,none⟩ (.int .u64 ec)) o'
  rw [hsz] at this;exact this
 ·subst hwB
  have:=World.size_alloc (((w'.setCell ⟨K,2,none⟩ (.int .u64 e0)).setCell ⟨K,3,none⟩ (.int .u64 e1)).setCell ⟨K,4,none⟩ (.int .u64 ec)) o'
  rw [hsz] at this;exact this
theorem kpr_b {Bn m g:Nat} {w:World} (h:Bn<w.heap.size∧m<w.heap.size∧g<w.heap.size) (W:World) (l:Nat) (o o':Obj) (hl:w.heap.size≤l) (_:W.heap[l]?=some o) (_:o.isCells=false) (_:o.isWalk=false):KpR Bn m g W (W.putObj l o'):=
 ⟨World.putObj_heap_other (by omega),World.putObj_heap_other (by omega),World.putObj_heap_other (by omega)⟩
theorem ga_done {K m o k:Nat} {A:Nat→Int} {e0 e1 ec:Int} {S0 v:Value} {w wB W:World} {csM:Array Value} {TM:TypeId} {D:Nat} (hG:GW K e0 e1 ec S0 wB v (downL A k) W) (hKm:K≠m) (hK:K<wB.heap.size) (hm:m<wB.heap.size) (hSm:S0.ownBlock≠some m) (hD:wB.heap.size≤D)
 (hDd:W.heap[D]?=some (.deferred (some []))) (hWm:W.heap[m]?=some (.cells csM TM (0,0))) (hw: ∀j,j<w.heap.size→j≠K→S0.ownBlock≠some j→wB.heap[j]?=w.heap[j]?) (hsz:w.heap.size≤wB.heap.size) (ho:wB.os=w.os) (ht:wB.tape=w.tape) (hp:wB.output=w.output):
 GaPost K m o k A e0 e1 ec S0 w csM TM v (((W.setCell ⟨m,o+5,none⟩ (.pointer (some ⟨K,0,none⟩))).setCell ⟨m,o+6,none⟩ (.bool false)).putObj D (.deferred none)):=by
 have T:=((Turned.of hWm).set (o+5) (.pointer (some ⟨K,0,none⟩))).set (o+6) (.bool false)
 generalize hW2:((W.setCell ⟨m,o+5,none⟩ (.pointer (some ⟨K,0,none⟩))).setCell ⟨m,o+6,none⟩ (.bool false))=W2 at T
 have hDW:D<W.heap.size:=(Array.getElem?_eq_some_iff.1 hDd).1
 have hD2:W2.heap[D]?=some (.deferred (some [])):=(T.same D hDW (by omega)).trans hDd
 have hgs:=hG.size
 have hput: ∀j,j≠D→(W2.putObj D (.deferred none)).heap[j]?=W2.heap[j]?:=fun j hj=>World.putObj_heap_other hj
 have hvm:v.ownBlock≠some m:=fun e=>by
  rcases hG.at_ m e with h|h
  ·exact hSm h
  ·omega
 have hrow2:W2.ownsRow 0 67 2 v k (flatR (downL A k)):=by
  have hr:=hG.row
  rw [downL_len] at hr
  refine hr.kept (row:=some m) ⟨T.os,T.tape,T.output,T.size,fun j hj hne=>T.same j hj fun e=>hne (by rw [e])⟩ (.inr hvm)
 refine ⟨(hput K (by omega)).trans ((T.same K (by omega) hKm).trans hG.k),(hput m (by omega)).trans T.k,fun j hj hjm hjK hjS=>(hput j (by omega)).trans ((T.same j (by omega) hjm).trans ((hG.same j (by omega) hjK hjS).trans (hw j hj hjK hjS))),?_,T.os.trans (hG.os.trans ho),T.tape.trans (hG.tape.trans ht),T.output.trans (hG.output.trans hp),ownsRow_putObj hrow2 _ hD2 rfl,fun r hr=>?_⟩
 ·have:=T.size
  have h2:(W2.putObj D (.deferred none)).heap.size=W2.heap.size:=by simp
  omega
 ·rcases hG.at_ r hr with h|h
  ·exact .inl h
  ·right;omega
set_option maxRecDepth 100000 in
set_option maxHeartbeats 4000000 in
theorem getack_nil (n:Nat) (hn:3≤n) (m o g cc k:Nat) (A:Nat→Int) (e0 e1 ec:Int) (hk:1≤k) (hk2:k≤1000) (w:World)
 (csM:Array Value) (TM:TypeId) (hm:w.heap[m]?=some (.cells csM TM (0,0))) (hmw:m<w.heap.size) (hgw:g<w.heap.size) (fz: ∀j,w.frozen? ⟨m,j,none⟩=false)
 (c0:w.cell? ⟨m,o,none⟩=some (.int .u64 e0)) (c1:w.cell? ⟨m,o+1,none⟩=some (.int .u64 e1)) (c2:w.cell? ⟨m,o+2,none⟩=some (.int .u64 ec)) (c3:w.cell? ⟨m,o+3,none⟩=some (.slice (some ⟨g,0,none⟩) k cc))
 (c5:w.cell? ⟨m,o+5,none⟩=some (.pointer none)) (c6:w.cell? ⟨m,o+6,none⟩=some (.bool true)) (cg: ∀j,j<k*2→w.cell? ⟨g,j,none⟩=some (.int .i64 (A j))):
 CallsIn Fence.wide n Try.prog 33 #[.pointer (some ⟨m,o,none⟩)] w fun e W'=> ∃v',e= .returned (.pointer (some ⟨w.heap.size+1,0,none⟩))∧GaPost (w.heap.size+1) m o k A e0 e1 ec (.slice none 0 0) w csM TM v' W':=by
 have h1:1≤n:=by omega
 have q44:Fence.wide.fn 44:=trivial
 have q45:Fence.wide.fn 45:=trivial
 have q56:Fence.wide.fn 56:=trivial
 refine callsIn_of_wp_marks Try.func33 rfl trivial ?_ rfl
 simp only [Try.ntmps33,List.size_toArray,List.length_cons,List.length_nil,Nat.reduceAdd,Nat.reduceSub,Array.replicate_succ,Array.replicate_zero,List.push_toArray,List.append_toArray,List.nil_append,List.cons_append]
 have hKA:((w.alloc (.cells #[.pointer (some ⟨w.heap.size+1,0,none⟩)] 60)).alloc (.cells #[.slice none 0 0,.int .i64 0,.int .u64 0,.int .u64 0,.int .u64 0] 65)).heap[w.heap.size+1]?=some (.cells #[.slice none 0 0,.int .i64 0,.int .u64 0,.int .u64 0,.int .u64 0] 65 (0,0)):=by
  have:=World.alloc_heap_new (w.alloc (.cells #[.pointer (some ⟨w.heap.size+1,0,none⟩)] 60)) (.cells #[.slice none 0 0,.int .i64 0,.int .u64 0,.int .u64 0,.int .u64 0] 65)
  rw [World.size_alloc] at this;exact this
 have hbA:((w.alloc (.cells #[.pointer (some ⟨w.heap.size+1,0,none⟩)] 60)).alloc (.cells #[.slice none 0 0,.int .i64 0,.int .u64 0,.int .u64 0,.int .u64 0] 65)).heap[w.heap.size]?=some (.cells #[.pointer (some ⟨w.heap.size+1,0,none⟩)] 60 (0,0)):=
  (Below.heap_alloc _ _ _ (by rw [World.size_alloc];omega)).trans (World.alloc_heap_new w _)
 have hmA:((w.alloc (.cells #[.pointer (some ⟨w.heap.size+1,0,none⟩)] 60)).alloc (.cells #[.slice none 0 0,.int .i64 0,.int .u64 0,.int .u64 0,.int .u64 0] 65)).heap[m]?=w.heap[m]?:=
  (Below.heap_alloc _ _ _ (by rw [World.size_alloc];omega)).trans (Below.heap_alloc _ _ _ hmw)
 gi_wp2_with (first
  |(gi_at_call 45;refine (backward_in Fence.wide (n - 1) trivial rfl _ _).mono ?_;rintro e w' ⟨rfl,rfl⟩)
  |(gi_at_call 44;refine (reset_nil Fence.wide (n - 1) trivial rfl (w.heap.size+1) 0 0 0 0 _ hKA).mono ?_;rintro e w' ⟨rfl,hT⟩;obtain ⟨x1,x2,x3,x4,x5,x6,x7,x8⟩:=post44 hT (by rw [World.size_alloc,World.size_alloc];omega) hbA (by omega) (by omega) hmA hmw fz c0 c1 c2 c3;have y1:=(hT.cell 2).2;have y2:=(hT.cell 3).2;have y3:=(hT.cell 4).2;have z1:w'.cell? ⟨w.heap.size+1,2,none⟩=some (.int .u64 0):=(hT.cell 2).1;have z2:w'.cell? ⟨w.heap.size+1,3,none⟩=some (.int .u64 0):=(hT.cell 3).1;have z3:w'.cell? ⟨w.heap.size+1,4,none⟩=some (.int .u64 0):=(hT.cell 4).1))
 gi_region
 gi_wp2
 gi_region
 gi_wp2
 gi_region
 gi_wp2_with (gi_at_call 45;refine (backward_in Fence.wide (n - 1) trivial rfl _ _).mono ?_;rintro e w'' ⟨rfl,rfl⟩)
 obtain ⟨wB,hwB⟩: ∃x,x=((((w'.setCell ⟨w.heap.size+1,2,none⟩ (.int .u64 e0)).setCell ⟨w.heap.size+1,3,none⟩ (.int .u64 e1)).setCell ⟨w.heap.size+1,4,none⟩ (.int .u64 ec)).alloc (.cells #[.pointer (some ⟨m,o+3,none⟩)] 95)).drew.drew.drew:=⟨_,rfl⟩
 rw [←hwB]
 have hsw:w.heap.size+2≤w'.heap.size:=by have:=hT.size;rw [World.size_alloc,World.size_alloc] at this;omega
 obtain ⟨B1,B2,B3,B4,B5,B6,B7⟩:=postB hT (by omega) hwB
 have hgA:w'.heap[g]?=w.heap[g]?:=(hT.same g (by rw [World.size_alloc,World.size_alloc];omega) (by omega)).trans ((Below.heap_alloc _ _ _ (by rw [World.size_alloc];omega)).trans (Below.heap_alloc _ _ _ hgw))
 have hmB:wB.heap[m]?=w.heap[m]?:=(B2 m (by omega) (by omega)).trans x7
 have hgB:wB.heap[g]?=w.heap[g]?:=(B2 g (by omega) (by omega)).trans hgA
 have hbB:wB.heap[w.heap.size]?=some (.cells #[.pointer (some ⟨w.heap.size+1,0,none⟩)] 60 (0,0)):=(B2 _ (by omega) (by omega)).trans x8
 have hBk:BkAt wB w'.heap.size m (o+3) g cc k A:=⟨by simp [World.cell?,B3],(World.cell?_of_block (a:=⟨m,o+3,none⟩) hmB).trans c3,fun j hj=>(World.cell?_of_block (a:=⟨g,j,none⟩) hgB).trans (cg j hj)⟩
 have hlts:w'.heap.size<wB.heap.size∧m<wB.heap.size∧g<wB.heap.size:=⟨by omega,by omega,by omega⟩
 refine wpIn_rangeFunc_ownH rfl h1 (gf:=56) (lb:= #[.pointer (some ⟨w'.heap.size,0,none⟩)]) rfl trivial (enters_of Try.func56 (by kernel_rfl) rfl)
  (back_stops Fence.wide (n - 1) trivial rfl (by omega) w'.heap.size m (o+3) g cc k A hk (by omega) wB hBk hlts) KpR.trans (kpr_b hlts) (Below.refl _ _) (fun _=>rfl)
  (fun pre W=> ∃v,GW (w.heap.size+1) e0 e1 ec (.slice none 0 0) wB v pre W) (fun _ _ _=>False) ginv_from (fun _ _ _ _ _ hs _ _=>hs)
  ⟨_,B1,fun _ _ _ _=>rfl,Nat.le_refl _,rfl,rfl,rfl,World.ownsRow_nil _ _ _ _,fun r hr=>by simp [Value.ownBlock] at hr⟩ (AxB w.heap.size wB) ax_from ?assign ?body ?done ?stop
 case assign=>
  rintro l pre x W K ⟨v,hG⟩ hK
  simp only [encR]
  gi_wp2
  have hKb: ∀j,j<wB.heap.size→(W.alloc (Obj.cells #[Value.int IntKind.i64 x.fst,Value.int IntKind.i64 x.snd] 106)).heap[j]?=W.heap[j]?:=fun j hj=>Below.heap_alloc _ _ _ (Nat.lt_of_lt_of_le hj hG.size)
  exact hK _ _ ((KeepsOthers.alloc W _).from _) ⟨hKb _ hlts.1,hKb _ hlts.2.1,hKb _ hlts.2.2⟩ (ginv_from.alloc _ ⟨v,hG⟩) ⟨W.heap.size,hG.size,World.alloc_heap_new W _,rfl,rfl,rfl⟩
 case body=>
  rintro l pre x a' W hl hrec ⟨v,hG⟩ ⟨b,hb,hbb,hsz,ht3,ht4⟩ hlt
  obtain ⟨v',w1,hrun,hG',hK1,hKeep,hsame,g',cap',hv'⟩:=ga_step hG (by omega) x (by omega) 62
  refine wpIn_block ?_
  refine region_inv (by kernel_rfl) (S12 w.heap.size (w.heap.size+1) b v v' x W w1) (by kernel_rfl) ⟨hsz,ht3,ht4,fun j hj hL=>by simp [Array.getD] at hL,rfl⟩ ?_ ?_
  ·intro i op hop L a w2 hLs hcl hS hLi hdeps
   have hi:i<15:=(Array.getElem?_eq_some_iff.1 hop).1
   have c14:L.getD 14 false=true→L.getD 13 false=true∧L.getD 11 false=true:=fun h=>⟨hcl 14 _ rfl h ⟨13,.data⟩ (by simp) rfl,hcl 14 _ rfl h ⟨11,.data⟩ (by simp) rfl⟩
   have c13:L.getD 13 false=true→L.getD 12 false=true:=fun h=>hcl 13 _ rfl h ⟨12,.data⟩ (by simp) rfl
   have c12:L.getD 12 false=true→L.getD 0 false=true:=fun h=>hcl 12 _ rfl h ⟨0,.data⟩ (by simp) rfl
   have c11:L.getD 11 false=true→L.getD 4 false=true∧L.getD 10 false=true:=fun h=>⟨hcl 11 _ rfl h ⟨4,.data⟩ (by simp) rfl,hcl 11 _ rfl h ⟨10,.data⟩ (by simp) rfl⟩
   have c10:L.getD 10 false=true→L.getD 9 false=true:=fun h=>hcl 10 _ rfl h ⟨9,.data⟩ (by simp) rfl
   have c9:L.getD 9 false=true→L.getD 6 false=true∧L.getD 8 false=true:=fun h=>⟨hcl 9 _ rfl h ⟨6,.data⟩ (by simp) rfl,hcl 9 _ rfl h ⟨8,.data⟩ (by simp) rfl⟩
   have c4:L.getD 4 false=true→L.getD 1 false=true:=fun h=>hcl 2 _ rfl (hcl 3 _ rfl (hcl 4 _ rfl h ⟨3,.data⟩ (by simp) rfl) ⟨2,.data⟩ (by simp) rfl) ⟨1,.data⟩ (by simp) rfl
   have hLf:=get14 hLi
   have hWb0:W.heap[w.heap.size]?=some (.cells #[.pointer (some ⟨w.heap.size+1,0,none⟩)] 60 (0,0)):=(hG.same _ (by omega) (by omega) (by simp [Value.ownBlock])).trans hbB
   have hgsz:=hG.size
   have rbx:L.getD 14 false=false→w2.cell? ⟨w.heap.size,0,none⟩=some (.pointer (some ⟨w.heap.size+1,0,none⟩)):=fun h=>by
    have h1:=hS.w;rw [h] at h1
    have h2:=wOf_heap (K:=w.heap.size+1) (v':=v') (x:=x) (W:=W) (w1:=w1) (l10:=L.getD 10 false) (l11:=L.getD 11 false) (j:=w.heap.size) (by omega) (fun _=>hsame _ (by omega) (by omega) (by simp [Value.ownBlock]))
    rw [←h1] at h2
    simp [World.cell?,h2,hWb0]
   have rK:L.getD 14 false=false→w2.cell? ⟨w.heap.size+1,0,none⟩=some v:=fun h=>by
    have h1:=hS.w;rw [h] at h1
    have h2:=wOf_heap (K:=w.heap.size+1) (v':=v') (x:=x) (W:=W) (w1:=w1) (l10:=L.getD 10 false) (l11:=L.getD 11 false) (j:=w.heap.size+1) (by omega) (fun _=>hK1.trans hG.k.symm)
    rw [←h1] at h2
    simp [World.cell?,h2,hG.k,frm]
   have rb:L.getD 9 false=false→w2=W.drew:=fun h=>by
    have h10:L.getD 10 false=false:=by cases hh:L.getD 10 false with|false=>rfl|true=>rw [c10 hh] at h;cases h
    have h11:L.getD 11 false=false:=by cases hh:L.getD 11 false with|false=>rfl|true=>rw [(c11 hh).2] at h10;cases h10
    have h14:L.getD 14 false=false:=by cases hh:L.getD 14 false with|false=>rfl|true=>rw [(c14 hh).2] at h11;cases h11
    have h1:=hS.w;rw [h10,h11,h14] at h1;exact h1
   have n14: ∀j,L.getD j false=false→(L.getD 14 false=true→L.getD j false=true)→L.getD 14 false=false:=fun j h h'=>by
    cases hh:L.getD 14 false with|false=>rfl|true=>rw [h' hh] at h;cases h
   have wb0:W.drew.cell? ⟨b,0,none⟩=some (.int .i64 x.1):=by show W.cell? _=_;simp [World.cell?,hbb]
   have wb1:W.drew.cell? ⟨b,1,none⟩=some (.int .i64 x.2):=by show W.cell? _=_;simp [World.cell?,hbb]
   have evl: ∀(j:Nat) (u:Value),a.eval (.tmp j)=u→a.tmps[j]?.getD undef=u:=fun j u h=>by simpa [Act.eval,Array.getD_eq_getD_getElem?] using h
   rcases (by omega:i=0∨i=1∨i=2∨i=3∨i=4∨i=5∨i=6∨i=7∨i=8∨i=9∨i=10∨i=11∨i=12∨i=13∨i=14) with rfl|rfl|rfl|rfl|rfl|rfl|rfl|rfl|rfl|rfl|rfl|rfl|rfl|rfl|rfl
   all_goals cases hop
   ·have hc:=rbx (n14 0 hLf fun h=>c12 (c13 (c14 h).1));have ht:=evl _ _ hS.t3
    refine wpOpIn_value (u:= .pointer (some ⟨w.heap.size+1,0,none⟩)) rfl rfl (by intro c;simp) (by simp [Oper.about]) ?_ (hS.soft (i:=0) (by omega) (by omega) (by omega) rfl)
    go_simp
   ·have hc:=rbx (n14 1 hLf fun h=>c4 (c11 (c14 h).2).1);have ht:=evl _ _ hS.t3
    refine wpOpIn_value (u:= .pointer (some ⟨w.heap.size+1,0,none⟩)) rfl rfl (by intro c;simp) (by simp [Oper.about]) ?_ (hS.soft (i:=1) (by omega) (by omega) (by omega) rfl)
    go_simp
   ·have v1:=evl _ _ (hS.val 1 (by omega) (hdeps ⟨1,.data⟩ (by simp) rfl));simp only [vals12,Nat.reduceAdd] at v1
    refine wpOpIn_value (u:= .pointer (some ⟨w.heap.size+1,0,none⟩)) rfl rfl (by intro c;simp) (by simp [Oper.about]) ?_ (hS.soft (i:=2) (by omega) (by omega) (by omega) rfl)
    go_simp
   ·have v2:=evl _ _ (hS.val 2 (by omega) (hdeps ⟨2,.data⟩ (by simp) rfl));simp only [vals12,Nat.reduceAdd] at v2
    refine wpOpIn_value (u:= .pointer (some ⟨w.heap.size+1,0,none⟩)) rfl rfl (by intro c;simp) (by simp [Oper.about]) ?_ (hS.soft (i:=3) (by omega) (by omega) (by omega) rfl)
    go_simp
   ·have hc:=rK (n14 4 hLf fun h=>(c11 (c14 h).2).1);have v3:=evl _ _ (hS.val 3 (by omega) (hdeps ⟨3,.data⟩ (by simp) rfl));simp only [vals12,Nat.reduceAdd] at v3
    refine wpOpIn_value (u:=v) rfl rfl (by intro c;simp) (by simp [Oper.about]) ?_ (hS.soft (i:=4) (by omega) (by omega) (by omega) rfl)
    go_simp
   ·have ht:=evl _ _ hS.t4
    refine wpOpIn_value (u:= .pointer (some ⟨b,0,none⟩)) rfl rfl (by intro c;simp) (by simp [Oper.about]) ?_ (hS.soft (i:=5) (by omega) (by omega) (by omega) rfl)
    go_simp
   ·have hc:=rb (by cases hh:L.getD 9 false with|false=>rfl|true=>rw [(c9 hh).1] at hLf;cases hLf);have hc2:w2.cell? ⟨b,0,none⟩=some (.int .i64 x.1):=by rw [hc];exact wb0
    clear hc;have v5:=evl _ _ (hS.val 5 (by omega) (hdeps ⟨5,.data⟩ (by simp) rfl));simp only [vals12,Nat.reduceAdd] at v5
    refine wpOpIn_value (u:= .int .i64 x.1) rfl rfl (by intro c;simp) (by simp [Oper.about]) ?_ (hS.soft (i:=6) (by omega) (by omega) (by omega) rfl)
    go_simp
   ·have ht:=evl _ _ hS.t4
    refine wpOpIn_value (u:= .pointer (some ⟨b,1,none⟩)) rfl rfl (by intro c;simp) (by simp [Oper.about]) ?_ (hS.soft (i:=7) (by omega) (by omega) (by omega) rfl)
    go_simp
   ·have hc:=rb (by cases hh:L.getD 9 false with|false=>rfl|true=>rw [(c9 hh).2] at hLf;cases hLf);have hc2:w2.cell? ⟨b,1,none⟩=some (.int .i64 x.2):=by rw [hc];exact wb1
    clear hc;have v7:=evl _ _ (hS.val 7 (by omega) (hdeps ⟨7,.data⟩ (by simp) rfl));simp only [vals12,Nat.reduceAdd] at v7
    refine wpOpIn_value (u:= .int .i64 x.2) rfl rfl (by intro c;simp) (by simp [Oper.about]) ?_ (hS.soft (i:=8) (by omega) (by omega) (by omega) rfl)
    go_simp
   ·have v6:=evl _ _ (hS.val 6 (by omega) (hdeps ⟨6,.data⟩ (by simp) rfl));simp only [vals12,Nat.reduceAdd] at v6;have v8:=evl _ _ (hS.val 8 (by omega) (hdeps ⟨8,.data⟩ (by simp) rfl));simp only [vals12,Nat.reduceAdd] at v8
    refine wpOpIn_value (u:= .agg #[.int .i64 x.1,.int .i64 x.2]) rfl rfl (by intro c;simp) (by simp [Oper.about]) ?_ (hS.soft (i:=9) (by omega) (by omega) (by omega) rfl)
    go_simp
   ·have h11:L.getD 11 false=false:=by cases hh:L.getD 11 false with|false=>rfl|true=>rw [(c11 hh).2] at hLf;cases hLf
    have h14:L.getD 14 false=false:=by cases hh:L.getD 14 false with|false=>rfl|true=>rw [(c14 hh).2] at h11;cases h11
    have hw2:=hS.w;rw [hLf,h11,h14] at hw2
    replace hw2:w2=W.drew:=hw2
    have v9:=evl _ _ (hS.val 9 (by omega) (hdeps ⟨9,.data⟩ (by simp) rfl));simp only [vals12,Nat.reduceAdd] at v9
    have u62:=run_underlying t62
    refine wpOpIn_value (u:= .slice (some ⟨W.heap.size,0,none⟩) 1 1) (w':=W.drew.alloc (.cells #[.int .i64 x.1,.int .i64 x.2] 67)) rfl rfl (by intro c;simp) (by simp [Oper.about]) ?_ (hS.put (i:=10) (by omega) rfl (by rw [getD_set_same (by rw [hLs];decide),getD_set_ne false (by omega),getD_set_ne false (by omega),h11,h14];rfl))
    rw [hw2]
    go_simp
   ·have h14:L.getD 14 false=false:=by cases hh:L.getD 14 false with|false=>rfl|true=>rw [(c14 hh).2] at hLf;cases hLf
    have h10:L.getD 10 false=true:=hdeps ⟨10,.data⟩ (by simp) rfl
    have hw2:=hS.w;rw [h10,hLf,h14] at hw2
    have v4:=hS.val 4 (by omega) (hdeps ⟨4,.data⟩ (by simp) rfl);simp only [vals12,Nat.reduceAdd] at v4
    have v10:=hS.val 10 (by omega) h10;simp only [vals12,Nat.reduceAdd] at v10
    refine wpOpIn_value (u:=v') (w':=w1) rfl rfl (by intro c;simp) (by simp [Oper.about,resolve,Target.leads,Sem.run_pure]) ?_ (hS.put (i:=11) (by omega) rfl (by rw [getD_set_same (by rw [hLs];decide),getD_set_ne false (by omega),getD_set_ne false (by omega),h10,h14];rfl))
    rw [hw2]
    show (execOp a.eval _).run Try.prog (W.drew.alloc (.cells #[.int .i64 x.1,.int .i64 x.2] 67))=_
    simp [execOp,resolve,invoke,builtin,v4,v10,hrun,Result.andThen]
   ·have v0:=evl _ _ (hS.val 0 (by omega) (hdeps ⟨0,.data⟩ (by simp) rfl));simp only [vals12,Nat.reduceAdd] at v0
    refine wpOpIn_value (u:= .pointer (some ⟨w.heap.size+1,0,none⟩)) rfl rfl (by intro c;simp) (by simp [Oper.about]) ?_ (hS.soft (i:=12) (by omega) (by omega) (by omega) rfl)
    go_simp
   ·have v12:=evl _ _ (hS.val 12 (by omega) (hdeps ⟨12,.data⟩ (by simp) rfl));simp only [vals12,Nat.reduceAdd] at v12
    refine wpOpIn_value (u:= .pointer (some ⟨w.heap.size+1,0,none⟩)) rfl rfl (by intro c;simp) (by simp [Oper.about]) ?_ (hS.soft (i:=13) (by omega) (by omega) (by omega) rfl)
    go_simp
   ·have h11:L.getD 11 false=true:=hdeps ⟨11,.data⟩ (by simp) rfl
    have hw2:=hS.w;rw [(c11 h11).2,h11,hLf] at hw2
    replace hw2:w2=w1:=hw2
    have v13:=evl _ _ (hS.val 13 (by omega) (hdeps ⟨13,.data⟩ (by simp) rfl));simp only [vals12,Nat.reduceAdd] at v13;have v11:=evl _ _ (hS.val 11 (by omega) (hdeps ⟨11,.data⟩ (by simp) rfl));simp only [vals12,Nat.reduceAdd] at v11
    have hcK:w1.cell? ⟨w.heap.size+1,0,none⟩=some v:=by simp [World.cell?,hK1,frm]
    have hfK:w1.frozen? ⟨w.heap.size+1,0,none⟩=false:=by simp [World.frozen?,hK1]
    refine wpOpIn_skip (w':=w1.setCell ⟨w.heap.size+1,0,none⟩ v') rfl rfl (by intro c;simp) (by simp [Oper.about]) ?_ (hS.last (by rw [hLs];decide))
    rw [hw2]
    subst hv'
    go_simp
  ·intro L a w2 hall hS
   have hw:=hS.w
   rw [hall 10 (by decide),hall 11 (by decide),hall 14 (by decide),wOf_t] at hw
   subst hw
   exact ⟨hKeep,⟨(heap_setCell_ne (by omega)).trans (hsame _ (by omega) (by omega) (by simp [Value.ownBlock])),(heap_setCell_ne (by omega)).trans (hsame _ (by omega) (by omega) (by simp [Value.ownBlock])),(heap_setCell_ne (by omega)).trans (hsame _ (by omega) (by omega) (by simp [Value.ownBlock]))⟩,v',hG'⟩
 case done=>
  rintro D xs W hD rfl ⟨v,hG⟩ hDd
  have hWm:W.heap[m]?=w.heap[m]?:=(hG.same m (by omega) (by omega) (by simp [Value.ownBlock])).trans hmB
  have hWb:W.heap[w.heap.size]?=some (.cells #[.pointer (some ⟨w.heap.size+1,0,none⟩)] 60 (0,0)):=(hG.same _ (by omega) (by omega) (by simp [Value.ownBlock])).trans hbB
  have d0:W.cell? ⟨w.heap.size,0,none⟩=some (.pointer (some ⟨w.heap.size+1,0,none⟩)):=by simp [World.cell?,hWb]
  have d5:W.cell? ⟨m,o+5,none⟩=some (.pointer none):=(World.cell?_of_block (a:=⟨m,o+5,none⟩) hWm).trans c5
  have d6:W.cell? ⟨m,o+6,none⟩=some (.bool true):=(World.cell?_of_block (a:=⟨m,o+6,none⟩) hWm).trans c6
  have f5:W.frozen? ⟨m,o+5,none⟩=false:=(World.frozen?_of_block (a:=⟨m,o+5,none⟩) hWm).trans (fz _)
  have f6:W.frozen? ⟨m,o+6,none⟩=false:=(World.frozen?_of_block (a:=⟨m,o+6,none⟩) hWm).trans (fz _)
  gi_wp2
  refine ⟨by simp,.inl ⟨_,_,rfl,run_takeDeferred (by first|assumption|(rw [heap_setCell_ne (by omega),heap_setCell_ne (by omega)];exact hDd)),?_⟩⟩
  refine ⟨_,results_tmp rfl _ _ _,v,rfl,?_⟩
  refine ga_done hG (by omega) (by omega) (by omega) (by simp [Value.ownBlock]) hD hDd (hWm.trans hm) (fun j hj hjK _=>?_) (by omega) (B5.trans hT.os) (B6.trans hT.tape) (B7.trans hT.output)
  exact (B2 j (by omega) hjK).trans ((hT.same j (by rw [World.size_alloc,World.size_alloc];omega) hjK).trans ((Below.heap_alloc _ _ _ (by rw [World.size_alloc];omega)).trans (Below.heap_alloc _ _ _ hj)))
 case stop=>
  rintro D c pre W _ _ h _
  exact h.elim
end
section
attribute [local go_sem] Oper.semAt_some
set_option maxRecDepth 100000 in
set_option maxHeartbeats 4000000 in
theorem getack_some (n:Nat) (hn:3≤n) (m o g cc k:Nat) (A:Nat→Int) (e0 e1 ec:Int) (hk:1≤k) (hk2:k≤1000) (K rb mm cr:Nat) (cur:Array Value) (B:Nat→Int) (x1 x2 x3 x4:Int) (w:World) (hKm:K≠m) (hKg:K≠g) (hrK:rb≠K) (hrm:rb≠m) (hrg:rb≠g)
 (hKw0:w.heap[K]?=some (.cells #[.slice (some ⟨rb,0,none⟩) mm cr,.int .i64 x1,.int .u64 x2,.int .u64 x3,.int .u64 x4] 65 (0,0))) (hrw0:w.heap[rb]?=some (.cells cur 67 (0,0))) (hm3:mm≤100000) (hmc:mm≤cr) (hcr:cr≤maxLen) (hcu:cur.size=cr*2) (hB: ∀j,j<mm*2→w.cell? ⟨rb,j,none⟩=some (.int .i64 (B j)))
 (csM:Array Value) (TM:TypeId) (hm:w.heap[m]?=some (.cells csM TM (0,0))) (hmw:m<w.heap.size) (hgw:g<w.heap.size) (fz: ∀j,w.frozen? ⟨m,j,none⟩=false)
 (c0:w.cell? ⟨m,o,none⟩=some (.int .u64 e0)) (c1:w.cell? ⟨m,o+1,none⟩=some (.int .u64 e1)) (c2:w.cell? ⟨m,o+2,none⟩=some (.int .u64 ec)) (c3:w.cell? ⟨m,o+3,none⟩=some (.slice (some ⟨g,0,none⟩) k cc))
 (c5:w.cell? ⟨m,o+5,none⟩=some (.pointer (some ⟨K,0,none⟩))) (c6:w.cell? ⟨m,o+6,none⟩=some (.bool true)) (cg: ∀j,j<k*2→w.cell? ⟨g,j,none⟩=some (.int .i64 (A j))):
 CallsIn Fence.wide n Try.prog 33 #[.pointer (some ⟨m,o,none⟩)] w fun e W'=> ∃v',e= .returned (.pointer (some ⟨K,0,none⟩))∧GaPost (K) m o k A e0 e1 ec (.slice (some ⟨rb,0,none⟩) 0 cr) w csM TM v' W':=by
 have h1:1≤n:=by omega
 have q44:Fence.wide.fn 44:=trivial
 have q45:Fence.wide.fn 45:=trivial
 have q56:Fence.wide.fn 56:=trivial
 refine callsIn_of_wp_marks Try.func33 rfl trivial ?_ rfl
 simp only [Try.ntmps33,List.size_toArray,List.length_cons,List.length_nil,Nat.reduceAdd,Nat.reduceSub,Array.replicate_succ,Array.replicate_zero,List.push_toArray,List.append_toArray,List.nil_append,List.cons_append]
 have hKlt:K<w.heap.size:=(Array.getElem?_eq_some_iff.1 hKw0).1
 have hrlt:rb<w.heap.size:=(Array.getElem?_eq_some_iff.1 hrw0).1
 have hKA:(w.alloc (.cells #[.pointer (some ⟨K,0,none⟩)] 60)).heap[K]?=some (.cells #[.slice (some ⟨rb,0,none⟩) mm cr,.int .i64 x1,.int .u64 x2,.int .u64 x3,.int .u64 x4] 65 (0,0)):=(Below.heap_alloc _ _ _ hKlt).trans hKw0
 have hbA:(w.alloc (.cells #[.pointer (some ⟨K,0,none⟩)] 60)).heap[w.heap.size]?=some (.cells #[.pointer (some ⟨K,0,none⟩)] 60 (0,0)):=World.alloc_heap_new w _
 have hmA:(w.alloc (.cells #[.pointer (some ⟨K,0,none⟩)] 60)).heap[m]?=w.heap[m]?:=Below.heap_alloc _ _ _ hmw
 have hBA: ∀j,j<mm*2→(w.alloc (.cells #[.pointer (some ⟨K,0,none⟩)] 60)).cell? ⟨rb,j,none⟩=some (.int .i64 (B j)):=fun j hj=>(World.cell?_of_block (a:=⟨rb,j,none⟩) (Below.heap_alloc _ _ _ hrlt)).trans (hB j hj)
 gi_wp2_with (first
  |(gi_at_call 45;refine (backward_in Fence.wide (n - 1) trivial rfl _ _).mono ?_;rintro e w' ⟨rfl,rfl⟩)
  |(gi_at_call 44;refine (reset_some Fence.wide (n - 1) trivial (w.heap.size+1) rfl K rb mm cr B hrK (by omega) hm3 hmc x1 x2 x3 x4 _ (World.size_alloc _ _).symm hBA hKA).mono ?_;rintro e w' ⟨rfl,hT⟩;obtain ⟨p1,p2,p3,p4,p5,p6,p7,p8⟩:=post44 hT (by rw [World.size_alloc];omega) hbA (by omega) (by omega) hmA hmw fz c0 c1 c2 c3;have y1:=(hT.cell 2).2;have y2:=(hT.cell 3).2;have y3:=(hT.cell 4).2;have z1:w'.cell? ⟨K,2,none⟩=some (.int .u64 0):=(hT.cell 2).1;have z2:w'.cell? ⟨K,3,none⟩=some (.int .u64 0):=(hT.cell 3).1;have z3:w'.cell? ⟨K,4,none⟩=some (.int .u64 0):=(hT.cell 4).1))
 gi_region
 gi_wp2
 gi_region
 gi_wp2
 gi_region
 gi_wp2_with (gi_at_call 45;refine (backward_in Fence.wide (n - 1) trivial rfl _ _).mono ?_;rintro e w'' ⟨rfl,rfl⟩)
 obtain ⟨wB,hwB⟩: ∃x,x=((((w'.setCell ⟨K,2,none⟩ (.int .u64 e0)).setCell ⟨K,3,none⟩ (.int .u64 e1)).setCell ⟨K,4,none⟩ (.int .u64 ec)).alloc (.cells #[.pointer (some ⟨m,o+3,none⟩)] 95)).drew.drew.drew:=⟨_,rfl⟩
 rw [←hwB]
 have hsw:w.heap.size+1≤w'.heap.size:=by have:=hT.size;rw [World.size_alloc] at this;omega
 obtain ⟨B1,B2,B3,B4,B5,B6,B7⟩:=postB hT (by omega) hwB
 have hgA:w'.heap[g]?=w.heap[g]?:=(hT.same g (by rw [World.size_alloc];omega) (by omega)).trans (Below.heap_alloc _ _ _ hgw)
 have hmB:wB.heap[m]?=w.heap[m]?:=(B2 m (by omega) (by omega)).trans p7
 have hgB:wB.heap[g]?=w.heap[g]?:=(B2 g (by omega) (by omega)).trans hgA
 have hbB:wB.heap[w.heap.size]?=some (.cells #[.pointer (some ⟨K,0,none⟩)] 60 (0,0)):=(B2 _ (by omega) (by omega)).trans p8
 have hrB:wB.heap[rb]?=some (.cells cur 67 (0,0)):=(B2 rb (by omega) hrK).trans (((hT.same rb (by rw [World.size_alloc];omega) hrK).trans (Below.heap_alloc _ _ _ hrlt)).trans hrw0)
 have hBk:BkAt wB w'.heap.size m (o+3) g cc k A:=⟨by simp [World.cell?,B3],(World.cell?_of_block (a:=⟨m,o+3,none⟩) hmB).trans c3,fun j hj=>(World.cell?_of_block (a:=⟨g,j,none⟩) hgB).trans (cg j hj)⟩
 have hlts:w'.heap.size<wB.heap.size∧m<wB.heap.size∧g<wB.heap.size:=⟨by omega,by omega,by omega⟩
 refine wpIn_rangeFunc_ownH rfl h1 (gf:=56) (lb:= #[.pointer (some ⟨w'.heap.size,0,none⟩)]) rfl trivial (enters_of Try.func56 (by kernel_rfl) rfl)
  (back_stops Fence.wide (n - 1) trivial rfl (by omega) w'.heap.size m (o+3) g cc k A hk (by omega) wB hBk hlts) KpR.trans (kpr_b hlts) (Below.refl _ _) (fun _=>rfl)
  (fun pre W=> ∃v,GW K e0 e1 ec (.slice (some ⟨rb,0,none⟩) 0 cr) wB v pre W) (fun _ _ _=>False) ginv_from (fun _ _ _ _ _ hs _ _=>hs)
  ⟨_,B1,fun _ _ _ _=>rfl,Nat.le_refl _,rfl,rfl,rfl,⟨rfl,.inr ⟨rb,cr,cur,rfl,Nat.zero_le _,hrB,Nat.zero_le _,hcr,hcu,by simp [flatR]⟩⟩,fun r hr=> .inl hr⟩ (AxB w.heap.size wB) ax_from ?assign ?body ?done ?stop
 case assign=>
  rintro l pre x W KK ⟨v,hG⟩ hK
  simp only [encR]
  gi_wp2
  have hKb: ∀j,j<wB.heap.size→(W.alloc (Obj.cells #[Value.int IntKind.i64 x.fst,Value.int IntKind.i64 x.snd] 106)).heap[j]?=W.heap[j]?:=fun j hj=>Below.heap_alloc _ _ _ (Nat.lt_of_lt_of_le hj hG.size)
  exact hK _ _ ((KeepsOthers.alloc W _).from _) ⟨hKb _ hlts.1,hKb _ hlts.2.1,hKb _ hlts.2.2⟩ (ginv_from.alloc _ ⟨v,hG⟩) ⟨W.heap.size,hG.size,World.alloc_heap_new W _,rfl,rfl,rfl⟩
 case body=>
  rintro l pre x a' W hl hrec ⟨v,hG⟩ ⟨b,hb,hbb,hsz,ht3,ht4⟩ hlt
  obtain ⟨v',w1,hrun,hG',hK1,hKeep,hsame,g',cap',hv'⟩:=ga_step hG (by omega) x (by omega) 62
  refine wpIn_block ?_
  refine region_inv (by kernel_rfl) (S12 w.heap.size (K) b v v' x W w1) (by kernel_rfl) ⟨hsz,ht3,ht4,fun j hj hL=>by simp [Array.getD] at hL,rfl⟩ ?_ ?_
  ·intro i op hop L a w2 hLs hcl hS hLi hdeps
   have hi:i<15:=(Array.getElem?_eq_some_iff.1 hop).1
   have c14:L.getD 14 false=true→L.getD 13 false=true∧L.getD 11 false=true:=fun h=>⟨hcl 14 _ rfl h ⟨13,.data⟩ (by simp) rfl,hcl 14 _ rfl h ⟨11,.data⟩ (by simp) rfl⟩
   have c13:L.getD 13 false=true→L.getD 12 false=true:=fun h=>hcl 13 _ rfl h ⟨12,.data⟩ (by simp) rfl
   have c12:L.getD 12 false=true→L.getD 0 false=true:=fun h=>hcl 12 _ rfl h ⟨0,.data⟩ (by simp) rfl
   have c11:L.getD 11 false=true→L.getD 4 false=true∧L.getD 10 false=true:=fun h=>⟨hcl 11 _ rfl h ⟨4,.data⟩ (by simp) rfl,hcl 11 _ rfl h ⟨10,.data⟩ (by simp) rfl⟩
   have c10:L.getD 10 false=true→L.getD 9 false=true:=fun h=>hcl 10 _ rfl h ⟨9,.data⟩ (by simp) rfl
   have c9:L.getD 9 false=true→L.getD 6 false=true∧L.getD 8 false=true:=fun h=>⟨hcl 9 _ rfl h ⟨6,.data⟩ (by simp) rfl,hcl 9 _ rfl h ⟨8,.data⟩ (by simp) rfl⟩
   have c4:L.getD 4 false=true→L.getD 1 false=true:=fun h=>hcl 2 _ rfl (hcl 3 _ rfl (hcl 4 _ rfl h ⟨3,.data⟩ (by simp) rfl) ⟨2,.data⟩ (by simp) rfl) ⟨1,.data⟩ (by simp) rfl
   have hLf:=get14 hLi
   have hWb0:W.heap[w.heap.size]?=some (.cells #[.pointer (some ⟨K,0,none⟩)] 60 (0,0)):=(hG.same _ (by omega) (by omega) (by simp [Value.ownBlock];omega)).trans hbB
   have hgsz:=hG.size
   have rbx:L.getD 14 false=false→w2.cell? ⟨w.heap.size,0,none⟩=some (.pointer (some ⟨K,0,none⟩)):=fun h=>by
    have h1:=hS.w;rw [h] at h1
    have h2:=wOf_heap (K:=K) (v':=v') (x:=x) (W:=W) (w1:=w1) (l10:=L.getD 10 false) (l11:=L.getD 11 false) (j:=w.heap.size) (by omega) (fun _=>hsame _ (by omega) (by omega) (by simp [Value.ownBlock];omega))
    rw [←h1] at h2
    simp [World.cell?,h2,hWb0]
   have rK:L.getD 14 false=false→w2.cell? ⟨K,0,none⟩=some v:=fun h=>by
    have h1:=hS.w;rw [h] at h1
    have h2:=wOf_heap (K:=K) (v':=v') (x:=x) (W:=W) (w1:=w1) (l10:=L.getD 10 false) (l11:=L.getD 11 false) (j:=K) (by omega) (fun _=>hK1.trans hG.k.symm)
    rw [←h1] at h2
    simp [World.cell?,h2,hG.k,frm]
   have rb:L.getD 9 false=false→w2=W.drew:=fun h=>by
    have h10:L.getD 10 false=false:=by cases hh:L.getD 10 false with|false=>rfl|true=>rw [c10 hh] at h;cases h
    have h11:L.getD 11 false=false:=by cases hh:L.getD 11 false with|false=>rfl|true=>rw [(c11 hh).2] at h10;cases h10
    have h14:L.getD 14 false=false:=by cases hh:L.getD 14 false with|false=>rfl|true=>rw [(c14 hh).2] at h11;cases h11
    have h1:=hS.w;rw [h10,h11,h14] at h1;exact h1
   have n14: ∀j,L.getD j false=false→(L.getD 14 false=true→L.getD j false=true)→L.getD 14 false=false:=fun j h h'=>by
    cases hh:L.getD 14 false with|false=>rfl|true=>rw [h' hh] at h;cases h
   have wb0:W.drew.cell? ⟨b,0,none⟩=some (.int .i64 x.1):=by show W.cell? _=_;simp [World.cell?,hbb]
   have wb1:W.drew.cell? ⟨b,1,none⟩=some (.int .i64 x.2):=by show W.cell? _=_;simp [World.cell?,hbb]
   have evl: ∀(j:Nat) (u:Value),a.eval (.tmp j)=u→a.tmps[j]?.getD undef=u:=fun j u h=>by simpa [Act.eval,Array.getD_eq_getD_getElem?] using h
   rcases (by omega:i=0∨i=1∨i=2∨i=3∨i=4∨i=5∨i=6∨i=7∨i=8∨i=9∨i=10∨i=11∨i=12∨i=13∨i=14) with rfl|rfl|rfl|rfl|rfl|rfl|rfl|rfl|rfl|rfl|rfl|rfl|rfl|rfl|rfl
   all_goals cases hop
   ·have hc:=rbx (n14 0 hLf fun h=>c12 (c13 (c14 h).1));have ht:=evl _ _ hS.t3
    refine wpOpIn_value (u:= .pointer (some ⟨K,0,none⟩)) rfl rfl (by intro c;simp) (by simp [Oper.about]) ?_ (hS.soft (i:=0) (by omega) (by omega) (by omega) rfl)
    go_simp
   ·have hc:=rbx (n14 1 hLf fun h=>c4 (c11 (c14 h).2).1);have ht:=evl _ _ hS.t3
    refine wpOpIn_value (u:= .pointer (some ⟨K,0,none⟩)) rfl rfl (by intro c;simp) (by simp [Oper.about]) ?_ (hS.soft (i:=1) (by omega) (by omega) (by omega) rfl)
    go_simp
   ·have v1:=evl _ _ (hS.val 1 (by omega) (hdeps ⟨1,.data⟩ (by simp) rfl));simp only [vals12,Nat.reduceAdd] at v1
    refine wpOpIn_value (u:= .pointer (some ⟨K,0,none⟩)) rfl rfl (by intro c;simp) (by simp [Oper.about]) ?_ (hS.soft (i:=2) (by omega) (by omega) (by omega) rfl)
    go_simp
   ·have v2:=evl _ _ (hS.val 2 (by omega) (hdeps ⟨2,.data⟩ (by simp) rfl));simp only [vals12,Nat.reduceAdd] at v2
    refine wpOpIn_value (u:= .pointer (some ⟨K,0,none⟩)) rfl rfl (by intro c;simp) (by simp [Oper.about]) ?_ (hS.soft (i:=3) (by omega) (by omega) (by omega) rfl)
    go_simp
   ·have hc:=rK (n14 4 hLf fun h=>(c11 (c14 h).2).1);have v3:=evl _ _ (hS.val 3 (by omega) (hdeps ⟨3,.data⟩ (by simp) rfl));simp only [vals12,Nat.reduceAdd] at v3
    refine wpOpIn_value (u:=v) rfl rfl (by intro c;simp) (by simp [Oper.about]) ?_ (hS.soft (i:=4) (by omega) (by omega) (by omega) rfl)
    go_simp
   ·have ht:=evl _ _ hS.t4
    refine wpOpIn_value (u:= .pointer (some ⟨b,0,none⟩)) rfl rfl (by intro c;simp) (by simp [Oper.about]) ?_ (hS.soft (i:=5) (by omega) (by omega) (by omega) rfl)
    go_simp
   ·have hc:=rb (by cases hh:L.getD 9 false with|false=>rfl|true=>rw [(c9 hh).1] at hLf;cases hLf);have hc2:w2.cell? ⟨b,0,none⟩=some (.int .i64 x.1):=by rw [hc];exact wb0
    clear hc;have v5:=evl _ _ (hS.val 5 (by omega) (hdeps ⟨5,.data⟩ (by simp) rfl));simp only [vals12,Nat.reduceAdd] at v5
    refine wpOpIn_value (u:= .int .i64 x.1) rfl rfl (by intro c;simp) (by simp [Oper.about]) ?_ (hS.soft (i:=6) (by omega) (by omega) (by omega) rfl)
    go_simp
   ·have ht:=evl _ _ hS.t4
    refine wpOpIn_value (u:= .pointer (some ⟨b,1,none⟩)) rfl rfl (by intro c;simp) (by simp [Oper.about]) ?_ (hS.soft (i:=7) (by omega) (by omega) (by omega) rfl)
    go_simp
   ·have hc:=rb (by cases hh:L.getD 9 false with|false=>rfl|true=>rw [(c9 hh).2] at hLf;cases hLf);have hc2:w2.cell? ⟨b,1,none⟩=some (.int .i64 x.2):=by rw [hc];exact wb1
    clear hc;have v7:=evl _ _ (hS.val 7 (by omega) (hdeps ⟨7,.data⟩ (by simp) rfl));simp only [vals12,Nat.reduceAdd] at v7
    refine wpOpIn_value (u:= .int .i64 x.2) rfl rfl (by intro c;simp) (by simp [Oper.about]) ?_ (hS.soft (i:=8) (by omega) (by omega) (by omega) rfl)
    go_simp
   ·have v6:=evl _ _ (hS.val 6 (by omega) (hdeps ⟨6,.data⟩ (by simp) rfl));simp only [vals12,Nat.reduceAdd] at v6;have v8:=evl _ _ (hS.val 8 (by omega) (hdeps ⟨8,.data⟩ (by simp) rfl));simp only [vals12,Nat.reduceAdd] at v8
    refine wpOpIn_value (u:= .agg #[.int .i64 x.1,.int .i64 x.2]) rfl rfl (by intro c;simp) (by simp [Oper.about]) ?_ (hS.soft (i:=9) (by omega) (by omega) (by omega) rfl)
    go_simp
   ·have h11:L.getD 11 false=false:=by cases hh:L.getD 11 false with|false=>rfl|true=>rw [(c11 hh).2] at hLf;cases hLf
    have h14:L.getD 14 false=false:=by cases hh:L.getD 14 false with|false=>rfl|true=>rw [(c14 hh).2] at h11;cases h11
    have hw2:=hS.w;rw [hLf,h11,h14] at hw2
    replace hw2:w2=W.drew:=hw2
    have v9:=evl _ _ (hS.val 9 (by omega) (hdeps ⟨9,.data⟩ (by simp) rfl));simp only [vals12,Nat.reduceAdd] at v9
    have u62:=run_underlying t62
    refine wpOpIn_value (u:= .slice (some ⟨W.heap.size,0,none⟩) 1 1) (w':=W.drew.alloc (.cells #[.int .i64 x.1,.int .i64 x.2] 67)) rfl rfl (by intro c;simp) (by simp [Oper.about]) ?_ (hS.put (i:=10) (by omega) rfl (by rw [getD_set_same (by rw [hLs];decide),getD_set_ne false (by omega),getD_set_ne false (by omega),h11,h14];rfl))
    rw [hw2]
    go_simp
   ·have h14:L.getD 14 false=false:=by cases hh:L.getD 14 false with|false=>rfl|true=>rw [(c14 hh).2] at hLf;cases hLf
    have h10:L.getD 10 false=true:=hdeps ⟨10,.data⟩ (by simp) rfl
    have hw2:=hS.w;rw [h10,hLf,h14] at hw2
    have v4:=hS.val 4 (by omega) (hdeps ⟨4,.data⟩ (by simp) rfl);simp only [vals12,Nat.reduceAdd] at v4
    have v10:=hS.val 10 (by omega) h10;simp only [vals12,Nat.reduceAdd] at v10
    refine wpOpIn_value (u:=v') (w':=w1) rfl rfl (by intro c;simp) (by simp [Oper.about,resolve,Target.leads,Sem.run_pure]) ?_ (hS.put (i:=11) (by omega) rfl (by rw [getD_set_same (by rw [hLs];decide),getD_set_ne false (by omega),getD_set_ne false (by omega),h10,h14];rfl))
    rw [hw2]
    show (execOp a.eval _).run Try.prog (W.drew.alloc (.cells #[.int .i64 x.1,.int .i64 x.2] 67))=_
    simp [execOp,resolve,invoke,builtin,v4,v10,hrun,Result.andThen]
   ·have v0:=evl _ _ (hS.val 0 (by omega) (hdeps ⟨0,.data⟩ (by simp) rfl));simp only [vals12,Nat.reduceAdd] at v0
    refine wpOpIn_value (u:= .pointer (some ⟨K,0,none⟩)) rfl rfl (by intro c;simp) (by simp [Oper.about]) ?_ (hS.soft (i:=12) (by omega) (by omega) (by omega) rfl)
    go_simp
   ·have v12:=evl _ _ (hS.val 12 (by omega) (hdeps ⟨12,.data⟩ (by simp) rfl));simp only [vals12,Nat.reduceAdd] at v12
    refine wpOpIn_value (u:= .pointer (some ⟨K,0,none⟩)) rfl rfl (by intro c;simp) (by simp [Oper.about]) ?_ (hS.soft (i:=13) (by omega) (by omega) (by omega) rfl)
    go_simp
   ·have h11:L.getD 11 false=true:=hdeps ⟨11,.data⟩ (by simp) rfl
    have hw2:=hS.w;rw [(c11 h11).2,h11,hLf] at hw2
    replace hw2:w2=w1:=hw2
    have v13:=evl _ _ (hS.val 13 (by omega) (hdeps ⟨13,.data⟩ (by simp) rfl));simp only [vals12,Nat.reduceAdd] at v13;have v11:=evl _ _ (hS.val 11 (by omega) (hdeps ⟨11,.data⟩ (by simp) rfl));simp only [vals12,Nat.reduceAdd] at v11
    have hcK:w1.cell? ⟨K,0,none⟩=some v:=by simp [World.cell?,hK1,frm]
    have hfK:w1.frozen? ⟨K,0,none⟩=false:=by simp [World.frozen?,hK1]
    refine wpOpIn_skip (w':=w1.setCell ⟨K,0,none⟩ v') rfl rfl (by intro c;simp) (by simp [Oper.about]) ?_ (hS.last (by rw [hLs];decide))
    rw [hw2]
    subst hv'
    go_simp
  ·intro L a w2 hall hS
   have hw:=hS.w
   rw [hall 10 (by decide),hall 11 (by decide),hall 14 (by decide),wOf_t] at hw
   subst hw
   exact ⟨hKeep,⟨(heap_setCell_ne (by omega)).trans (hsame _ (by omega) (by omega) (by simp [Value.ownBlock];omega)),(heap_setCell_ne (by omega)).trans (hsame _ (by omega) (by omega) (by simp [Value.ownBlock];omega)),(heap_setCell_ne (by omega)).trans (hsame _ (by omega) (by omega) (by simp [Value.ownBlock];omega))⟩,v',hG'⟩
 case done=>
  rintro D xs W hD rfl ⟨v,hG⟩ hDd
  have hWm:W.heap[m]?=w.heap[m]?:=(hG.same m (by omega) (by omega) (by simp [Value.ownBlock];omega)).trans hmB
  have hWb:W.heap[w.heap.size]?=some (.cells #[.pointer (some ⟨K,0,none⟩)] 60 (0,0)):=(hG.same _ (by omega) (by omega) (by simp [Value.ownBlock];omega)).trans hbB
  have d0:W.cell? ⟨w.heap.size,0,none⟩=some (.pointer (some ⟨K,0,none⟩)):=by simp [World.cell?,hWb]
  have d5:W.cell? ⟨m,o+5,none⟩=some (.pointer (some ⟨K,0,none⟩)):=(World.cell?_of_block (a:=⟨m,o+5,none⟩) hWm).trans c5
  have d6:W.cell? ⟨m,o+6,none⟩=some (.bool true):=(World.cell?_of_block (a:=⟨m,o+6,none⟩) hWm).trans c6
  have f5:W.frozen? ⟨m,o+5,none⟩=false:=(World.frozen?_of_block (a:=⟨m,o+5,none⟩) hWm).trans (fz _)
  have f6:W.frozen? ⟨m,o+6,none⟩=false:=(World.frozen?_of_block (a:=⟨m,o+6,none⟩) hWm).trans (fz _)
  gi_wp2
  refine ⟨by simp,.inl ⟨_,_,rfl,run_takeDeferred (by first|assumption|(rw [heap_setCell_ne (by omega),heap_setCell_ne (by omega)];exact hDd)),?_⟩⟩
  refine ⟨_,results_tmp rfl _ _ _,v,rfl,?_⟩
  refine ga_done hG (by omega) (by omega) (by omega) (by simp [Value.ownBlock];omega) hD hDd (hWm.trans hm) (fun j hj hjK _=>?_) (by omega) (B5.trans hT.os) (B6.trans hT.tape) (B7.trans hT.output)
  exact (B2 j (by omega) hjK).trans ((hT.same j (by rw [World.size_alloc];omega) hjK).trans (Below.heap_alloc _ _ _ hj))
 case stop=>
  rintro D c pre W _ _ h _
  exact h.elim
end
end Go.Proofs.Ytgianhjmjiiadaa
end
