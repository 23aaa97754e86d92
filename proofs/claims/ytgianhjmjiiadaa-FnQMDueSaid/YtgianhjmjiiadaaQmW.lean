/- addToRanges keeps its contracts. -/
import Derived.Test.YtgianhjmjiiadaaQmE
import Derived.KernelRfl
import Derived.Test.YtgianhjmjiiadaaQmAc
section
set_option autoImplicit true
set_option relaxedAutoImplicit true
set_option linter.unusedVariables false
set_option linter.unusedSimpArgs false
set_option maxRecDepth 100000
set_option maxHeartbeats 4000000
namespace Go.Proofs.Ytgianhjmjiiadaa
open Go Go.Sy Go.RowKit
noncomputable def aae0:SE:= .mul (.v 0) (.c 2)
noncomputable def aae1:AE:= .tl (.v 0) aae0 (.i (.v 1) (.i (.v 1) .nil))
noncomputable def aae2:AE:= .ap 3 (.a (.v 0) (.i (.v 0) (.i (.v 1) .nil)))
noncomputable def aae3:SE:= .ap 3 (.a (.v 0) (.i (.v 0) (.i (.v 1) .nil)))
noncomputable def aae4:SE:= .add (.v 0) (.c 1)
noncomputable def aae5:SE:= .sub (.v 0) (.c 1)
noncomputable def aax0:Vl:= .out 0 [.b (.c true) (.ap 3 (.a (.v 0) (.i (.v 0) (.i (.v 1) .nil)))),.i (.v 6) (.v 6),.a aae1 aae2 aae3 2,.i aae4 aae3] [((.eq (.v 0) (.c 0)),true),((.le (.c 0) (.v 0)),true),((.le (.v 0) (.c 60)),true),((.le (.c 0) (.v 1)),true),((.le (.v 1) (.c 400)),true),((.ap 1 (.a (.v 0) (.i (.v 0) .nil))),true)]
noncomputable def aax1:Vl:= .go 0 [(20,aae5)] [] [] [((.eq (.v 0) (.c 0)),false),((.le (.c 0) (.v 0)),true),((.le (.v 0) (.c 60)),true),((.le (.c 0) (.v 1)),true),((.le (.v 1) (.c 400)),true),((.ap 1 (.a (.v 0) (.i (.v 0) .nil))),true)] (.code (.loop (loopB (prm50 Try.prog).P 50 5))) (loopK (prm50 Try.prog).P 50 5)
noncomputable def aals:List Vl:=[aax0,aax1]
noncomputable def ap0e0:AE:= .ap 3 (.a (.v 0) (.i (.v 0) (.i (.v 1) .nil)))
noncomputable def ap0e1:SE:= .ap 3 (.a (.v 0) (.i (.v 0) (.i (.v 1) .nil)))
noncomputable def ap0e2:SE:= .mul (.v 20) (.c 2)
noncomputable def ap0e3:SE:= .add ap0e2 (.c 1)
noncomputable def ap0e4:SE:= .rd (.v 0) ap0e3
noncomputable def ap0e5:SE:= .rd (.v 0) ap0e2
noncomputable def ap0e6:SE:= .ap 8 (.a (.v 0) (.i (.v 0) (.i (.v 1) .nil)))
noncomputable def ap0e7:SE:= .add (.v 20) (.c 1)
noncomputable def ap0e8:AE:= .up (.v 0) ap0e3 (.v 1)
noncomputable def ap0e9:SE:= .sub (.v 1) (.c 1)
noncomputable def ap0e10:AE:= .up (.v 0) ap0e2 (.v 1)
noncomputable def ap0e11:SE:= .sub (.v 20) (.c 1)
noncomputable def ap0e12:SE:= .mul ap0e11 (.c 2)
noncomputable def ap0e13:SE:= .add ap0e12 (.c 1)
noncomputable def ap0e14:AE:= .up ap0e10 ap0e13 ap0e4
noncomputable def ap0e15:SE:= .sub ap0e7 (.v 20)
noncomputable def ap0e16:AE:= .ap 4 (.a ap0e14 (.i (.v 20) (.i ap0e15 .nil)))
noncomputable def ap0e17:SE:= .sub (.v 0) ap0e15
noncomputable def ap0e18:SE:= .rd ap0e10 ap0e13
noncomputable def ap0e19:SE:= .add ap0e18 (.c 1)
noncomputable def ap0e20:SE:= .wrap .i64 ap0e19
noncomputable def ap0e21:SE:= .rd (.v 0) ap0e13
noncomputable def ap0e22:SE:= .add (.v 1) (.c 1)
noncomputable def ap0e23:AE:= .tl (.v 0) (.c 0) (.i (.v 1) (.i (.v 1) .nil))
noncomputable def ap0e24:AE:= .ap 2 (.a (.v 0) (.i (.v 0) (.i ap0e7 (.a ap0e23 .nil))))
noncomputable def ap0e25:SE:= .add (.v 0) (.c 1)
noncomputable def ap0e26:AE:= .ap 2 (.a (.v 0) (.i (.v 0) (.i (.c 0) (.a ap0e23 .nil))))
noncomputable def ap0x0:Vl:= .out 0 [.b (.c false) (.ap 3 (.a (.v 0) (.i (.v 0) (.i (.v 1) .nil)))),.i (.v 6) (.v 6),.a (.v 0) ap0e0 ap0e1 2,.i (.v 0) ap0e1] [((.le (.v 1) ap0e4),true),((.le ap0e5 (.v 1)),true),((.le (.c 0) (.v 20)),true),((.le (.c 0) (.v 0)),true),((.le (.v 0) (.c 60)),true),((.le (.c 0) (.v 1)),true),((.le (.v 1) (.c 400)),true),((.ap 1 (.a (.v 0) (.i (.v 0) .nil))),true),((.le (.c (-1)) (.v 20)),true),((.le (.v 20) (.c 59)),true),((.lt (.v 20) (.v 0)),true),((.le ap0e6 ap0e7),true),((.le (.c 1) (.v 0)),true)]
noncomputable def ap0x1:Vl:= .out 0 [.b (.c true) (.ap 3 (.a (.v 0) (.i (.v 0) (.i (.v 1) .nil)))),.i (.v 6) (.v 6),.a ap0e8 ap0e0 ap0e1 2,.i (.v 0) ap0e1] [((.eq ap0e4 ap0e9),true),((.le (.v 1) ap0e4),false),((.le ap0e5 (.v 1)),true),((.le (.c 0) (.v 20)),true),((.le (.c 0) (.v 0)),true),((.le (.v 0) (.c 60)),true),((.le (.c 0) (.v 1)),true),((.le (.v 1) (.c 400)),true),((.ap 1 (.a (.v 0) (.i (.v 0) .nil))),true),((.le (.c (-1)) (.v 20)),true),((.le (.v 20) (.c 59)),true),((.lt (.v 20) (.v 0)),true),((.le ap0e6 ap0e7),true),((.le (.c 1) (.v 0)),true)]
noncomputable def ap0x2:Vl:= .out 0 [.b (.c true) (.ap 3 (.a (.v 0) (.i (.v 0) (.i (.v 1) .nil)))),.i (.v 6) (.v 6),.a ap0e16 ap0e0 ap0e1 2,.i ap0e17 ap0e1] [((.le ap0e7 (.v 0)),true),((.lt (.v 20) ap0e7),true),((.eq ap0e20 (.v 1)),true),((.lt ap0e11 (.v 0)),true),((.lt (.c 0) (.v 20)),true),((.le ap0e21 (.c 1000)),true),((.le (.c 0) ap0e21),true),((.eq ap0e5 ap0e22),true),((.eq ap0e4 ap0e9),false),((.le (.v 1) ap0e4),false),((.le ap0e5 (.v 1)),true),((.le (.c 0) (.v 20)),true),((.le (.c 0) (.v 0)),true),((.le (.v 0) (.c 60)),true),((.le (.c 0) (.v 1)),true),((.le (.v 1) (.c 400)),true),((.ap 1 (.a (.v 0) (.i (.v 0) .nil))),true),((.le (.c (-1)) (.v 20)),true),((.le (.v 20) (.c 59)),true),((.lt (.v 20) (.v 0)),true),((.le ap0e6 ap0e7),true),((.le (.c 1) (.v 0)),true)]
noncomputable def ap0x3:Vl:= .dead [((.le ap0e7 (.v 0)),false),((.lt (.v 20) ap0e7),true),((.eq ap0e20 (.v 1)),true),((.lt ap0e11 (.v 0)),true),((.lt (.c 0) (.v 20)),true),((.le ap0e21 (.c 1000)),true),((.le (.c 0) ap0e21),true),((.eq ap0e5 ap0e22),true),((.eq ap0e4 ap0e9),false),((.le (.v 1) ap0e4),false),((.le ap0e5 (.v 1)),true),((.le (.c 0) (.v 20)),true),((.le (.c 0) (.v 0)),true),((.le (.v 0) (.c 60)),true),((.le (.c 0) (.v 1)),true),((.le (.v 1) (.c 400)),true),((.ap 1 (.a (.v 0) (.i (.v 0) .nil))),true),((.le (.c (-1)) (.v 20)),true),((.le (.v 20) (.c 59)),true),((.lt (.v 20) (.v 0)),true),((.le ap0e6 ap0e7),true),((.le (.c 1) (.v 0)),true)]
noncomputable def ap0x4:Vl:= .dead [((.lt (.v 20) ap0e7),false),((.eq ap0e20 (.v 1)),true),((.lt ap0e11 (.v 0)),true),((.lt (.c 0) (.v 20)),true),((.le ap0e21 (.c 1000)),true),((.le (.c 0) ap0e21),true),((.eq ap0e5 ap0e22),true),((.eq ap0e4 ap0e9),false),((.le (.v 1) ap0e4),false),((.le ap0e5 (.v 1)),true),((.le (.c 0) (.v 20)),true),((.le (.c 0) (.v 0)),true),((.le (.v 0) (.c 60)),true),((.le (.c 0) (.v 1)),true),((.le (.v 1) (.c 400)),true),((.ap 1 (.a (.v 0) (.i (.v 0) .nil))),true),((.le (.c (-1)) (.v 20)),true),((.le (.v 20) (.c 59)),true),((.lt (.v 20) (.v 0)),true),((.le ap0e6 ap0e7),true),((.le (.c 1) (.v 0)),true)]
noncomputable def ap0x5:Vl:= .out 0 [.b (.c true) (.ap 3 (.a (.v 0) (.i (.v 0) (.i (.v 1) .nil)))),.i (.v 6) (.v 6),.a ap0e10 ap0e0 ap0e1 2,.i (.v 0) ap0e1] [((.eq ap0e20 (.v 1)),false),((.lt ap0e11 (.v 0)),true),((.lt (.c 0) (.v 20)),true),((.le ap0e21 (.c 1000)),true),((.le (.c 0) ap0e21),true),((.eq ap0e5 ap0e22),true),((.eq ap0e4 ap0e9),false),((.le (.v 1) ap0e4),false),((.le ap0e5 (.v 1)),true),((.le (.c 0) (.v 20)),true),((.le (.c 0) (.v 0)),true),((.le (.v 0) (.c 60)),true),((.le (.c 0) (.v 1)),true),((.le (.v 1) (.c 400)),true),((.ap 1 (.a (.v 0) (.i (.v 0) .nil))),true),((.le (.c (-1)) (.v 20)),true),((.le (.v 20) (.c 59)),true),((.lt (.v 20) (.v 0)),true),((.le ap0e6 ap0e7),true),((.le (.c 1) (.v 0)),true)]
noncomputable def ap0x6:Vl:= .dead [((.lt ap0e11 (.v 0)),false),((.lt (.c 0) (.v 20)),true),((.le ap0e21 (.c 1000)),true),((.le (.c 0) ap0e21),true),((.eq ap0e5 ap0e22),true),((.eq ap0e4 ap0e9),false),((.le (.v 1) ap0e4),false),((.le ap0e5 (.v 1)),true),((.le (.c 0) (.v 20)),true),((.le (.c 0) (.v 0)),true),((.le (.v 0) (.c 60)),true),((.le (.c 0) (.v 1)),true),((.le (.v 1) (.c 400)),true),((.ap 1 (.a (.v 0) (.i (.v 0) .nil))),true),((.le (.c (-1)) (.v 20)),true),((.le (.v 20) (.c 59)),true),((.lt (.v 20) (.v 0)),true),((.le ap0e6 ap0e7),true),((.le (.c 1) (.v 0)),true)]
noncomputable def ap0x7:Vl:= .out 0 [.b (.c true) (.ap 3 (.a (.v 0) (.i (.v 0) (.i (.v 1) .nil)))),.i (.v 6) (.v 6),.a ap0e10 ap0e0 ap0e1 2,.i (.v 0) ap0e1] [((.lt (.c 0) (.v 20)),false),((.le ap0e21 (.c 1000)),true),((.le (.c 0) ap0e21),true),((.eq ap0e5 ap0e22),true),((.eq ap0e4 ap0e9),false),((.le (.v 1) ap0e4),false),((.le ap0e5 (.v 1)),true),((.le (.c 0) (.v 20)),true),((.le (.c 0) (.v 0)),true),((.le (.v 0) (.c 60)),true),((.le (.c 0) (.v 1)),true),((.le (.v 1) (.c 400)),true),((.ap 1 (.a (.v 0) (.i (.v 0) .nil))),true),((.le (.c (-1)) (.v 20)),true),((.le (.v 20) (.c 59)),true),((.lt (.v 20) (.v 0)),true),((.le ap0e6 ap0e7),true),((.le (.c 1) (.v 0)),true)]
noncomputable def ap0x8:Vl:= .dead [((.le ap0e21 (.c 1000)),false),((.le (.c 0) ap0e21),true),((.eq ap0e5 ap0e22),true),((.eq ap0e4 ap0e9),false),((.le (.v 1) ap0e4),false),((.le ap0e5 (.v 1)),true),((.le (.c 0) (.v 20)),true),((.le (.c 0) (.v 0)),true),((.le (.v 0) (.c 60)),true),((.le (.c 0) (.v 1)),true),((.le (.v 1) (.c 400)),true),((.ap 1 (.a (.v 0) (.i (.v 0) .nil))),true),((.le (.c (-1)) (.v 20)),true),((.le (.v 20) (.c 59)),true),((.lt (.v 20) (.v 0)),true),((.le ap0e6 ap0e7),true),((.le (.c 1) (.v 0)),true)]
noncomputable def ap0x9:Vl:= .dead [((.le (.c 0) ap0e21),false),((.eq ap0e5 ap0e22),true),((.eq ap0e4 ap0e9),false),((.le (.v 1) ap0e4),false),((.le ap0e5 (.v 1)),true),((.le (.c 0) (.v 20)),true),((.le (.c 0) (.v 0)),true),((.le (.v 0) (.c 60)),true),((.le (.c 0) (.v 1)),true),((.le (.v 1) (.c 400)),true),((.ap 1 (.a (.v 0) (.i (.v 0) .nil))),true),((.le (.c (-1)) (.v 20)),true),((.le (.v 20) (.c 59)),true),((.lt (.v 20) (.v 0)),true),((.le ap0e6 ap0e7),true),((.le (.c 1) (.v 0)),true)]
noncomputable def ap0x10:Vl:= .out 0 [.b (.c true) (.ap 3 (.a (.v 0) (.i (.v 0) (.i (.v 1) .nil)))),.i (.v 6) (.v 6),.a ap0e24 ap0e0 ap0e1 2,.i ap0e25 ap0e1] [((.le ap0e7 (.v 0)),true),((.lt ap0e4 (.v 1)),true),((.eq ap0e5 ap0e22),false),((.eq ap0e4 ap0e9),false),((.le (.v 1) ap0e4),false),((.le ap0e5 (.v 1)),true),((.le (.c 0) (.v 20)),true),((.le (.c 0) (.v 0)),true),((.le (.v 0) (.c 60)),true),((.le (.c 0) (.v 1)),true),((.le (.v 1) (.c 400)),true),((.ap 1 (.a (.v 0) (.i (.v 0) .nil))),true),((.le (.c (-1)) (.v 20)),true),((.le (.v 20) (.c 59)),true),((.lt (.v 20) (.v 0)),true),((.le ap0e6 ap0e7),true),((.le (.c 1) (.v 0)),true)]
noncomputable def ap0x11:Vl:= .dead [((.le ap0e7 (.v 0)),false),((.lt ap0e4 (.v 1)),true),((.eq ap0e5 ap0e22),false),((.eq ap0e4 ap0e9),false),((.le (.v 1) ap0e4),false),((.le ap0e5 (.v 1)),true),((.le (.c 0) (.v 20)),true),((.le (.c 0) (.v 0)),true),((.le (.v 0) (.c 60)),true),((.le (.c 0) (.v 1)),true),((.le (.v 1) (.c 400)),true),((.ap 1 (.a (.v 0) (.i (.v 0) .nil))),true),((.le (.c (-1)) (.v 20)),true),((.le (.v 20) (.c 59)),true),((.lt (.v 20) (.v 0)),true),((.le ap0e6 ap0e7),true),((.le (.c 1) (.v 0)),true)]
noncomputable def ap0x12:Vl:= .go 0 [(20,ap0e11)] [] [] [((.lt ap0e4 (.v 1)),false),((.eq ap0e5 ap0e22),false),((.eq ap0e4 ap0e9),false),((.le (.v 1) ap0e4),false),((.le ap0e5 (.v 1)),true),((.le (.c 0) (.v 20)),true),((.le (.c 0) (.v 0)),true),((.le (.v 0) (.c 60)),true),((.le (.c 0) (.v 1)),true),((.le (.v 1) (.c 400)),true),((.ap 1 (.a (.v 0) (.i (.v 0) .nil))),true),((.le (.c (-1)) (.v 20)),true),((.le (.v 20) (.c 59)),true),((.lt (.v 20) (.v 0)),true),((.le ap0e6 ap0e7),true),((.le (.c 1) (.v 0)),true)] (.exit .normal) (.loop (loopB (prm50 Try.prog).P 50 5)::loopK (prm50 Try.prog).P 50 5)
noncomputable def ap0x13:Vl:= .out 0 [.b (.c true) (.ap 3 (.a (.v 0) (.i (.v 0) (.i (.v 1) .nil)))),.i (.v 6) (.v 6),.a ap0e8 ap0e0 ap0e1 2,.i (.v 0) ap0e1] [((.eq ap0e4 ap0e9),true),((.le ap0e5 (.v 1)),false),((.le (.c 0) (.v 20)),true),((.le (.c 0) (.v 0)),true),((.le (.v 0) (.c 60)),true),((.le (.c 0) (.v 1)),true),((.le (.v 1) (.c 400)),true),((.ap 1 (.a (.v 0) (.i (.v 0) .nil))),true),((.le (.c (-1)) (.v 20)),true),((.le (.v 20) (.c 59)),true),((.lt (.v 20) (.v 0)),true),((.le ap0e6 ap0e7),true),((.le (.c 1) (.v 0)),true)]
noncomputable def ap0x14:Vl:= .out 0 [.b (.c true) (.ap 3 (.a (.v 0) (.i (.v 0) (.i (.v 1) .nil)))),.i (.v 6) (.v 6),.a ap0e16 ap0e0 ap0e1 2,.i ap0e17 ap0e1] [((.le ap0e7 (.v 0)),true),((.lt (.v 20) ap0e7),true),((.eq ap0e20 (.v 1)),true),((.lt ap0e11 (.v 0)),true),((.lt (.c 0) (.v 20)),true),((.le ap0e21 (.c 1000)),true),((.le (.c 0) ap0e21),true),((.eq ap0e5 ap0e22),true),((.eq ap0e4 ap0e9),false),((.le ap0e5 (.v 1)),false),((.le (.c 0) (.v 20)),true),((.le (.c 0) (.v 0)),true),((.le (.v 0) (.c 60)),true),((.le (.c 0) (.v 1)),true),((.le (.v 1) (.c 400)),true),((.ap 1 (.a (.v 0) (.i (.v 0) .nil))),true),((.le (.c (-1)) (.v 20)),true),((.le (.v 20) (.c 59)),true),((.lt (.v 20) (.v 0)),true),((.le ap0e6 ap0e7),true),((.le (.c 1) (.v 0)),true)]
noncomputable def ap0x15:Vl:= .dead [((.le ap0e7 (.v 0)),false),((.lt (.v 20) ap0e7),true),((.eq ap0e20 (.v 1)),true),((.lt ap0e11 (.v 0)),true),((.lt (.c 0) (.v 20)),true),((.le ap0e21 (.c 1000)),true),((.le (.c 0) ap0e21),true),((.eq ap0e5 ap0e22),true),((.eq ap0e4 ap0e9),false),((.le ap0e5 (.v 1)),false),((.le (.c 0) (.v 20)),true),((.le (.c 0) (.v 0)),true),((.le (.v 0) (.c 60)),true),((.le (.c 0) (.v 1)),true),((.le (.v 1) (.c 400)),true),((.ap 1 (.a (.v 0) (.i (.v 0) .nil))),true),((.le (.c (-1)) (.v 20)),true),((.le (.v 20) (.c 59)),true),((.lt (.v 20) (.v 0)),true),((.le ap0e6 ap0e7),true),((.le (.c 1) (.v 0)),true)]
noncomputable def ap0x16:Vl:= .dead [((.lt (.v 20) ap0e7),false),((.eq ap0e20 (.v 1)),true),((.lt ap0e11 (.v 0)),true),((.lt (.c 0) (.v 20)),true),((.le ap0e21 (.c 1000)),true),((.le (.c 0) ap0e21),true),((.eq ap0e5 ap0e22),true),((.eq ap0e4 ap0e9),false),((.le ap0e5 (.v 1)),false),((.le (.c 0) (.v 20)),true),((.le (.c 0) (.v 0)),true),((.le (.v 0) (.c 60)),true),((.le (.c 0) (.v 1)),true),((.le (.v 1) (.c 400)),true),((.ap 1 (.a (.v 0) (.i (.v 0) .nil))),true),((.le (.c (-1)) (.v 20)),true),((.le (.v 20) (.c 59)),true),((.lt (.v 20) (.v 0)),true),((.le ap0e6 ap0e7),true),((.le (.c 1) (.v 0)),true)]
noncomputable def ap0x17:Vl:= .out 0 [.b (.c true) (.ap 3 (.a (.v 0) (.i (.v 0) (.i (.v 1) .nil)))),.i (.v 6) (.v 6),.a ap0e10 ap0e0 ap0e1 2,.i (.v 0) ap0e1] [((.eq ap0e20 (.v 1)),false),((.lt ap0e11 (.v 0)),true),((.lt (.c 0) (.v 20)),true),((.le ap0e21 (.c 1000)),true),((.le (.c 0) ap0e21),true),((.eq ap0e5 ap0e22),true),((.eq ap0e4 ap0e9),false),((.le ap0e5 (.v 1)),false),((.le (.c 0) (.v 20)),true),((.le (.c 0) (.v 0)),true),((.le (.v 0) (.c 60)),true),((.le (.c 0) (.v 1)),true),((.le (.v 1) (.c 400)),true),((.ap 1 (.a (.v 0) (.i (.v 0) .nil))),true),((.le (.c (-1)) (.v 20)),true),((.le (.v 20) (.c 59)),true),((.lt (.v 20) (.v 0)),true),((.le ap0e6 ap0e7),true),((.le (.c 1) (.v 0)),true)]
noncomputable def ap0x18:Vl:= .dead [((.lt ap0e11 (.v 0)),false),((.lt (.c 0) (.v 20)),true),((.le ap0e21 (.c 1000)),true),((.le (.c 0) ap0e21),true),((.eq ap0e5 ap0e22),true),((.eq ap0e4 ap0e9),false),((.le ap0e5 (.v 1)),false),((.le (.c 0) (.v 20)),true),((.le (.c 0) (.v 0)),true),((.le (.v 0) (.c 60)),true),((.le (.c 0) (.v 1)),true),((.le (.v 1) (.c 400)),true),((.ap 1 (.a (.v 0) (.i (.v 0) .nil))),true),((.le (.c (-1)) (.v 20)),true),((.le (.v 20) (.c 59)),true),((.lt (.v 20) (.v 0)),true),((.le ap0e6 ap0e7),true),((.le (.c 1) (.v 0)),true)]
noncomputable def ap0x19:Vl:= .out 0 [.b (.c true) (.ap 3 (.a (.v 0) (.i (.v 0) (.i (.v 1) .nil)))),.i (.v 6) (.v 6),.a ap0e10 ap0e0 ap0e1 2,.i (.v 0) ap0e1] [((.lt (.c 0) (.v 20)),false),((.le ap0e21 (.c 1000)),true),((.le (.c 0) ap0e21),true),((.eq ap0e5 ap0e22),true),((.eq ap0e4 ap0e9),false),((.le ap0e5 (.v 1)),false),((.le (.c 0) (.v 20)),true),((.le (.c 0) (.v 0)),true),((.le (.v 0) (.c 60)),true),((.le (.c 0) (.v 1)),true),((.le (.v 1) (.c 400)),true),((.ap 1 (.a (.v 0) (.i (.v 0) .nil))),true),((.le (.c (-1)) (.v 20)),true),((.le (.v 20) (.c 59)),true),((.lt (.v 20) (.v 0)),true),((.le ap0e6 ap0e7),true),((.le (.c 1) (.v 0)),true)]
noncomputable def ap0x20:Vl:= .dead [((.le ap0e21 (.c 1000)),false),((.le (.c 0) ap0e21),true),((.eq ap0e5 ap0e22),true),((.eq ap0e4 ap0e9),false),((.le ap0e5 (.v 1)),false),((.le (.c 0) (.v 20)),true),((.le (.c 0) (.v 0)),true),((.le (.v 0) (.c 60)),true),((.le (.c 0) (.v 1)),true),((.le (.v 1) (.c 400)),true),((.ap 1 (.a (.v 0) (.i (.v 0) .nil))),true),((.le (.c (-1)) (.v 20)),true),((.le (.v 20) (.c 59)),true),((.lt (.v 20) (.v 0)),true),((.le ap0e6 ap0e7),true),((.le (.c 1) (.v 0)),true)]
noncomputable def ap0x21:Vl:= .dead [((.le (.c 0) ap0e21),false),((.eq ap0e5 ap0e22),true),((.eq ap0e4 ap0e9),false),((.le ap0e5 (.v 1)),false),((.le (.c 0) (.v 20)),true),((.le (.c 0) (.v 0)),true),((.le (.v 0) (.c 60)),true),((.le (.c 0) (.v 1)),true),((.le (.v 1) (.c 400)),true),((.ap 1 (.a (.v 0) (.i (.v 0) .nil))),true),((.le (.c (-1)) (.v 20)),true),((.le (.v 20) (.c 59)),true),((.lt (.v 20) (.v 0)),true),((.le ap0e6 ap0e7),true),((.le (.c 1) (.v 0)),true)]
noncomputable def ap0x22:Vl:= .out 0 [.b (.c true) (.ap 3 (.a (.v 0) (.i (.v 0) (.i (.v 1) .nil)))),.i (.v 6) (.v 6),.a ap0e24 ap0e0 ap0e1 2,.i ap0e25 ap0e1] [((.le ap0e7 (.v 0)),true),((.lt ap0e4 (.v 1)),true),((.eq ap0e5 ap0e22),false),((.eq ap0e4 ap0e9),false),((.le ap0e5 (.v 1)),false),((.le (.c 0) (.v 20)),true),((.le (.c 0) (.v 0)),true),((.le (.v 0) (.c 60)),true),((.le (.c 0) (.v 1)),true),((.le (.v 1) (.c 400)),true),((.ap 1 (.a (.v 0) (.i (.v 0) .nil))),true),((.le (.c (-1)) (.v 20)),true),((.le (.v 20) (.c 59)),true),((.lt (.v 20) (.v 0)),true),((.le ap0e6 ap0e7),true),((.le (.c 1) (.v 0)),true)]
noncomputable def ap0x23:Vl:= .dead [((.le ap0e7 (.v 0)),false),((.lt ap0e4 (.v 1)),true),((.eq ap0e5 ap0e22),false),((.eq ap0e4 ap0e9),false),((.le ap0e5 (.v 1)),false),((.le (.c 0) (.v 20)),true),((.le (.c 0) (.v 0)),true),((.le (.v 0) (.c 60)),true),((.le (.c 0) (.v 1)),true),((.le (.v 1) (.c 400)),true),((.ap 1 (.a (.v 0) (.i (.v 0) .nil))),true),((.le (.c (-1)) (.v 20)),true),((.le (.v 20) (.c 59)),true),((.lt (.v 20) (.v 0)),true),((.le ap0e6 ap0e7),true),((.le (.c 1) (.v 0)),true)]
noncomputable def ap0x24:Vl:= .go 0 [(20,ap0e11)] [] [] [((.lt ap0e4 (.v 1)),false),((.eq ap0e5 ap0e22),false),((.eq ap0e4 ap0e9),false),((.le ap0e5 (.v 1)),false),((.le (.c 0) (.v 20)),true),((.le (.c 0) (.v 0)),true),((.le (.v 0) (.c 60)),true),((.le (.c 0) (.v 1)),true),((.le (.v 1) (.c 400)),true),((.ap 1 (.a (.v 0) (.i (.v 0) .nil))),true),((.le (.c (-1)) (.v 20)),true),((.le (.v 20) (.c 59)),true),((.lt (.v 20) (.v 0)),true),((.le ap0e6 ap0e7),true),((.le (.c 1) (.v 0)),true)] (.exit .normal) (.loop (loopB (prm50 Try.prog).P 50 5)::loopK (prm50 Try.prog).P 50 5)
noncomputable def ap0x25:Vl:= .out 0 [.b (.c true) (.ap 3 (.a (.v 0) (.i (.v 0) (.i (.v 1) .nil)))),.i (.v 6) (.v 6),.a ap0e26 ap0e0 ap0e1 2,.i ap0e25 ap0e1] [((.le (.c 0) (.v 20)),false),((.le (.c 0) (.v 0)),true),((.le (.v 0) (.c 60)),true),((.le (.c 0) (.v 1)),true),((.le (.v 1) (.c 400)),true),((.ap 1 (.a (.v 0) (.i (.v 0) .nil))),true),((.le (.c (-1)) (.v 20)),true),((.le (.v 20) (.c 59)),true),((.lt (.v 20) (.v 0)),true),((.le ap0e6 ap0e7),true),((.le (.c 1) (.v 0)),true)]
noncomputable def ap0ls:List Vl:=[ap0x0,ap0x1,ap0x2,ap0x3,ap0x4,ap0x5,ap0x6,ap0x7,ap0x8,ap0x9,ap0x10,ap0x11,ap0x12,ap0x13,ap0x14,ap0x15,ap0x16,ap0x17,ap0x18,ap0x19,ap0x20,ap0x21,ap0x22,ap0x23,ap0x24,ap0x25]
theorem ap0run {z:Bool}:(run (prm50 Try.prog) 900 (ptD (pts50 Try.prog z) 0 50)).map (vOf (prm50 Try.prog) (ct50 z) (pts50 Try.prog z))=ap0ls:=by cases z<;>kernel_rfl
theorem prm50_ok (E:Env) (hE:E.fn=fns):PrmOk E (prm50 Try.prog):=
 prm_ok E hE (by
  intro c hc
  simp only [List.mem_cons,List.not_mem_nil,or_false] at hc
  rcases hc with rfl|rfl
  ·exact ct57_ok
  ·exact ct51_ok) (by intro b hb;cases hb)
theorem pre50 {E0:Env} {s:Bool} (hE:E0.fn=fns) (hF:Facts E0 (ct50 s).pre): ∃n:Nat,E0.i 0=n∧n≤60∧0≤E0.i 1∧E0.i 1≤400∧Rg (E0.a 0) n:=by
 have hF':Facts E0 [((.le (.c 0) (.v 0)),true),((.le (.v 0) (.c 60)),true),((.le (.c 0) (.v 1)),true),((.le (.v 1) (.c 400)),true),rgF (.v 0) (.v 0)]:=hF
 have h:=rg_of hE (.v 0) (.v 0) (hF' (rgF (.v 0) (.v 0)) (by simp))
 simp only [facts_cons,facts_nil,le_t,d_c,d_v,and_true,rgF] at hF'
 obtain ⟨a,b,c,d,e⟩:=hF'
 refine ⟨(E0.i 0).toNat,by omega,by omega,c,d,?_⟩
 have h2:Rg (E0.a 0) (E0.i 0).toNat:=h
 exact h2
theorem ad_facts {E:Env} (hE:E.fn=fns) {n:Nat} (hn:E.i 0=n) (p0:0≤E.i 1) (p1:E.i 1≤1000) (hr:Rg (E.a 0) n):Facts E adF:=by
 obtain ⟨dB,dN,dA,dK⟩:=add_den hE hn
 obtain ⟨k1,k2,k3,k4⟩:=add_ok hr p0 p1
 have k5:=addN_pos (p:=E.i 1) hr
 have h:(rgF (a3 3 (.v 0) (.v 0) (.v 1)) (f3 3 (.v 0) (.v 0) (.v 1))).1.den E=true:=of_rg hE _ _ (by rw [dN,dA,Int.toNat_natCast];exact k1)
 unfold adF
 simp only [facts_cons,facts_nil,le_t,d_c,d_v,d_add,and_true,dN,hn]
 exact ⟨by omega,by omega,fun q hq=>by simp only [List.mem_singleton] at hq;subst hq;exact h⟩
structure I50 (n:Nat) (E0 E:Env) (k:Nat):Prop where
 s:Sm 20 E0 E
 i20:E.i 20=(k:Int) - 1
 le:kR (E0.a 0) (E0.i 1) n≤k
 kn:k≤n
 n1:1≤n
theorem ct50_of (z:Bool):CtOk Try.prog fns (ct50 z):=by
 refine ct_of_pts (p:=prm50 Try.prog) (pts:=pts50 Try.prog z) (n:=900) (c0:=enterD (prm50 Try.prog) (ct50 z)) (fun E hE=>prm50_ok E hE) rfl (by intro q hq;cases hq) Try.func50 (by cases z<;>kernel_rfl) ?_ (fun E0 _ E=> ∃k,I50 (E0.i 0).toNat E0 E k) (fun E0 _ E=>(E.i 20+1).toNat) aals (by cases z<;>kernel_rfl) ?_ ?_
 ·intro t ht
  simp only [pts50,List.mem_cons,List.not_mem_nil,or_false] at ht
  subst ht
  exact (by cases z<;>exact ⟨by kernel_rfl,by decide⟩)
 ·intro E hE hF
  obtain ⟨n,hn,hn60,p0,p1,hr⟩:=pre50 hE hF
  have hnt:(E.i 0).toNat=n:=by omega
  obtain ⟨dB,dN,dA,dK⟩:=add_den hE hn
  refine ⟨fun a ha=>?_,fun x hx=>?_⟩
  ·obtain rfl:=Option.some.inj ha;exact ad_facts hE hn p0 (by omega) hr
  ·unfold aals at hx
   simp only [List.mem_cons,List.not_mem_nil,or_false] at hx
   rcases hx with rfl|rfl
   ·intro hf
    have h0:=hf (SB.eq (.v 0) (.c 0),true) (by simp)
    simp only [eq_t,d_v,d_c] at h0
    have hn0:n=0:=by omega
    subst hn0
    obtain ⟨z1,z2,z3⟩:=st_zero (A:=E.a 0) (n:=0) (p:=E.i 1) rfl
    refine ⟨rfl,?_⟩
    simp only [List.forall_mem_cons,List.not_mem_nil,false_imp_iff,implies_true,and_true,true_and,Eqn.ok]
    refine ⟨by rw [show (SB.ap 3 (.a (.v 0) (.i (.v 0) (.i (.v 1) .nil)))).den E=_ from dB,z1];rfl,fun j hj=>?_,?_⟩
    ·have hj':j<addN (E.a 0) 0 (E.i 1)*2:=by
      have e:aae3.den E=_:=dN
      rw [e] at hj;simpa using hj
     rw [z2] at hj'
     have e:aae2.den E=_:=dA
     rw [e,z3]
     have e0:(aae0.den E).toNat=0:=by show (E.i 0*2).toNat=0;rw [hn];rfl
     show (if j<(aae0.den E).toNat then E.a 0 j else SL.nth E (.i (.v 1) (.i (.v 1) .nil)) (j - (aae0.den E).toNat))=_
     rw [e0,if_neg (by omega)]
     unfold ins2
     rcases (by omega:j=0∨j=1) with rfl|rfl<;>rfl
    ·show E.i 0+1=_
     have e:aae3.den E=_:=dN
     rw [e,z2,hn];rfl
   ·intro hf
    have h0:=hf (SB.eq (.v 0) (.c 0),false) (by simp)
    have h0: ¬E.i 0=0:=by simpa [SB.den,SE.den] using h0
    refine ⟨⟨_,rfl,.inl ⟨rfl,rfl⟩⟩,fun o=>⟨⟨n,(Sm.refl 20 E).put _ o,?_,by rw [hnt];exact kR_le _ _ _,by omega,by omega⟩,fun b hb=>by cases hb⟩⟩
    show E.i 0 - 1=_
    omega
 ·intro kk t ht
  have hk:kk=0:=by
   have:=(List.getElem?_eq_some_iff.1 ht).1
   simp [pts50] at this;omega
  subst hk
  refine ⟨ap0ls,by rw [←ptD_some ht (ct50 z).g];exact ap0run,fun E0 E hE0 hE hF0 ⟨k,hI⟩=>?_⟩
  obtain ⟨n,hn,hn60,p0,p1,hr⟩:=pre50 hE0 hF0
  have hnt:(E0.i 0).toNat=n:=by omega
  rw [hnt] at hI
  obtain ⟨hS,h20,hle,hkn,hn1⟩:=hI
  obtain ⟨dB,dN,dA,dK⟩:=add_den hE0 hn
  have q0:=hS.i 0 (by decide);have q1:=hS.i 1 (by decide)
  have qa:E.a 0=E0.a 0:=by rw [hS.a]
  have hnE:E.i 0=n:=q0.trans hn
  obtain ⟨_,_,_,dKE⟩:=add_den hE hnE
  rw [qa,q1] at dKE
  refine ⟨?_,fun x hx=>?_⟩
  ·obtain rfl:=Option.some.inj ht
   show Facts E ([((.le (.c 0) (.v 0)),true),((.le (.v 0) (.c 60)),true),((.le (.c 0) (.v 1)),true),((.le (.v 1) (.c 400)),true),((rgF (.v 0) (.v 0)).1,true),((.le (.c (-1)) (.v 20)),true),((.le (.v 20) (.c 59)),true),((.lt (.v 20) (.v 0)),true),((.le (f3 8 (.v 0) (.v 0) (.v 1)) (.add (.v 20) (.c 1))),true),((.le (.c 1) (.v 0)),true)])
   have hsr:(rgF (.v 0) (.v 0)).1.den E=true:=of_rg hE (.v 0) (.v 0) (by
    show Rg (fun j=>E.a 0 j) (E.i 0).toNat
    rw [hnE,Int.toNat_natCast,qa];exact hr)
   simp only [facts_cons,facts_nil,le_t,lt_t,d_c,d_v,d_add,and_true,dKE]
   refine ⟨by omega,by omega,by omega,by omega,hsr,by omega,by omega,by omega,by omega,by omega⟩
  ·unfold ap0ls at hx
   simp only [List.mem_cons,List.not_mem_nil,or_false] at hx
   have fin: ∀(B:SB) (A:AE) (N:SE),B.den E=addB (E0.a 0) n (E0.i 1)→N.den E=addN (E0.a 0) n (E0.i 1)→(∀j,j<addN (E0.a 0) n (E0.i 1)*2→A.den E j=addA (E0.a 0) n (E0.i 1) j)→
    ∀q∈([.b B (.ap 3 (.a (.v 0) (.i (.v 0) (.i (.v 1) .nil)))),.i (.v 6) (.v 6),.a A ap0e0 ap0e1 2,.i N ap0e1]:List Eqn),q.ok E E0:=fun B A N hB hN hA=>by
    have qb: ∀m,E.b m=E0.b m:=fun m=>by rw [hS.b]
    have e0:ap0e0.den E0=_:=dA
    have e1:ap0e1.den E0=_:=dN
    simp only [List.forall_mem_cons,List.not_mem_nil,false_imp_iff,implies_true,and_true,true_and,Eqn.ok]
    refine ⟨hB.trans dB.symm,hS.i 6 (by decide),fun j hj=>?_,hN.trans e1.symm⟩
    rw [e1] at hj
    rw [e0];exact hA j (by simpa using hj)
   rcases Nat.eq_zero_or_pos k with hk0|hk0
   ·have hKz:kR (E0.a 0) (E0.i 1) n=0:=by omega
    obtain ⟨z1,z2,z3⟩:=st_zero hKz
    have dead: ∀F:Fx,((.le (.c 0) (.v 20):SB),true)∈F→ ¬Facts E F:=fun F hm hf=>by
     have:=hf _ hm
     simp only [le_t,d_v,d_c] at this
     omega
    rcases hx with rfl|rfl|rfl|rfl|rfl|rfl|rfl|rfl|rfl|rfl|rfl|rfl|rfl|rfl|rfl|rfl|rfl|rfl|rfl|rfl|rfl|rfl|rfl|rfl|rfl|rfl
    ·intro hf
     exact absurd hf (dead _ (by simp))
    ·intro hf
     exact absurd hf (dead _ (by simp))
    ·intro hf
     exact absurd hf (dead _ (by simp))
    ·intro hf
     exact absurd hf (dead _ (by simp))
    ·intro hf
     exact absurd hf (dead _ (by simp))
    ·intro hf
     exact absurd hf (dead _ (by simp))
    ·intro hf
     exact absurd hf (dead _ (by simp))
    ·intro hf
     exact absurd hf (dead _ (by simp))
    ·intro hf
     exact absurd hf (dead _ (by simp))
    ·intro hf
     exact absurd hf (dead _ (by simp))
    ·intro hf
     exact absurd hf (dead _ (by simp))
    ·intro hf
     exact absurd hf (dead _ (by simp))
    ·intro hf
     exact absurd hf (dead _ (by simp))
    ·intro hf
     exact absurd hf (dead _ (by simp))
    ·intro hf
     exact absurd hf (dead _ (by simp))
    ·intro hf
     exact absurd hf (dead _ (by simp))
    ·intro hf
     exact absurd hf (dead _ (by simp))
    ·intro hf
     exact absurd hf (dead _ (by simp))
    ·intro hf
     exact absurd hf (dead _ (by simp))
    ·intro hf
     exact absurd hf (dead _ (by simp))
    ·intro hf
     exact absurd hf (dead _ (by simp))
    ·intro hf
     exact absurd hf (dead _ (by simp))
    ·intro hf
     exact absurd hf (dead _ (by simp))
    ·intro hf
     exact absurd hf (dead _ (by simp))
    ·intro hf
     exact absurd hf (dead _ (by simp))
    ·intro hf
     refine ⟨rfl,fin _ _ _ (by rw [z1];rfl) ?_ (fun j _=>?_)⟩
     ·show E.i 0+1=_
      rw [z2,hnE];rfl
     ·rw [z3]
      show E.fn.a 2 [.a (fun j=>E.a 0 j),.i (E.i 0),.i 0,.a (ap0e23.den E)] j=_
      rw [hE]
      show ins2 (fun j=>E.a 0 j) (E.i 0).toNat (0:Int).toNat (E.i 1) (E.i 1) j=_
      rw [hnE,qa,q1];rfl
   ·obtain ⟨i,rfl⟩: ∃i,k=i+1:=⟨k - 1,by omega⟩
    have hi:i<n:=by omega
    have h20':E.i 20=(i:Int):=by rw [h20];omega
    have D4:ap0e4.den E=E0.a 0 (i*2+1):=by
     show E.a 0 (E.i 20*2+1).toNat=_
     rw [qa,h20',show ((i:Int)*2+1).toNat=i*2+1 by omega]
    have D5:ap0e5.den E=E0.a 0 (i*2):=by
     show E.a 0 (E.i 20*2).toNat=_
     rw [qa,h20',show ((i:Int)*2).toNat=i*2 by omega]
    have D7:ap0e7.den E=(i:Int)+1:=by show E.i 20+1=_;rw [h20']
    have D9:ap0e9.den E=E0.i 1 - 1:=by show E.i 1 - 1=_;rw [q1]
    have D11:ap0e11.den E=(i:Int) - 1:=by show E.i 20 - 1=_;rw [h20']
    have D21:ap0e21.den E=E0.a 0 ((i - 1)*2+1)∨i=0:=by
     rcases Nat.eq_zero_or_pos i with h|h
     ·exact .inr h
     ·left
      show E.a 0 ((E.i 20 - 1)*2+1).toNat=_
      rw [qa,h20',show (((i:Int) - 1)*2+1).toNat=(i - 1)*2+1 by omega]
    have D21':0≤ap0e21.den E∧ap0e21.den E≤1000:=by
     have key: ∀m,m<n*2→0≤E0.a 0 m∧E0.a 0 m≤1000:=fun m hm=>by
      obtain ⟨j,rfl|rfl⟩: ∃j,m=j*2∨m=j*2+1:=⟨m/2,by omega⟩
      ·have:=hr.lo j (by omega);have:=hr.hi j (by omega);have:=hr.le j (by omega);omega
      ·have:=hr.lo j (by omega);have:=hr.hi j (by omega);have:=hr.le j (by omega);omega
     show 0≤E.a 0 ((E.i 20 - 1)*2+1).toNat∧E.a 0 ((E.i 20 - 1)*2+1).toNat≤1000
     rw [qa,h20']
     exact key _ (by omega)
    have D20:0<i→ap0e20.den E=E0.a 0 ((i - 1)*2+1)+1:=fun h=>by
     show IntKind.i64.wrap ((if ((E.i 20 - 1)*2+1).toNat=(E.i 20*2).toNat then E.i 1 else E.a 0 ((E.i 20 - 1)*2+1).toNat)+1)=_
     have hb:=D21'
     rw [D21.resolve_right (by omega)] at hb
     rw [if_neg (by omega),qa,h20',show (((i:Int) - 1)*2+1).toNat=(i - 1)*2+1 by omega]
     exact wrap_id (by simp [IntKind.min,IntKind.max,IntKind.bits,IntKind.signed];omega)
    have D22:ap0e22.den E=E0.i 1+1:=by show E.i 1+1=_;rw [q1]
    have D8: ∀j,ap0e8.den E j=upd (E0.a 0) (i*2+1) (E0.i 1) j:=fun j=>by
     show (if j=(E.i 20*2+1).toNat then E.i 1 else E.a 0 j)=_
     rw [h20',show ((i:Int)*2+1).toNat=i*2+1 by omega,qa,q1];rfl
    have D10: ∀j,ap0e10.den E j=upd (E0.a 0) (i*2) (E0.i 1) j:=fun j=>by
     show (if j=(E.i 20*2).toNat then E.i 1 else E.a 0 j)=_
     rw [h20',show ((i:Int)*2).toNat=i*2 by omega,qa,q1];rfl
    have D16:0<i→ ∀j,ap0e16.den E j=del2 (upd (upd (E0.a 0) (i*2) (E0.i 1)) ((i - 1)*2+1) (E0.a 0 (i*2+1))) i 1 j:=fun h0 j=>by
     show E.fn.a 4 [.a (ap0e14.den E),.i (E.i 20),.i (E.i 20+1 - E.i 20)] j=_
     rw [hE]
     show del2 (ap0e14.den E) (E.i 20).toNat (E.i 20+1 - E.i 20).toNat j=_
     have e14:ap0e14.den E=upd (upd (E0.a 0) (i*2) (E0.i 1)) ((i - 1)*2+1) (E0.a 0 (i*2+1)):=by
      funext m
      show (if m=((E.i 20 - 1)*2+1).toNat then ap0e4.den E else ap0e10.den E m)=_
      rw [D4,D10,h20',show (((i:Int) - 1)*2+1).toNat=(i - 1)*2+1 by omega];rfl
     rw [e14,h20',show ((i:Int)+1 - (i:Int)).toNat=1 by omega];rfl
    have D17:ap0e17.den E=(n:Int) - 1:=by
     show E.i 0 - (E.i 20+1 - E.i 20)=_
     rw [hnE];omega
    have D24:ap0e24.den E=ins2 (E0.a 0) n (i+1) (E0.i 1) (E0.i 1):=by
     show E.fn.a 2 [.a (fun j=>E.a 0 j),.i (E.i 0),.i (E.i 20+1),.a (ap0e23.den E)]=_
     rw [hE]
     show ins2 (fun j=>E.a 0 j) (E.i 0).toNat (E.i 20+1).toNat (E.i 1) (E.i 1)=_
     rw [hnE,h20',qa,q1];rfl
    have D25:ap0e25.den E=(n:Int)+1:=by show E.i 0+1=_;rw [hnE]
    have hl:=hr.le i hi
    rcases hx with rfl|rfl|rfl|rfl|rfl|rfl|rfl|rfl|rfl|rfl|rfl|rfl|rfl|rfl|rfl|rfl|rfl|rfl|rfl|rfl|rfl|rfl|rfl|rfl|rfl|rfl
    ·intro hf
     simp only [facts_cons,facts_nil,le_t,le_f,lt_t,lt_f,eq_t,eq_f,d_v,d_c,D4,D5,D7,D9,D11,D22,h20',hnE,q1,and_true] at hf
     obtain ⟨s1,s2,s3⟩:=st_dup (p:=E0.i 1) hr hi hle (by omega) (by omega)
     exact ⟨rfl,fin _ _ _ (by rw [s1];rfl) (by rw [s2];exact hnE) (fun j _=>by rw [s3,←qa];rfl)⟩
    ·intro hf
     simp only [facts_cons,facts_nil,le_t,le_f,lt_t,lt_f,eq_t,eq_f,d_v,d_c,D4,D5,D7,D9,D11,D22,h20',hnE,q1,and_true] at hf
     obtain ⟨s1,s2,s3⟩:=st_end (p:=E0.i 1) hr hi hle (by omega)
     exact ⟨rfl,fin _ _ _ (by rw [s1];rfl) (by rw [s2];exact hnE) (fun j _=>by rw [s3];exact D8 j)⟩
    ·intro hf
     simp only [facts_cons,facts_nil,le_t,le_f,lt_t,lt_f,eq_t,eq_f,d_v,d_c,D4,D5,D7,D9,D11,D22,h20',hnE,q1,and_true] at hf
     have h0:0<i:=by omega
     have hm:E0.a 0 ((i - 1)*2+1)+1=E0.i 1:=by rw [←D20 h0];omega
     obtain ⟨s1,s2,s3⟩:=st_merge (p:=E0.i 1) hr hi hle (by omega) h0 hm
     exact ⟨rfl,fin _ _ _ (by rw [s1];rfl) (by rw [s2,D17];omega) (fun j _=>by rw [s3];exact D16 h0 j)⟩
    ·intro hf
     simp only [facts_cons,facts_nil,le_t,le_f,lt_t,lt_f,eq_t,eq_f,d_v,d_c,D4,D5,D7,D9,D11,D22,h20',hnE,q1,and_true] at hf
     omega
    ·intro hf
     simp only [facts_cons,facts_nil,le_t,le_f,lt_t,lt_f,eq_t,eq_f,d_v,d_c,D4,D5,D7,D9,D11,D22,h20',hnE,q1,and_true] at hf
     omega
    ·intro hf
     simp only [facts_cons,facts_nil,le_t,le_f,lt_t,lt_f,eq_t,eq_f,d_v,d_c,D4,D5,D7,D9,D11,D22,h20',hnE,q1,and_true] at hf
     have hm: ¬ (0<i∧E0.a 0 ((i - 1)*2+1)+1=E0.i 1):=fun h=>by have:=D20 h.1;omega
     obtain ⟨s1,s2,s3⟩:=st_start (p:=E0.i 1) hr hi hle (by omega) hm
     exact ⟨rfl,fin _ _ _ (by rw [s1];rfl) (by rw [s2];exact hnE) (fun j _=>by rw [s3];exact D10 j)⟩
    ·intro hf
     simp only [facts_cons,facts_nil,le_t,le_f,lt_t,lt_f,eq_t,eq_f,d_v,d_c,D4,D5,D7,D9,D11,D22,h20',hnE,q1,and_true] at hf
     omega
    ·intro hf
     simp only [facts_cons,facts_nil,le_t,le_f,lt_t,lt_f,eq_t,eq_f,d_v,d_c,D4,D5,D7,D9,D11,D22,h20',hnE,q1,and_true] at hf
     have hm: ¬ (0<i∧E0.a 0 ((i - 1)*2+1)+1=E0.i 1):=fun h=>by have:=D20 h.1;omega
     obtain ⟨s1,s2,s3⟩:=st_start (p:=E0.i 1) hr hi hle (by omega) hm
     exact ⟨rfl,fin _ _ _ (by rw [s1];rfl) (by rw [s2];exact hnE) (fun j _=>by rw [s3];exact D10 j)⟩
    ·intro hf
     simp only [facts_cons,facts_nil,le_t,le_f,lt_t,lt_f,eq_t,eq_f,d_v,d_c,D4,D5,D7,D9,D11,D22,h20',hnE,q1,and_true] at hf
     omega
    ·intro hf
     simp only [facts_cons,facts_nil,le_t,le_f,lt_t,lt_f,eq_t,eq_f,d_v,d_c,D4,D5,D7,D9,D11,D22,h20',hnE,q1,and_true] at hf
     omega
    ·intro hf
     simp only [facts_cons,facts_nil,le_t,le_f,lt_t,lt_f,eq_t,eq_f,d_v,d_c,D4,D5,D7,D9,D11,D22,h20',hnE,q1,and_true] at hf
     obtain ⟨s1,s2,s3⟩:=st_ins (p:=E0.i 1) hr hi hle (by omega) (by omega) (by omega)
     exact ⟨rfl,fin _ _ _ (by rw [s1];rfl) (by rw [s2,D25];omega) (fun j _=>by rw [s3,D24])⟩
    ·intro hf
     simp only [facts_cons,facts_nil,le_t,le_f,lt_t,lt_f,eq_t,eq_f,d_v,d_c,D4,D5,D7,D9,D11,D22,h20',hnE,q1,and_true] at hf
     omega
    ·intro hf
     simp only [facts_cons,facts_nil,le_t,le_f,lt_t,lt_f,eq_t,eq_f,d_v,d_c,D4,D5,D7,D9,D11,D22,h20',hnE,q1,and_true] at hf
     refine ⟨⟨_,rfl,.inr ⟨rfl,rfl⟩⟩,fun o=>⟨⟨i,hS.put _ o,?_,by rw [hnt];exact k_dn hle (by omega),by omega,by omega⟩,fun b hb=>?_⟩⟩
     ·show E.i 20 - 1=_
      omega
     ·obtain rfl:=Option.some.inj hb
      show (E.i 20 - 1+1).toNat<(E.i 20+1).toNat
      omega
    ·intro hf
     simp only [facts_cons,facts_nil,le_t,le_f,lt_t,lt_f,eq_t,eq_f,d_v,d_c,D4,D5,D7,D9,D11,D22,h20',hnE,q1,and_true] at hf
     obtain ⟨s1,s2,s3⟩:=st_end (p:=E0.i 1) hr hi hle (by omega)
     exact ⟨rfl,fin _ _ _ (by rw [s1];rfl) (by rw [s2];exact hnE) (fun j _=>by rw [s3];exact D8 j)⟩
    ·intro hf
     simp only [facts_cons,facts_nil,le_t,le_f,lt_t,lt_f,eq_t,eq_f,d_v,d_c,D4,D5,D7,D9,D11,D22,h20',hnE,q1,and_true] at hf
     have h0:0<i:=by omega
     have hm:E0.a 0 ((i - 1)*2+1)+1=E0.i 1:=by rw [←D20 h0];omega
     obtain ⟨s1,s2,s3⟩:=st_merge (p:=E0.i 1) hr hi hle (by omega) h0 hm
     exact ⟨rfl,fin _ _ _ (by rw [s1];rfl) (by rw [s2,D17];omega) (fun j _=>by rw [s3];exact D16 h0 j)⟩
    ·intro hf
     simp only [facts_cons,facts_nil,le_t,le_f,lt_t,lt_f,eq_t,eq_f,d_v,d_c,D4,D5,D7,D9,D11,D22,h20',hnE,q1,and_true] at hf
     omega
    ·intro hf
     simp only [facts_cons,facts_nil,le_t,le_f,lt_t,lt_f,eq_t,eq_f,d_v,d_c,D4,D5,D7,D9,D11,D22,h20',hnE,q1,and_true] at hf
     omega
    ·intro hf
     simp only [facts_cons,facts_nil,le_t,le_f,lt_t,lt_f,eq_t,eq_f,d_v,d_c,D4,D5,D7,D9,D11,D22,h20',hnE,q1,and_true] at hf
     have hm: ¬ (0<i∧E0.a 0 ((i - 1)*2+1)+1=E0.i 1):=fun h=>by have:=D20 h.1;omega
     obtain ⟨s1,s2,s3⟩:=st_start (p:=E0.i 1) hr hi hle (by omega) hm
     exact ⟨rfl,fin _ _ _ (by rw [s1];rfl) (by rw [s2];exact hnE) (fun j _=>by rw [s3];exact D10 j)⟩
    ·intro hf
     simp only [facts_cons,facts_nil,le_t,le_f,lt_t,lt_f,eq_t,eq_f,d_v,d_c,D4,D5,D7,D9,D11,D22,h20',hnE,q1,and_true] at hf
     omega
    ·intro hf
     simp only [facts_cons,facts_nil,le_t,le_f,lt_t,lt_f,eq_t,eq_f,d_v,d_c,D4,D5,D7,D9,D11,D22,h20',hnE,q1,and_true] at hf
     have hm: ¬ (0<i∧E0.a 0 ((i - 1)*2+1)+1=E0.i 1):=fun h=>by have:=D20 h.1;omega
     obtain ⟨s1,s2,s3⟩:=st_start (p:=E0.i 1) hr hi hle (by omega) hm
     exact ⟨rfl,fin _ _ _ (by rw [s1];rfl) (by rw [s2];exact hnE) (fun j _=>by rw [s3];exact D10 j)⟩
    ·intro hf
     simp only [facts_cons,facts_nil,le_t,le_f,lt_t,lt_f,eq_t,eq_f,d_v,d_c,D4,D5,D7,D9,D11,D22,h20',hnE,q1,and_true] at hf
     omega
    ·intro hf
     simp only [facts_cons,facts_nil,le_t,le_f,lt_t,lt_f,eq_t,eq_f,d_v,d_c,D4,D5,D7,D9,D11,D22,h20',hnE,q1,and_true] at hf
     omega
    ·intro hf
     simp only [facts_cons,facts_nil,le_t,le_f,lt_t,lt_f,eq_t,eq_f,d_v,d_c,D4,D5,D7,D9,D11,D22,h20',hnE,q1,and_true] at hf
     obtain ⟨s1,s2,s3⟩:=st_ins (p:=E0.i 1) hr hi hle (by omega) (by omega) (by omega)
     exact ⟨rfl,fin _ _ _ (by rw [s1];rfl) (by rw [s2,D25];omega) (fun j _=>by rw [s3,D24])⟩
    ·intro hf
     simp only [facts_cons,facts_nil,le_t,le_f,lt_t,lt_f,eq_t,eq_f,d_v,d_c,D4,D5,D7,D9,D11,D22,h20',hnE,q1,and_true] at hf
     omega
    ·intro hf
     simp only [facts_cons,facts_nil,le_t,le_f,lt_t,lt_f,eq_t,eq_f,d_v,d_c,D4,D5,D7,D9,D11,D22,h20',hnE,q1,and_true] at hf
     refine ⟨⟨_,rfl,.inr ⟨rfl,rfl⟩⟩,fun o=>⟨⟨i,hS.put _ o,?_,by rw [hnt];exact k_dn hle (by omega),by omega,by omega⟩,fun b hb=>?_⟩⟩
     ·show E.i 20 - 1=_
      omega
     ·obtain rfl:=Option.some.inj hb
      show (E.i 20 - 1+1).toNat<(E.i 20+1).toNat
      omega
    ·intro hf
     simp only [facts_cons,facts_nil,le_t,le_f,lt_t,lt_f,eq_t,eq_f,d_v,d_c,D4,D5,D7,D9,D11,D22,h20',hnE,q1,and_true] at hf
     omega
theorem ct50a_ok:CtOk Try.prog fns (ct50 true):=ct50_of true
theorem ct50k_ok:CtOk Try.prog fns (ct50 false):=ct50_of false
noncomputable def h39aae0:SE:= .sub (.v 0) (.c 1)
noncomputable def h39aax0:Vl:= .out 0 [.i (.v 6) (.v 6),.a (.v 0) (.v 0) (.v 0) 2,.i (.v 0) (.v 0)] [((.lt (.v 1) (.v 6)),true),((.le (.c 0) (.v 0)),true),((.le (.v 0) (.c 60)),true),((.le (.c 0) (.v 1)),true),((.le (.v 1) (.c 400)),true),((.ap 1 (.a (.v 0) (.i (.v 0) .nil))),true)]
noncomputable def h39aax1:Vl:= .go 0 [(20,h39aae0)] [] [] [((.lt (.v 1) (.v 6)),false),((.le (.c 0) (.v 0)),true),((.le (.v 0) (.c 60)),true),((.le (.c 0) (.v 1)),true),((.le (.v 1) (.c 400)),true),((.ap 1 (.a (.v 0) (.i (.v 0) .nil))),true)] (.code (.loop (loopB (prm39 Try.prog).P 39 4))) (loopK (prm39 Try.prog).P 39 4)
noncomputable def h39aals:List Vl:=[h39aax0,h39aax1]
noncomputable def h39ap0e0:SE:= .mul (.v 20) (.c 2)
noncomputable def h39ap0e1:SE:= .add h39ap0e0 (.c 1)
noncomputable def h39ap0e2:SE:= .rd (.v 0) h39ap0e1
noncomputable def h39ap0e3:SE:= .rd (.v 0) h39ap0e0
noncomputable def h39ap0e4:SE:= .sub (.v 20) (.c 1)
noncomputable def h39ap0x0:Vl:= .out 1 [.b (.c false) (.ap 6 (.a (.v 0) (.i (.v 0) (.i (.v 1) .nil)))),.i (.v 6) (.v 6),.a (.v 0) (.v 0) (.v 0) 2,.i (.v 0) (.v 0)] [((.lt h39ap0e2 (.v 1)),true),((.le (.c 0) (.v 20)),true),((.le (.c 0) (.v 0)),true),((.le (.v 0) (.c 60)),true),((.le (.c 0) (.v 1)),true),((.le (.v 1) (.c 400)),true),((.ap 1 (.a (.v 0) (.i (.v 0) .nil))),true),((.le (.c (-1)) (.v 20)),true),((.le (.v 20) (.c 59)),true),((.lt (.v 20) (.v 0)),true),((.lt (.v 1) (.v 6)),false)]
noncomputable def h39ap0x1:Vl:= .out 1 [.b (.c true) (.ap 6 (.a (.v 0) (.i (.v 0) (.i (.v 1) .nil)))),.i (.v 6) (.v 6),.a (.v 0) (.v 0) (.v 0) 2,.i (.v 0) (.v 0)] [((.le h39ap0e3 (.v 1)),true),((.le (.v 1) h39ap0e2),true),((.lt h39ap0e2 (.v 1)),false),((.le (.c 0) (.v 20)),true),((.le (.c 0) (.v 0)),true),((.le (.v 0) (.c 60)),true),((.le (.c 0) (.v 1)),true),((.le (.v 1) (.c 400)),true),((.ap 1 (.a (.v 0) (.i (.v 0) .nil))),true),((.le (.c (-1)) (.v 20)),true),((.le (.v 20) (.c 59)),true),((.lt (.v 20) (.v 0)),true),((.lt (.v 1) (.v 6)),false)]
noncomputable def h39ap0x2:Vl:= .go 0 [(20,h39ap0e4)] [] [] [((.le h39ap0e3 (.v 1)),false),((.le (.v 1) h39ap0e2),true),((.lt h39ap0e2 (.v 1)),false),((.le (.c 0) (.v 20)),true),((.le (.c 0) (.v 0)),true),((.le (.v 0) (.c 60)),true),((.le (.c 0) (.v 1)),true),((.le (.v 1) (.c 400)),true),((.ap 1 (.a (.v 0) (.i (.v 0) .nil))),true),((.le (.c (-1)) (.v 20)),true),((.le (.v 20) (.c 59)),true),((.lt (.v 20) (.v 0)),true),((.lt (.v 1) (.v 6)),false)] (.exit .normal) (.loop (loopB (prm39 Try.prog).P 39 4)::loopK (prm39 Try.prog).P 39 4)
noncomputable def h39ap0x3:Vl:= .go 0 [(20,h39ap0e4)] [] [] [((.le (.v 1) h39ap0e2),false),((.lt h39ap0e2 (.v 1)),false),((.le (.c 0) (.v 20)),true),((.le (.c 0) (.v 0)),true),((.le (.v 0) (.c 60)),true),((.le (.c 0) (.v 1)),true),((.le (.v 1) (.c 400)),true),((.ap 1 (.a (.v 0) (.i (.v 0) .nil))),true),((.le (.c (-1)) (.v 20)),true),((.le (.v 20) (.c 59)),true),((.lt (.v 20) (.v 0)),true),((.lt (.v 1) (.v 6)),false)] (.exit .normal) (.loop (loopB (prm39 Try.prog).P 39 4)::loopK (prm39 Try.prog).P 39 4)
noncomputable def h39ap0x4:Vl:= .out 1 [.b (.c false) (.ap 6 (.a (.v 0) (.i (.v 0) (.i (.v 1) .nil)))),.i (.v 6) (.v 6),.a (.v 0) (.v 0) (.v 0) 2,.i (.v 0) (.v 0)] [((.le (.c 0) (.v 20)),false),((.le (.c 0) (.v 0)),true),((.le (.v 0) (.c 60)),true),((.le (.c 0) (.v 1)),true),((.le (.v 1) (.c 400)),true),((.ap 1 (.a (.v 0) (.i (.v 0) .nil))),true),((.le (.c (-1)) (.v 20)),true),((.le (.v 20) (.c 59)),true),((.lt (.v 20) (.v 0)),true),((.lt (.v 1) (.v 6)),false)]
noncomputable def h39ap0ls:List Vl:=[h39ap0x0,h39ap0x1,h39ap0x2,h39ap0x3,h39ap0x4]
theorem h39ap0run {z:Bool}:(run (prm39 Try.prog) 900 (ptD (pts39 Try.prog z) 0 39)).map (vOf (prm39 Try.prog) (ct39 z) (pts39 Try.prog z))=h39ap0ls:=by cases z<;>kernel_rfl
noncomputable def h40aae0:AE:= .ap 3 (.a (.v 0) (.i (.v 0) (.i (.v 1) .nil)))
noncomputable def h40aae1:SE:= .ap 3 (.a (.v 0) (.i (.v 0) (.i (.v 1) .nil)))
noncomputable def h40aae2:SE:= .sub h40aae1 (.c 64)
noncomputable def h40aae3:SE:= .wrap .i64 h40aae2
noncomputable def h40aae4:AE:= .ap 4 (.a h40aae0 (.i (.c 0) (.i h40aae3 .nil)))
noncomputable def h40aae5:SE:= .sub h40aae1 h40aae3
noncomputable def h40aae6:SE:= .add (.v 0) (.c 1)
noncomputable def h40aax0:Vl:= .out 0 [.b (.ap 3 (.a (.v 0) (.i (.v 0) (.i (.v 1) .nil)))) (.c true),.i (.v 6) (.v 6),.a h40aae4 h40aae0 h40aae1 2,.i h40aae5 h40aae1] [((.le h40aae3 h40aae1),true),((.le h40aae1 (.c 1000)),true),((.lt (.c 64) h40aae1),true),((.le (.c 1) h40aae1),true),((.le h40aae1 h40aae6),true),((.ap 1 (.a h40aae0 (.i h40aae1 .nil))),true),((.le (.c 0) (.v 0)),true),((.le (.v 0) (.c 60)),true),((.le (.c 0) (.v 1)),true),((.le (.v 1) (.c 400)),true),((.ap 1 (.a (.v 0) (.i (.v 0) .nil))),true),((.lt (.v 1) (.v 6)),false),((.ap 6 (.a (.v 0) (.i (.v 0) (.i (.v 1) .nil)))),false)]
noncomputable def h40aax1:Vl:= .dead [((.le h40aae3 h40aae1),false),((.le h40aae1 (.c 1000)),true),((.lt (.c 64) h40aae1),true),((.le (.c 1) h40aae1),true),((.le h40aae1 h40aae6),true),((.ap 1 (.a h40aae0 (.i h40aae1 .nil))),true),((.le (.c 0) (.v 0)),true),((.le (.v 0) (.c 60)),true),((.le (.c 0) (.v 1)),true),((.le (.v 1) (.c 400)),true),((.ap 1 (.a (.v 0) (.i (.v 0) .nil))),true),((.lt (.v 1) (.v 6)),false),((.ap 6 (.a (.v 0) (.i (.v 0) (.i (.v 1) .nil)))),false)]
noncomputable def h40aax2:Vl:= .dead [((.le h40aae1 (.c 1000)),false),((.lt (.c 64) h40aae1),true),((.le (.c 1) h40aae1),true),((.le h40aae1 h40aae6),true),((.ap 1 (.a h40aae0 (.i h40aae1 .nil))),true),((.le (.c 0) (.v 0)),true),((.le (.v 0) (.c 60)),true),((.le (.c 0) (.v 1)),true),((.le (.v 1) (.c 400)),true),((.ap 1 (.a (.v 0) (.i (.v 0) .nil))),true),((.lt (.v 1) (.v 6)),false),((.ap 6 (.a (.v 0) (.i (.v 0) (.i (.v 1) .nil)))),false)]
noncomputable def h40aax3:Vl:= .out 0 [.b (.ap 3 (.a (.v 0) (.i (.v 0) (.i (.v 1) .nil)))) (.c true),.i (.v 6) (.v 6),.a h40aae0 h40aae0 h40aae1 2,.i h40aae1 h40aae1] [((.lt (.c 64) h40aae1),false),((.le (.c 1) h40aae1),true),((.le h40aae1 h40aae6),true),((.ap 1 (.a h40aae0 (.i h40aae1 .nil))),true),((.le (.c 0) (.v 0)),true),((.le (.v 0) (.c 60)),true),((.le (.c 0) (.v 1)),true),((.le (.v 1) (.c 400)),true),((.ap 1 (.a (.v 0) (.i (.v 0) .nil))),true),((.lt (.v 1) (.v 6)),false),((.ap 6 (.a (.v 0) (.i (.v 0) (.i (.v 1) .nil)))),false)]
noncomputable def h40aals:List Vl:=[h40aax0,h40aax1,h40aax2,h40aax3]
noncomputable def h61aae0:SE:= .sub (.v 0) (.c 1)
noncomputable def h61aae1:SE:= .mul h61aae0 (.c 2)
noncomputable def h61aae2:SE:= .add h61aae1 (.c 1)
noncomputable def h61aae3:SE:= .rd (.v 0) h61aae2
noncomputable def h61aae4:SE:= .mn h61aae3 (.v 1)
noncomputable def h61aae5:SE:= .ap 7 (.a (.v 0) (.i (.v 0) (.i (.v 1) (.i (.v 6) .nil))))
noncomputable def h61aax0:Vl:= .go 0 [(20,h61aae0),(21,h61aae4)] [] [] [((.lt h61aae0 (.v 0)),true),((.le h61aae3 (.c 1000)),true),((.le (.c 0) h61aae3),true),((.eq (.v 6) (.c (-1))),true),((.le (.c 1) (.v 0)),true),((.le (.v 0) (.c 61)),true),((.le (.c (-1)) (.v 1)),true),((.le (.v 1) (.c 400)),true),((.le (.c (-1)) (.v 6)),true),((.le (.v 6) (.c 1000)),true),((.ap 1 (.a (.v 0) (.i (.v 0) .nil))),true)] (.code (.loop (loopB (prm61 Try.prog).P 61 5))) (loopK (prm61 Try.prog).P 61 5)
noncomputable def h61aax1:Vl:= .dead [((.lt h61aae0 (.v 0)),false),((.le h61aae3 (.c 1000)),true),((.le (.c 0) h61aae3),true),((.eq (.v 6) (.c (-1))),true),((.le (.c 1) (.v 0)),true),((.le (.v 0) (.c 61)),true),((.le (.c (-1)) (.v 1)),true),((.le (.v 1) (.c 400)),true),((.le (.c (-1)) (.v 6)),true),((.le (.v 6) (.c 1000)),true),((.ap 1 (.a (.v 0) (.i (.v 0) .nil))),true)]
noncomputable def h61aax2:Vl:= .dead [((.le h61aae3 (.c 1000)),false),((.le (.c 0) h61aae3),true),((.eq (.v 6) (.c (-1))),true),((.le (.c 1) (.v 0)),true),((.le (.v 0) (.c 61)),true),((.le (.c (-1)) (.v 1)),true),((.le (.v 1) (.c 400)),true),((.le (.c (-1)) (.v 6)),true),((.le (.v 6) (.c 1000)),true),((.ap 1 (.a (.v 0) (.i (.v 0) .nil))),true)]
noncomputable def h61aax3:Vl:= .dead [((.le (.c 0) h61aae3),false),((.eq (.v 6) (.c (-1))),true),((.le (.c 1) (.v 0)),true),((.le (.v 0) (.c 61)),true),((.le (.c (-1)) (.v 1)),true),((.le (.v 1) (.c 400)),true),((.le (.c (-1)) (.v 6)),true),((.le (.v 6) (.c 1000)),true),((.ap 1 (.a (.v 0) (.i (.v 0) .nil))),true)]
noncomputable def h61aax4:Vl:= .out 0 [.i (.c (-1)) h61aae5,.i (.v 6) (.v 6),.a (.v 0) (.v 0) (.v 0) 2,.i (.v 0) (.v 0)] [((.lt (.v 1) (.v 6)),true),((.eq (.v 6) (.c (-1))),false),((.le (.c 1) (.v 0)),true),((.le (.v 0) (.c 61)),true),((.le (.c (-1)) (.v 1)),true),((.le (.v 1) (.c 400)),true),((.le (.c (-1)) (.v 6)),true),((.le (.v 6) (.c 1000)),true),((.ap 1 (.a (.v 0) (.i (.v 0) .nil))),true)]
noncomputable def h61aax5:Vl:= .go 0 [(20,h61aae0),(21,h61aae4)] [] [] [((.lt h61aae0 (.v 0)),true),((.le h61aae3 (.c 1000)),true),((.le (.c 0) h61aae3),true),((.lt (.v 1) (.v 6)),false),((.eq (.v 6) (.c (-1))),false),((.le (.c 1) (.v 0)),true),((.le (.v 0) (.c 61)),true),((.le (.c (-1)) (.v 1)),true),((.le (.v 1) (.c 400)),true),((.le (.c (-1)) (.v 6)),true),((.le (.v 6) (.c 1000)),true),((.ap 1 (.a (.v 0) (.i (.v 0) .nil))),true)] (.code (.loop (loopB (prm61 Try.prog).P 61 5))) (loopK (prm61 Try.prog).P 61 5)
noncomputable def h61aax6:Vl:= .dead [((.lt h61aae0 (.v 0)),false),((.le h61aae3 (.c 1000)),true),((.le (.c 0) h61aae3),true),((.lt (.v 1) (.v 6)),false),((.eq (.v 6) (.c (-1))),false),((.le (.c 1) (.v 0)),true),((.le (.v 0) (.c 61)),true),((.le (.c (-1)) (.v 1)),true),((.le (.v 1) (.c 400)),true),((.le (.c (-1)) (.v 6)),true),((.le (.v 6) (.c 1000)),true),((.ap 1 (.a (.v 0) (.i (.v 0) .nil))),true)]
noncomputable def h61aax7:Vl:= .dead [((.le h61aae3 (.c 1000)),false),((.le (.c 0) h61aae3),true),((.lt (.v 1) (.v 6)),false),((.eq (.v 6) (.c (-1))),false),((.le (.c 1) (.v 0)),true),((.le (.v 0) (.c 61)),true),((.le (.c (-1)) (.v 1)),true),((.le (.v 1) (.c 400)),true),((.le (.c (-1)) (.v 6)),true),((.le (.v 6) (.c 1000)),true),((.ap 1 (.a (.v 0) (.i (.v 0) .nil))),true)]
noncomputable def h61aax8:Vl:= .dead [((.le (.c 0) h61aae3),false),((.lt (.v 1) (.v 6)),false),((.eq (.v 6) (.c (-1))),false),((.le (.c 1) (.v 0)),true),((.le (.v 0) (.c 61)),true),((.le (.c (-1)) (.v 1)),true),((.le (.v 1) (.c 400)),true),((.le (.c (-1)) (.v 6)),true),((.le (.v 6) (.c 1000)),true),((.ap 1 (.a (.v 0) (.i (.v 0) .nil))),true)]
noncomputable def h61aals:List Vl:=[h61aax0,h61aax1,h61aax2,h61aax3,h61aax4,h61aax5,h61aax6,h61aax7,h61aax8]
noncomputable def h61ap0e0:SE:= .mul (.v 20) (.c 2)
noncomputable def h61ap0e1:SE:= .rd (.v 0) h61ap0e0
noncomputable def h61ap0e2:SE:= .sub h61ap0e1 (.c 1)
noncomputable def h61ap0e3:SE:= .ap 7 (.a (.v 0) (.i (.v 0) (.i (.v 1) (.i (.v 6) .nil))))
noncomputable def h61ap0e4:SE:= .add h61ap0e0 (.c 1)
noncomputable def h61ap0e5:SE:= .rd (.v 0) h61ap0e4
noncomputable def h61ap0e6:SE:= .sub (.v 20) (.c 1)
noncomputable def h61ap0e7:SE:= .mul h61ap0e6 (.c 2)
noncomputable def h61ap0e8:SE:= .add h61ap0e7 (.c 1)
noncomputable def h61ap0e9:SE:= .rd (.v 0) h61ap0e8
noncomputable def h61ap0x0:Vl:= .out 0 [.i h61ap0e2 h61ap0e3,.i (.v 6) (.v 6),.a (.v 0) (.v 0) (.v 0) 2,.i (.v 0) (.v 0)] [((.eq (.v 6) (.c (-1))),true),((.le h61ap0e1 (.c 1000)),true),((.le (.c 0) h61ap0e1),true),((.le (.v 21) h61ap0e5),true),((.le h61ap0e1 (.v 21)),true),((.le (.c 0) (.v 20)),true),((.le (.c 1) (.v 0)),true),((.le (.v 0) (.c 61)),true),((.le (.c (-1)) (.v 1)),true),((.le (.v 1) (.c 400)),true),((.le (.c (-1)) (.v 6)),true),((.le (.v 6) (.c 1000)),true),((.ap 1 (.a (.v 0) (.i (.v 0) .nil))),true),((.le (.c (-1)) (.v 20)),true),((.le (.v 20) (.c 60)),true),((.lt (.v 20) (.v 0)),true),((.le (.c (-1)) (.v 21)),true),((.le (.v 21) (.c 1000)),true)]
noncomputable def h61ap0x1:Vl:= .out 0 [.i (.c (-1)) h61ap0e3,.i (.v 6) (.v 6),.a (.v 0) (.v 0) (.v 0) 2,.i (.v 0) (.v 0)] [((.lt h61ap0e2 (.v 6)),true),((.eq (.v 6) (.c (-1))),false),((.le h61ap0e1 (.c 1000)),true),((.le (.c 0) h61ap0e1),true),((.le (.v 21) h61ap0e5),true),((.le h61ap0e1 (.v 21)),true),((.le (.c 0) (.v 20)),true),((.le (.c 1) (.v 0)),true),((.le (.v 0) (.c 61)),true),((.le (.c (-1)) (.v 1)),true),((.le (.v 1) (.c 400)),true),((.le (.c (-1)) (.v 6)),true),((.le (.v 6) (.c 1000)),true),((.ap 1 (.a (.v 0) (.i (.v 0) .nil))),true),((.le (.c (-1)) (.v 20)),true),((.le (.v 20) (.c 60)),true),((.lt (.v 20) (.v 0)),true),((.le (.c (-1)) (.v 21)),true),((.le (.v 21) (.c 1000)),true)]
noncomputable def h61ap0x2:Vl:= .out 0 [.i h61ap0e2 h61ap0e3,.i (.v 6) (.v 6),.a (.v 0) (.v 0) (.v 0) 2,.i (.v 0) (.v 0)] [((.lt h61ap0e2 (.v 6)),false),((.eq (.v 6) (.c (-1))),false),((.le h61ap0e1 (.c 1000)),true),((.le (.c 0) h61ap0e1),true),((.le (.v 21) h61ap0e5),true),((.le h61ap0e1 (.v 21)),true),((.le (.c 0) (.v 20)),true),((.le (.c 1) (.v 0)),true),((.le (.v 0) (.c 61)),true),((.le (.c (-1)) (.v 1)),true),((.le (.v 1) (.c 400)),true),((.le (.c (-1)) (.v 6)),true),((.le (.v 6) (.c 1000)),true),((.ap 1 (.a (.v 0) (.i (.v 0) .nil))),true),((.le (.c (-1)) (.v 20)),true),((.le (.v 20) (.c 60)),true),((.lt (.v 20) (.v 0)),true),((.le (.c (-1)) (.v 21)),true),((.le (.v 21) (.c 1000)),true)]
noncomputable def h61ap0x3:Vl:= .dead [((.le h61ap0e1 (.c 1000)),false),((.le (.c 0) h61ap0e1),true),((.le (.v 21) h61ap0e5),true),((.le h61ap0e1 (.v 21)),true),((.le (.c 0) (.v 20)),true),((.le (.c 1) (.v 0)),true),((.le (.v 0) (.c 61)),true),((.le (.c (-1)) (.v 1)),true),((.le (.v 1) (.c 400)),true),((.le (.c (-1)) (.v 6)),true),((.le (.v 6) (.c 1000)),true),((.ap 1 (.a (.v 0) (.i (.v 0) .nil))),true),((.le (.c (-1)) (.v 20)),true),((.le (.v 20) (.c 60)),true),((.lt (.v 20) (.v 0)),true),((.le (.c (-1)) (.v 21)),true),((.le (.v 21) (.c 1000)),true)]
noncomputable def h61ap0x4:Vl:= .dead [((.le (.c 0) h61ap0e1),false),((.le (.v 21) h61ap0e5),true),((.le h61ap0e1 (.v 21)),true),((.le (.c 0) (.v 20)),true),((.le (.c 1) (.v 0)),true),((.le (.v 0) (.c 61)),true),((.le (.c (-1)) (.v 1)),true),((.le (.v 1) (.c 400)),true),((.le (.c (-1)) (.v 6)),true),((.le (.v 6) (.c 1000)),true),((.ap 1 (.a (.v 0) (.i (.v 0) .nil))),true),((.le (.c (-1)) (.v 20)),true),((.le (.v 20) (.c 60)),true),((.lt (.v 20) (.v 0)),true),((.le (.c (-1)) (.v 21)),true),((.le (.v 21) (.c 1000)),true)]
noncomputable def h61ap0x5:Vl:= .out 0 [.i (.v 21) h61ap0e3,.i (.v 6) (.v 6),.a (.v 0) (.v 0) (.v 0) 2,.i (.v 0) (.v 0)] [((.le (.v 21) h61ap0e1),true),((.lt h61ap0e9 (.v 21)),true),((.lt h61ap0e6 (.v 0)),true),((.le (.c 1) (.v 20)),true),((.le (.v 21) h61ap0e5),false),((.le h61ap0e1 (.v 21)),true),((.le (.c 0) (.v 20)),true),((.le (.c 1) (.v 0)),true),((.le (.v 0) (.c 61)),true),((.le (.c (-1)) (.v 1)),true),((.le (.v 1) (.c 400)),true),((.le (.c (-1)) (.v 6)),true),((.le (.v 6) (.c 1000)),true),((.ap 1 (.a (.v 0) (.i (.v 0) .nil))),true),((.le (.c (-1)) (.v 20)),true),((.le (.v 20) (.c 60)),true),((.lt (.v 20) (.v 0)),true),((.le (.c (-1)) (.v 21)),true),((.le (.v 21) (.c 1000)),true)]
noncomputable def h61ap0x6:Vl:= .go 0 [(20,h61ap0e6)] [] [] [((.le (.v 21) h61ap0e1),false),((.lt h61ap0e9 (.v 21)),true),((.lt h61ap0e6 (.v 0)),true),((.le (.c 1) (.v 20)),true),((.le (.v 21) h61ap0e5),false),((.le h61ap0e1 (.v 21)),true),((.le (.c 0) (.v 20)),true),((.le (.c 1) (.v 0)),true),((.le (.v 0) (.c 61)),true),((.le (.c (-1)) (.v 1)),true),((.le (.v 1) (.c 400)),true),((.le (.c (-1)) (.v 6)),true),((.le (.v 6) (.c 1000)),true),((.ap 1 (.a (.v 0) (.i (.v 0) .nil))),true),((.le (.c (-1)) (.v 20)),true),((.le (.v 20) (.c 60)),true),((.lt (.v 20) (.v 0)),true),((.le (.c (-1)) (.v 21)),true),((.le (.v 21) (.c 1000)),true)] (.exit .normal) (.loop (loopB (prm61 Try.prog).P 61 5)::loopK (prm61 Try.prog).P 61 5)
noncomputable def h61ap0x7:Vl:= .go 0 [(20,h61ap0e6)] [] [] [((.lt h61ap0e9 (.v 21)),false),((.lt h61ap0e6 (.v 0)),true),((.le (.c 1) (.v 20)),true),((.le (.v 21) h61ap0e5),false),((.le h61ap0e1 (.v 21)),true),((.le (.c 0) (.v 20)),true),((.le (.c 1) (.v 0)),true),((.le (.v 0) (.c 61)),true),((.le (.c (-1)) (.v 1)),true),((.le (.v 1) (.c 400)),true),((.le (.c (-1)) (.v 6)),true),((.le (.v 6) (.c 1000)),true),((.ap 1 (.a (.v 0) (.i (.v 0) .nil))),true),((.le (.c (-1)) (.v 20)),true),((.le (.v 20) (.c 60)),true),((.lt (.v 20) (.v 0)),true),((.le (.c (-1)) (.v 21)),true),((.le (.v 21) (.c 1000)),true)] (.exit .normal) (.loop (loopB (prm61 Try.prog).P 61 5)::loopK (prm61 Try.prog).P 61 5)
noncomputable def h61ap0x8:Vl:= .dead [((.lt h61ap0e6 (.v 0)),false),((.le (.c 1) (.v 20)),true),((.le (.v 21) h61ap0e5),false),((.le h61ap0e1 (.v 21)),true),((.le (.c 0) (.v 20)),true),((.le (.c 1) (.v 0)),true),((.le (.v 0) (.c 61)),true),((.le (.c (-1)) (.v 1)),true),((.le (.v 1) (.c 400)),true),((.le (.c (-1)) (.v 6)),true),((.le (.v 6) (.c 1000)),true),((.ap 1 (.a (.v 0) (.i (.v 0) .nil))),true),((.le (.c (-1)) (.v 20)),true),((.le (.v 20) (.c 60)),true),((.lt (.v 20) (.v 0)),true),((.le (.c (-1)) (.v 21)),true),((.le (.v 21) (.c 1000)),true)]
noncomputable def h61ap0x9:Vl:= .go 0 [(20,h61ap0e6)] [] [] [((.le (.c 1) (.v 20)),false),((.le (.v 21) h61ap0e5),false),((.le h61ap0e1 (.v 21)),true),((.le (.c 0) (.v 20)),true),((.le (.c 1) (.v 0)),true),((.le (.v 0) (.c 61)),true),((.le (.c (-1)) (.v 1)),true),((.le (.v 1) (.c 400)),true),((.le (.c (-1)) (.v 6)),true),((.le (.v 6) (.c 1000)),true),((.ap 1 (.a (.v 0) (.i (.v 0) .nil))),true),((.le (.c (-1)) (.v 20)),true),((.le (.v 20) (.c 60)),true),((.lt (.v 20) (.v 0)),true),((.le (.c (-1)) (.v 21)),true),((.le (.v 21) (.c 1000)),true)] (.exit .normal) (.loop (loopB (prm61 Try.prog).P 61 5)::loopK (prm61 Try.prog).P 61 5)
noncomputable def h61ap0x10:Vl:= .out 0 [.i (.v 21) h61ap0e3,.i (.v 6) (.v 6),.a (.v 0) (.v 0) (.v 0) 2,.i (.v 0) (.v 0)] [((.le (.v 21) h61ap0e1),true),((.lt h61ap0e9 (.v 21)),true),((.lt h61ap0e6 (.v 0)),true),((.le (.c 1) (.v 20)),true),((.le h61ap0e1 (.v 21)),false),((.le (.c 0) (.v 20)),true),((.le (.c 1) (.v 0)),true),((.le (.v 0) (.c 61)),true),((.le (.c (-1)) (.v 1)),true),((.le (.v 1) (.c 400)),true),((.le (.c (-1)) (.v 6)),true),((.le (.v 6) (.c 1000)),true),((.ap 1 (.a (.v 0) (.i (.v 0) .nil))),true),((.le (.c (-1)) (.v 20)),true),((.le (.v 20) (.c 60)),true),((.lt (.v 20) (.v 0)),true),((.le (.c (-1)) (.v 21)),true),((.le (.v 21) (.c 1000)),true)]
noncomputable def h61ap0x11:Vl:= .go 0 [(20,h61ap0e6)] [] [] [((.le (.v 21) h61ap0e1),false),((.lt h61ap0e9 (.v 21)),true),((.lt h61ap0e6 (.v 0)),true),((.le (.c 1) (.v 20)),true),((.le h61ap0e1 (.v 21)),false),((.le (.c 0) (.v 20)),true),((.le (.c 1) (.v 0)),true),((.le (.v 0) (.c 61)),true),((.le (.c (-1)) (.v 1)),true),((.le (.v 1) (.c 400)),true),((.le (.c (-1)) (.v 6)),true),((.le (.v 6) (.c 1000)),true),((.ap 1 (.a (.v 0) (.i (.v 0) .nil))),true),((.le (.c (-1)) (.v 20)),true),((.le (.v 20) (.c 60)),true),((.lt (.v 20) (.v 0)),true),((.le (.c (-1)) (.v 21)),true),((.le (.v 21) (.c 1000)),true)] (.exit .normal) (.loop (loopB (prm61 Try.prog).P 61 5)::loopK (prm61 Try.prog).P 61 5)
noncomputable def h61ap0x12:Vl:= .go 0 [(20,h61ap0e6)] [] [] [((.lt h61ap0e9 (.v 21)),false),((.lt h61ap0e6 (.v 0)),true),((.le (.c 1) (.v 20)),true),((.le h61ap0e1 (.v 21)),false),((.le (.c 0) (.v 20)),true),((.le (.c 1) (.v 0)),true),((.le (.v 0) (.c 61)),true),((.le (.c (-1)) (.v 1)),true),((.le (.v 1) (.c 400)),true),((.le (.c (-1)) (.v 6)),true),((.le (.v 6) (.c 1000)),true),((.ap 1 (.a (.v 0) (.i (.v 0) .nil))),true),((.le (.c (-1)) (.v 20)),true),((.le (.v 20) (.c 60)),true),((.lt (.v 20) (.v 0)),true),((.le (.c (-1)) (.v 21)),true),((.le (.v 21) (.c 1000)),true)] (.exit .normal) (.loop (loopB (prm61 Try.prog).P 61 5)::loopK (prm61 Try.prog).P 61 5)
noncomputable def h61ap0x13:Vl:= .dead [((.lt h61ap0e6 (.v 0)),false),((.le (.c 1) (.v 20)),true),((.le h61ap0e1 (.v 21)),false),((.le (.c 0) (.v 20)),true),((.le (.c 1) (.v 0)),true),((.le (.v 0) (.c 61)),true),((.le (.c (-1)) (.v 1)),true),((.le (.v 1) (.c 400)),true),((.le (.c (-1)) (.v 6)),true),((.le (.v 6) (.c 1000)),true),((.ap 1 (.a (.v 0) (.i (.v 0) .nil))),true),((.le (.c (-1)) (.v 20)),true),((.le (.v 20) (.c 60)),true),((.lt (.v 20) (.v 0)),true),((.le (.c (-1)) (.v 21)),true),((.le (.v 21) (.c 1000)),true)]
noncomputable def h61ap0x14:Vl:= .go 0 [(20,h61ap0e6)] [] [] [((.le (.c 1) (.v 20)),false),((.le h61ap0e1 (.v 21)),false),((.le (.c 0) (.v 20)),true),((.le (.c 1) (.v 0)),true),((.le (.v 0) (.c 61)),true),((.le (.c (-1)) (.v 1)),true),((.le (.v 1) (.c 400)),true),((.le (.c (-1)) (.v 6)),true),((.le (.v 6) (.c 1000)),true),((.ap 1 (.a (.v 0) (.i (.v 0) .nil))),true),((.le (.c (-1)) (.v 20)),true),((.le (.v 20) (.c 60)),true),((.lt (.v 20) (.v 0)),true),((.le (.c (-1)) (.v 21)),true),((.le (.v 21) (.c 1000)),true)] (.exit .normal) (.loop (loopB (prm61 Try.prog).P 61 5)::loopK (prm61 Try.prog).P 61 5)
noncomputable def h61ap0x15:Vl:= .out 0 [.i (.v 21) h61ap0e3,.i (.v 6) (.v 6),.a (.v 0) (.v 0) (.v 0) 2,.i (.v 0) (.v 0)] [((.le (.c 0) (.v 20)),false),((.le (.c 1) (.v 0)),true),((.le (.v 0) (.c 61)),true),((.le (.c (-1)) (.v 1)),true),((.le (.v 1) (.c 400)),true),((.le (.c (-1)) (.v 6)),true),((.le (.v 6) (.c 1000)),true),((.ap 1 (.a (.v 0) (.i (.v 0) .nil))),true),((.le (.c (-1)) (.v 20)),true),((.le (.v 20) (.c 60)),true),((.lt (.v 20) (.v 0)),true),((.le (.c (-1)) (.v 21)),true),((.le (.v 21) (.c 1000)),true)]
noncomputable def h61ap0ls:List Vl:=[h61ap0x0,h61ap0x1,h61ap0x2,h61ap0x3,h61ap0x4,h61ap0x5,h61ap0x6,h61ap0x7,h61ap0x8,h61ap0x9,h61ap0x10,h61ap0x11,h61ap0x12,h61ap0x13,h61ap0x14,h61ap0x15]
theorem h61ap0run:(run (prm61 Try.prog) 900 (ptD (pts61 Try.prog true) 0 61)).map (vOf (prm61 Try.prog) (ct61 true) (pts61 Try.prog true))=h61ap0ls:=by kernel_rfl
theorem prm39_ok (E:Env) (hE:E.fn=fns):PrmOk E (prm39 Try.prog):=prm_ok E hE (by intro c hc;cases hc) (by intro b hb;cases hb)
theorem prm61_ok (E:Env) (hE:E.fn=fns):PrmOk E (prm61 Try.prog):=prm_ok E hE (by intro c hc;cases hc) (by intro b hb;cases hb)
theorem prm40a_ok (E:Env) (hE:E.fn=fns):PrmOk E (prm40 Try.prog true):=prm_ok E hE (by
 intro c hc
 simp only [List.mem_cons,List.not_mem_nil,or_false] at hc
 rcases hc with rfl|rfl
 ·exact ct50a_ok
 ·exact ct51_ok) (by intro b hb;cases hb)
theorem prm40k_ok (E:Env) (hE:E.fn=fns):PrmOk E (prm40 Try.prog false):=prm_ok E hE (by
 intro c hc
 simp only [List.mem_cons,List.not_mem_nil,or_false] at hc
 rcases hc with rfl|rfl
 ·exact ct50k_ok
 ·exact ct51_ok) (by intro b hb;cases hb)
theorem mem_den {E:Env} (hE:E.fn=fns) {n:Nat} (hn:E.i 0=n):(SB.ap 6 (.a (.v 0) (.i (.v 0) (.i (.v 1) .nil)))).den E=(open Classical in decide (Mem (E.a 0) n (E.i 1))):=by
 simp only [SB.den,SL.den,AE.den,SE.den,hE]
 show @decide (Mem (fun j=>E.a 0 j) (E.i 0).toNat (E.i 1)) (Classical.propDecidable _)=_
 rw [hn];rfl
theorem mem_f {E:Env} (hE:E.fn=fns) {n:Nat} (hn:E.i 0=n) (h:(SB.ap 6 (.a (.v 0) (.i (.v 0) (.i (.v 1) .nil)))).den E=false): ¬Mem (E.a 0) n (E.i 1):=by
 rw [mem_den hE hn] at h
 exact @of_decide_eq_false _ (Classical.propDecidable _) h
theorem mem_no {A:Nat→Int} {n k:Nat} {p:Int} (hr:Rg A n) (hk:k≤n) (up:k<n→p<A (k*2)) (lo:0<k→A ((k - 1)*2+1)<p): ¬Mem A n p:=by
 rintro ⟨j,hj,h1,h2⟩
 rcases Nat.lt_or_ge j k with h|h
 ·have hl:=lo (by omega)
  rcases Nat.lt_or_ge j (k - 1) with h3|h3
  ·have:=hr.gap j (k - 1) h3 (by omega);have:=hr.le (k - 1) (by omega);omega
  ·have:j=k - 1:=by omega
   subst this;omega
 ·have hu:=up (by omega)
  rcases Nat.lt_or_ge k j with h3|h3
  ·have:=hr.gap k j h3 hj;have:=hr.le k (by omega);omega
  ·have:j=k:=by omega
   subst this;omega
structure I39 (n:Nat) (E0 E:Env) (k:Nat):Prop where
 s:Sm 20 E0 E
 i20:E.i 20=(k:Int) - 1
 kn:k≤n
 up:k<n→E0.i 1<E0.a 0 (k*2)
 db: ¬E0.i 1<E0.i 6
theorem hm_den {E:Env} (hE:E.fn=fns) {n:Nat} (hn:E.i 0=n):(ct61.hmE (.v 0) (.v 0) (.v 1) (.v 6)).den E=hm (E.a 0) n (E.i 1) (E.i 6):=by
 simp only [ct61.hmE,SL.den,AE.den,SE.den,hE]
 show hm (fun j=>E.a 0 j) (E.i 0).toNat (E.i 1) (E.i 6)=_
 rw [hn];rfl
structure Sm2 (E0 E:Env):Prop where
 i: ∀k,k≠20→k≠21→E.i k=E0.i k
 b:E.b=E0.b
 a:E.a=E0.a
structure I61 (n:Nat) (E0 E:Env) (k:Nat):Prop where
 s:Sm2 E0 E
 i20:E.i 20=(k:Int) - 1
 i21:E.i 21=min (E0.a 0 ((n - 1)*2+1)) (E0.i 1)
 kn:k≤n
 db: ¬ (E0.i 6≠ -1∧E0.i 1<E0.i 6)
 eq:hmR (E0.a 0) (E.i 21) (E0.i 6) n=hmR (E0.a 0) (E.i 21) (E0.i 6) k
theorem pre61 {E0:Env} {s:Bool} (hE:E0.fn=fns) (hF:Facts E0 (ct61 s).pre): ∃n:Nat,E0.i 0=n∧1≤n∧n≤61∧(-1≤E0.i 1∧E0.i 1≤400)∧(-1≤E0.i 6∧E0.i 6≤1000)∧Rg (E0.a 0) n:=by
 have hF':Facts E0 [((.le (.c 1) (.v 0)),true),((.le (.v 0) (.c 61)),true),((.le (.c (-1)) (.v 1)),true),((.le (.v 1) (.c 400)),true),((.le (.c (-1)) (.v 6)),true),((.le (.v 6) (.c 1000)),true),rgF (.v 0) (.v 0)]:=hF
 have h:=rg_of hE (.v 0) (.v 0) (hF' (rgF (.v 0) (.v 0)) (by simp))
 simp only [facts_cons,facts_nil,le_t,d_c,d_v,and_true,rgF] at hF'
 obtain ⟨a,b,c,d,e,f,g⟩:=hF'
 refine ⟨(E0.i 0).toNat,by omega,by omega,by omega,⟨c,d⟩,⟨e,f⟩,?_⟩
 have h2:Rg (E0.a 0) (E0.i 0).toNat:=h
 exact h2
theorem rg_at {A:Nat→Int} {n:Nat} (hr:Rg A n): ∀m,m<n*2→0≤A m∧A m≤1000:=fun m hm=>by
 obtain ⟨j,rfl|rfl⟩: ∃j,m=j*2∨m=j*2+1:=⟨m/2,by omega⟩
 ·have:=hr.lo j (by omega);have:=hr.hi j (by omega);have:=hr.le j (by omega);omega
 ·have:=hr.lo j (by omega);have:=hr.hi j (by omega);have:=hr.le j (by omega);omega
theorem keep39 {E0 E:Env} (h: ∀k,k≠20→k≠21→E.i k=E0.i k) (hb:E.b=E0.b) (ha:E.a=E0.a): ∀q∈([.i (.v 6) (.v 6),.a (.v 0) (.v 0) (.v 0) 2,.i (.v 0) (.v 0)]:List Eqn),q.ok E E0:=by
 simp only [List.forall_mem_cons,List.not_mem_nil,false_imp_iff,implies_true,and_true,true_and,Eqn.ok]
 refine ⟨h 6 (by decide) (by decide),fun j _=>?_,h 0 (by decide) (by decide)⟩
 show E.a 0 j=E0.a 0 j
 rw [ha]
theorem ct39_of (z:Bool):CtOk Try.prog fns (ct39 z):=by
 refine ct_of_pts (p:=prm39 Try.prog) (pts:=pts39 Try.prog z) (n:=900) (c0:=enterD (prm39 Try.prog) (ct39 z)) (fun E hE=>prm39_ok E hE) rfl (by intro q hq;cases hq) Try.func39 (by cases z<;>kernel_rfl) ?_ (fun E0 _ E=> ∃k,I39 (E0.i 0).toNat E0 E k) (fun E0 _ E=>(E.i 20+1).toNat) h39aals (by cases z<;>kernel_rfl) ?_ ?_
 ·intro t ht
  simp only [pts39,List.mem_cons,List.not_mem_nil,or_false] at ht
  subst ht
  exact (by cases z<;>exact ⟨by kernel_rfl,by decide⟩)
 ·intro E hE hF
  obtain ⟨n,hn,hn60,p0,p1,hr⟩:=pre50 (s:=true) hE hF
  have hnt:(E.i 0).toNat=n:=by omega
  refine ⟨fun a ha=>?_,fun x hx=>?_⟩
  ·simp only [ct39,altSel] at ha
   split at ha
   ·obtain rfl:=Option.some.inj ha;intro q hq;cases hq
   ·obtain rfl:=Option.some.inj ha;intro q hq;cases hq
  ·unfold h39aals at hx
   simp only [List.mem_cons,List.not_mem_nil,or_false] at hx
   rcases hx with rfl|rfl
   ·intro hf
    have h0:=hf (SB.lt (.v 1) (.v 6),true) (by simp)
    refine ⟨by simp only [ct39,altSel,h0,if_true,List.getElem?_cons_zero],keep39 (fun _ _ _=>rfl) rfl rfl⟩
   ·intro hf
    have h0:=hf (SB.lt (.v 1) (.v 6),false) (by simp)
    simp only [lt_f,d_v] at h0
    refine ⟨⟨_,rfl,.inl ⟨rfl,rfl⟩⟩,fun o=>⟨⟨n,(Sm.refl 20 E).put _ o,?_,by omega,fun h=>by omega,by omega⟩,fun b hb=>by cases hb⟩⟩
    show E.i 0 - 1=_
    omega
 ·intro kk t ht
  have hk:kk=0:=by
   have:=(List.getElem?_eq_some_iff.1 ht).1
   simp [pts39] at this;omega
  subst hk
  refine ⟨h39ap0ls,by rw [←ptD_some ht (ct39 z).g];exact h39ap0run,fun E0 E hE0 hE hF0 ⟨k,hI⟩=>?_⟩
  obtain ⟨n,hn,hn60,p0,p1,hr⟩:=pre50 (s:=true) hE0 hF0
  have hnt:(E0.i 0).toNat=n:=by omega
  rw [hnt] at hI
  obtain ⟨hS,h20,hkn,hup,hdb⟩:=hI
  have dM:=mem_den hE0 hn
  have q0:=hS.i 0 (by decide);have q1:=hS.i 1 (by decide);have q6:=hS.i 6 (by decide)
  have qa:E.a 0=E0.a 0:=by rw [hS.a]
  have hnE:E.i 0=n:=q0.trans hn
  refine ⟨?_,fun x hx=>?_⟩
  ·obtain rfl:=Option.some.inj ht
   show Facts E ([((.le (.c 0) (.v 0)),true),((.le (.v 0) (.c 60)),true),((.le (.c 0) (.v 1)),true),((.le (.v 1) (.c 400)),true),((rgF (.v 0) (.v 0)).1,true),((.le (.c (-1)) (.v 20)),true),((.le (.v 20) (.c 59)),true),((.lt (.v 20) (.v 0)),true),((.lt (.v 1) (.v 6)),false)])
   have hsr:(rgF (.v 0) (.v 0)).1.den E=true:=of_rg hE (.v 0) (.v 0) (by
    show Rg (fun j=>E.a 0 j) (E.i 0).toNat
    rw [hnE,Int.toNat_natCast,qa];exact hr)
   simp only [facts_cons,facts_nil,le_t,lt_t,lt_f,d_c,d_v,d_add,and_true]
   refine ⟨by omega,by omega,by omega,by omega,hsr,by omega,by omega,by omega,by omega⟩
  ·unfold h39ap0ls at hx
   simp only [List.mem_cons,List.not_mem_nil,or_false] at hx
   have hal:altSel E0 (ct39 z).alts=(ct39 z).alts[1]?:=by
    have h0:(SB.lt (.v 1) (.v 6)).den E0=false:=by simp only [lt_f,d_v];omega
    simp only [ct39,altSel,h0,Bool.false_eq_true,if_false,List.getElem?_cons_succ,List.getElem?_cons_zero]
    rfl
   have fin: ∀B:SB,B.den E=(open Classical in decide (Mem (E0.a 0) n (E0.i 1)))→ ∀q∈(.b B (.ap 6 (.a (.v 0) (.i (.v 0) (.i (.v 1) .nil))))::[.i (.v 6) (.v 6),.a (.v 0) (.v 0) (.v 0) 2,.i (.v 0) (.v 0)]:List Eqn),q.ok E E0:=fun B hB=>by
    rw [List.forall_mem_cons]
    exact ⟨hB.trans dM.symm,keep39 (fun k h1 _=>hS.i k h1) hS.b hS.a⟩
   have h20n:k=0∨ ∃i,k=i+1∧i<n∧E.i 20=i∧h39ap0e2.den E=E0.a 0 (i*2+1)∧h39ap0e3.den E=E0.a 0 (i*2):=by
    rcases Nat.eq_zero_or_pos k with h|h
    ·exact .inl h
    ·refine .inr ⟨k - 1,by omega,by omega,by omega,?_,?_⟩
     ·show E.a 0 (E.i 20*2+1).toNat=_
      rw [qa,show (E.i 20*2+1).toNat=(k - 1)*2+1 by omega]
     ·show E.a 0 (E.i 20*2).toNat=_
      rw [qa,show (E.i 20*2).toNat=(k - 1)*2 by omega]
   have D4:h39ap0e4.den E=E.i 20 - 1:=rfl
   have hno:(0<k→E0.a 0 ((k - 1)*2+1)<E0.i 1)→false=(open Classical in decide (Mem (E0.a 0) n (E0.i 1))):=fun h=>by
    have:=mem_no hr hkn hup h
    simp [this]
   rcases hx with rfl|rfl|rfl|rfl|rfl
   ·intro hf
    rcases h20n with rfl|⟨i,rfl,hi,hi20,e2,e3⟩
    ·have:=hf (SB.le (.c 0) (.v 20),true) (by simp)
     simp only [le_t,d_c,d_v] at this;omega
    ·have h1:=hf (SB.lt h39ap0e2 (.v 1),true) (by simp)
     simp only [lt_t,d_v,e2,q1] at h1
     exact ⟨hal,fin _ (hno fun _=>by simpa using h1)⟩
   ·intro hf
    rcases h20n with rfl|⟨i,rfl,hi,hi20,e2,e3⟩
    ·have:=hf (SB.le (.c 0) (.v 20),true) (by simp)
     simp only [le_t,d_c,d_v] at this;omega
    ·have h1:=hf (SB.le h39ap0e3 (.v 1),true) (by simp)
     have h2:=hf (SB.le (.v 1) h39ap0e2,true) (by simp)
     simp only [le_t,d_v,e2,e3,q1] at h1 h2
     have hm:Mem (E0.a 0) n (E0.i 1):=⟨i,hi,h1,h2⟩
     exact ⟨hal,fin _ (by simp [hm,SB.den])⟩
   ·intro hf
    rcases h20n with rfl|⟨i,rfl,hi,hi20,e2,e3⟩
    ·have:=hf (SB.le (.c 0) (.v 20),true) (by simp)
     simp only [le_t,d_c,d_v] at this;omega
    ·have h1:=hf (SB.le h39ap0e3 (.v 1),false) (by simp)
     simp only [le_f,d_v,e3,q1] at h1
     refine ⟨⟨_,rfl,.inr ⟨rfl,rfl⟩⟩,fun o=>⟨⟨i,hS.put _ o,?_,by omega,fun _=>h1,hdb⟩,fun b hb=>?_⟩⟩
     ·show E.i 20 - 1=_
      omega
     ·obtain rfl:=Option.some.inj hb
      show (E.i 20 - 1+1).toNat<(E.i 20+1).toNat
      omega
   ·intro hf
    have h1:=hf (SB.le (.v 1) h39ap0e2,false) (by simp)
    have h2:=hf (SB.lt h39ap0e2 (.v 1),false) (by simp)
    simp only [le_f,lt_f,d_v] at h1 h2
    omega
   ·intro hf
    have h1:=hf (SB.le (.c 0) (.v 20),false) (by simp)
    simp only [le_f,d_v,d_c] at h1
    exact ⟨hal,fin _ (hno fun h=>by omega)⟩
theorem ct39a_ok:CtOk Try.prog fns (ct39 true):=ct39_of true
theorem ct39k_ok:CtOk Try.prog fns (ct39 false):=ct39_of false
theorem ct40_of (z:Bool):CtOk Try.prog fns (ct40 z):=by
 refine ct_of_pts (p:=prm40 Try.prog z) (pts:=[]) (n:=900) (c0:=enterD (prm40 Try.prog z) (ct40 z)) (fun E hE=>by cases z;exact prm40k_ok E hE;exact prm40a_ok E hE) rfl (by intro q hq;cases hq) Try.func40 (by cases z<;>kernel_rfl) (by intro t ht;cases ht) (fun _ _ _=>True) (fun _ _ _=>0) h40aals (by cases z<;>kernel_rfl) ?_ (by intro i t ht;cases ht)
 intro E hE hF
 obtain ⟨n,hn,hn60,p0,p1,hr⟩:=pre50 (s:=true) hE (fun q hq=>hF q (by
  have hq':q∈(bd (.v 0) 0 60++bd (.v 1) 0 400)++[rgF (.v 0) (.v 0)]:=hq
  rcases List.mem_append.1 hq' with h|h
  ·exact List.mem_append_left _ h
  ·exact List.mem_append_right _ (by simp at h⊢;exact .inl h)))
 have hnt:(E.i 0).toNat=n:=by omega
 obtain ⟨dB,dN,dA,dK⟩:=add_den hE hn
 obtain ⟨k1,k2,k3,k4⟩:=add_ok (p:=E.i 1) hr p0 (by omega)
 have e1:h40aae1.den E=_:=dN
 refine ⟨fun a ha=>?_,fun x hx=>?_⟩
 ·obtain rfl:=Option.some.inj ha;exact ad_facts hE hn p0 (by omega) hr
 ·unfold h40aals at hx
  simp only [List.mem_cons,List.not_mem_nil,or_false] at hx
  rcases hx with rfl|rfl|rfl|rfl
  ·intro hf
   have h1:=hf (SB.lt (.c 64) h40aae1,true) (by simp)
   simp only [lt_t,d_c,e1] at h1
   omega
  ·intro hf
   have h1:=hf (SB.lt (.c 64) h40aae1,true) (by simp)
   simp only [lt_t,d_c,e1] at h1
   omega
  ·intro hf
   have h1:=hf (SB.lt (.c 64) h40aae1,true) (by simp)
   simp only [lt_t,d_c,e1] at h1
   omega
  ·intro hf
   have hM:=hF (memB (.v 0) (.v 0) (.v 1),false) (by simp [ct40])
   have hM2:(SB.ap 6 (.a (.v 0) (.i (.v 0) (.i (.v 1) .nil)))).den E=false:=hM
   have hnm:=mem_f hE hn hM2
   have hB:(b3 3 (.v 0) (.v 0) (.v 1)).den E=true:=by rw [dB];exact k3.2 hnm
   refine ⟨rfl,?_⟩
   simp only [List.forall_mem_cons,List.not_mem_nil,false_imp_iff,implies_true,and_true,true_and,Eqn.ok]
   exact hB
theorem ct61a_ok:CtOk Try.prog fns (ct61 true):=by
 refine ct_of_pts (p:=prm61 Try.prog) (pts:=pts61 Try.prog true) (n:=900) (c0:=enterD (prm61 Try.prog) (ct61 true)) (fun E hE=>prm61_ok E hE) rfl (by intro q hq;cases hq) Try.func61 (by kernel_rfl) ?_ (fun E0 _ E=> ∃k,I61 (E0.i 0).toNat E0 E k) (fun E0 _ E=>(E.i 20+1).toNat) h61aals (by kernel_rfl) ?_ ?_
 ·intro t ht
  simp only [pts61,List.mem_cons,List.not_mem_nil,or_false] at ht
  subst ht
  exact ⟨by kernel_rfl,by decide⟩
 ·intro E hE hF
  obtain ⟨n,hn,hn1,hn60,⟨p0,p1⟩,⟨d0,d1⟩,hr⟩:=pre61 hE hF
  have hnt:(E.i 0).toNat=n:=by omega
  have dH:h61aae5.den E=_:=hm_den hE hn
  have D3:h61aae3.den E=E.a 0 ((n - 1)*2+1):=by
   show E.a 0 ((E.i 0 - 1)*2+1).toNat=_
   rw [show ((E.i 0 - 1)*2+1).toNat=(n - 1)*2+1 by omega]
  have D0:h61aae0.den E=(n:Int) - 1:=by show E.i 0 - 1=_;rw [hn]
  have hb:=rg_at hr ((n - 1)*2+1) (by omega)
  refine ⟨fun a ha=>?_,fun x hx=>?_⟩
  ·obtain rfl:=Option.some.inj ha;intro q hq;cases hq
  ·unfold h61aals at hx
   simp only [List.mem_cons,List.not_mem_nil,or_false] at hx
   have go: ¬ (E.i 6≠ -1∧E.i 1<E.i 6)→ ∀o,I61 (E.i 0).toNat E (E.put [(20,h61aae0),(21,h61aae4)] [] [] o) n:=fun hd o=>by
    rw [hnt]
    refine ⟨⟨fun k h1 h2=>?_,rfl,rfl⟩,D0,?_,Nat.le_refl _,hd,rfl⟩
    ·show (match fnd k [(20,h61aae0),(21,h61aae4)] with|some e=>e.den E|none=>E.i k)=_
     simp only [fnd,if_neg (Ne.symm h1),if_neg (Ne.symm h2)]
    ·show h61aae4.den E=_
     rw [show h61aae4.den E=imn (h61aae3.den E) (E.i 1) from rfl,D3]
     unfold imn;split<;>omega
   have SIMP0:True:=trivial
   rcases hx with rfl|rfl|rfl|rfl|rfl|rfl|rfl|rfl|rfl
   ·intro hf
    have h1:=hf (SB.eq (.v 6) (.c (-1)),true) (by simp)
    simp only [eq_t,d_v,d_c] at h1
    exact ⟨⟨_,rfl,.inl ⟨rfl,rfl⟩⟩,fun o=>⟨⟨n,go (by omega) o⟩,fun b hb=>by cases hb⟩⟩
   ·intro hf
    have h1:=hf (SB.lt h61aae0 (.v 0),false) (by simp)
    simp only [lt_f,d_v,D0,hn] at h1;omega
   ·intro hf
    have h1:=hf (SB.le h61aae3 (.c 1000),false) (by simp)
    simp only [le_f,d_v,d_c,D3] at h1;omega
   ·intro hf
    have h1:=hf (SB.le (.c 0) h61aae3,false) (by simp)
    simp only [le_f,d_v,d_c,D3] at h1;omega
   ·intro hf
    have h1:=hf (SB.eq (.v 6) (.c (-1)),false) (by simp)
    have h2:=hf (SB.lt (.v 1) (.v 6),true) (by simp)
    simp only [eq_f,lt_t,d_v,d_c] at h1 h2
    refine ⟨rfl,?_⟩
    rw [List.forall_mem_cons]
    refine ⟨?_,keep39 (fun _ _ _=>rfl) rfl rfl⟩
    show (-1:Int)=_
    rw [dH];unfold hm
    rw [if_pos (.inr ⟨h1,h2⟩)]
   ·intro hf
    have h1:=hf (SB.lt (.v 1) (.v 6),false) (by simp)
    simp only [lt_f,d_v,d_c] at h1
    exact ⟨⟨_,rfl,.inl ⟨rfl,rfl⟩⟩,fun o=>⟨⟨n,go (by omega) o⟩,fun b hb=>by cases hb⟩⟩
   ·intro hf
    have h1:=hf (SB.lt h61aae0 (.v 0),false) (by simp)
    simp only [lt_f,d_v,D0,hn] at h1;omega
   ·intro hf
    have h1:=hf (SB.le h61aae3 (.c 1000),false) (by simp)
    simp only [le_f,d_v,d_c,D3] at h1;omega
   ·intro hf
    have h1:=hf (SB.le (.c 0) h61aae3,false) (by simp)
    simp only [le_f,d_v,d_c,D3] at h1;omega
 ·intro kk t ht
  have hk:kk=0:=by
   have:=(List.getElem?_eq_some_iff.1 ht).1
   simp [pts61] at this;omega
  subst hk
  refine ⟨h61ap0ls,by rw [←ptD_some ht (ct61 true).g];exact h61ap0run,fun E0 E hE0 hE hF0 ⟨k,hI⟩=>?_⟩
  obtain ⟨n,hn,hn1,hn60,⟨p0,p1⟩,⟨d0,d1⟩,hr⟩:=pre61 hE0 hF0
  have hnt:(E0.i 0).toNat=n:=by omega
  rw [hnt] at hI
  obtain ⟨hS,h20,h21,hkn,hdb,heq⟩:=hI
  have dH:h61ap0e3.den E0=_:=hm_den hE0 hn
  have q0:=hS.i 0 (by decide) (by decide);have q1:=hS.i 1 (by decide) (by decide);have q6:=hS.i 6 (by decide) (by decide)
  have qa:E.a 0=E0.a 0:=by rw [hS.a]
  have hnE:E.i 0=n:=q0.trans hn
  have hbn:=rg_at hr ((n - 1)*2+1) (by omega)
  have hmv:hm (E0.a 0) n (E0.i 1) (E0.i 6)=hmR (E0.a 0) (E.i 21) (E0.i 6) k:=by
   rw [←heq,h21];unfold hm
   rw [if_neg (fun h=>h.elim (fun h=>by omega) hdb)]
  refine ⟨?_,fun x hx=>?_⟩
  ·obtain rfl:=Option.some.inj ht
   show Facts E ([((.le (.c 1) (.v 0)),true),((.le (.v 0) (.c 61)),true),((.le (.c (-1)) (.v 1)),true),((.le (.v 1) (.c 400)),true),((.le (.c (-1)) (.v 6)),true),((.le (.v 6) (.c 1000)),true),((rgF (.v 0) (.v 0)).1,true),((.le (.c (-1)) (.v 20)),true),((.le (.v 20) (.c 60)),true),((.lt (.v 20) (.v 0)),true),((.le (.c (-1)) (.v 21)),true),((.le (.v 21) (.c 1000)),true)])
   have hsr:(rgF (.v 0) (.v 0)).1.den E=true:=of_rg hE (.v 0) (.v 0) (by
    show Rg (fun j=>E.a 0 j) (E.i 0).toNat
    rw [hnE,Int.toNat_natCast,qa];exact hr)
   simp only [facts_cons,facts_nil,le_t,lt_t,lt_f,d_c,d_v,d_add,and_true]
   refine ⟨by omega,by omega,by omega,by omega,by omega,by omega,hsr,by omega,by omega,by omega,by omega,by omega⟩
  ·unfold h61ap0ls at hx
   simp only [List.mem_cons,List.not_mem_nil,or_false] at hx
   have fin: ∀X:SE,X.den E=hmR (E0.a 0) (E.i 21) (E0.i 6) k→ ∀q∈(.i X h61ap0e3::[.i (.v 6) (.v 6),.a (.v 0) (.v 0) (.v 0) 2,.i (.v 0) (.v 0)]:List Eqn),q.ok E E0:=fun B hB=>by
    rw [List.forall_mem_cons]
    exact ⟨by show _=h61ap0e3.den E0;rw [hB,dH,hmv],keep39 (fun k h1 h2=>hS.i k h1 h2) hS.b hS.a⟩
   have nxt: ∀i,k=i+1→hmR (E0.a 0) (E.i 21) (E0.i 6) (i+1)=hmR (E0.a 0) (E.i 21) (E0.i 6) i→ ∀o,I61 n E0 (E.put [(20,h61ap0e6)] [] [] o) i:=fun i hi he o=>by
    refine ⟨⟨fun m h1 h2=>?_,hS.b,hS.a⟩,?_,h21,by omega,hdb,?_⟩
    ·show (match fnd m [(20,h61ap0e6)] with|some e=>e.den E|none=>E.i m)=_
     simp only [fnd,if_neg (Ne.symm h1)];exact hS.i m h1 h2
    ·show E.i 20 - 1=_
     omega
    ·show hmR (E0.a 0) (E.i 21) (E0.i 6) n=hmR (E0.a 0) (E.i 21) (E0.i 6) i
     rw [heq,hi,he]
   rcases Nat.eq_zero_or_pos k with hk0|hk0
   ·subst hk0
    have dead: ∀F:Fx,((.le (.c 0) (.v 20):SB),true)∈F→ ¬Facts E F:=fun F hm hf=>by
     have:=hf _ hm
     simp only [le_t,d_v,d_c] at this
     omega
    rcases hx with rfl|rfl|rfl|rfl|rfl|rfl|rfl|rfl|rfl|rfl|rfl|rfl|rfl|rfl|rfl|rfl
    ·intro hf
     exact absurd hf (dead _ (by simp))
    ·intro hf
     exact absurd hf (dead _ (by simp))
    ·intro hf
     exact absurd hf (dead _ (by simp))
    ·intro hf
     exact absurd hf (dead _ (by simp))
    ·intro hf
     exact absurd hf (dead _ (by simp))
    ·intro hf
     exact absurd hf (dead _ (by simp))
    ·intro hf
     exact absurd hf (dead _ (by simp))
    ·intro hf
     exact absurd hf (dead _ (by simp))
    ·intro hf
     exact absurd hf (dead _ (by simp))
    ·intro hf
     exact absurd hf (dead _ (by simp))
    ·intro hf
     exact absurd hf (dead _ (by simp))
    ·intro hf
     exact absurd hf (dead _ (by simp))
    ·intro hf
     exact absurd hf (dead _ (by simp))
    ·intro hf
     exact absurd hf (dead _ (by simp))
    ·intro hf
     exact absurd hf (dead _ (by simp))
    ·intro hf
     exact ⟨rfl,fin _ rfl⟩
   ·obtain ⟨i,rfl⟩: ∃i,k=i+1:=⟨k - 1,by omega⟩
    have hi:i<n:=by omega
    have h20':E.i 20=(i:Int):=by rw [h20];omega
    have D1:h61ap0e1.den E=E0.a 0 (i*2):=by
     show E.a 0 (E.i 20*2).toNat=_
     rw [qa,show (E.i 20*2).toNat=i*2 by omega]
    have D2:h61ap0e2.den E=E0.a 0 (i*2) - 1:=by show h61ap0e1.den E - 1=_;rw [D1]
    have D5:h61ap0e5.den E=E0.a 0 (i*2+1):=by
     show E.a 0 (E.i 20*2+1).toNat=_
     rw [qa,show (E.i 20*2+1).toNat=i*2+1 by omega]
    have D6:h61ap0e6.den E=(i:Int) - 1:=by show E.i 20 - 1=_;rw [h20']
    have D9:1≤i→h61ap0e9.den E=E0.a 0 ((i - 1)*2+1):=fun h=>by
     show E.a 0 ((E.i 20 - 1)*2+1).toNat=_
     rw [qa,show ((E.i 20 - 1)*2+1).toNat=(i - 1)*2+1 by omega]
    have hb:=rg_at hr (i*2) (by omega)
    have mu: ∀b,some ((E.i 20+1).toNat)=some b→(E.i 20 - 1+1).toNat<b:=fun b hb=>by
     obtain rfl:=Option.some.inj hb;omega
    rcases hx with rfl|rfl|rfl|rfl|rfl|rfl|rfl|rfl|rfl|rfl|rfl|rfl|rfl|rfl|rfl|rfl
    ·intro hf
     simp only [facts_cons,facts_nil,le_t,le_f,lt_t,lt_f,eq_t,eq_f,d_v,d_c,D1,D2,D5,D6,h20',hnE,q1,q6,and_true] at hf
     exact ⟨rfl,fin _ (by rw [D2];simp only [hmR];rw [if_pos (by omega),if_neg (by omega)])⟩
    ·intro hf
     simp only [facts_cons,facts_nil,le_t,le_f,lt_t,lt_f,eq_t,eq_f,d_v,d_c,D1,D2,D5,D6,h20',hnE,q1,q6,and_true] at hf
     exact ⟨rfl,fin _ (by show (-1:Int)=_;simp only [hmR];rw [if_pos (by omega),if_pos (by omega)])⟩
    ·intro hf
     simp only [facts_cons,facts_nil,le_t,le_f,lt_t,lt_f,eq_t,eq_f,d_v,d_c,D1,D2,D5,D6,h20',hnE,q1,q6,and_true] at hf
     exact ⟨rfl,fin _ (by rw [D2];simp only [hmR];rw [if_pos (by omega),if_neg (by omega)])⟩
    ·intro hf
     simp only [facts_cons,facts_nil,le_t,le_f,lt_t,lt_f,eq_t,eq_f,d_v,d_c,D1,D2,D5,D6,h20',hnE,q1,q6,and_true] at hf
     omega
    ·intro hf
     simp only [facts_cons,facts_nil,le_t,le_f,lt_t,lt_f,eq_t,eq_f,d_v,d_c,D1,D2,D5,D6,h20',hnE,q1,q6,and_true] at hf
     omega
    ·intro hf
     simp only [facts_cons,facts_nil,le_t,le_f,lt_t,lt_f,eq_t,eq_f,d_v,d_c,D1,D2,D5,D6,h20',hnE,q1,q6,and_true] at hf
     have h9:=D9 (by omega)
     rw [h9] at hf
     exact ⟨rfl,fin _ (by show E.i 21=_;simp only [hmR];rw [if_neg (by omega),if_pos (by omega)])⟩
    ·intro hf
     simp only [facts_cons,facts_nil,le_t,le_f,lt_t,lt_f,eq_t,eq_f,d_v,d_c,D1,D2,D5,D6,h20',hnE,q1,q6,and_true] at hf
     have h9:=D9 (by omega)
     rw [h9] at hf
     exact ⟨⟨_,rfl,.inr ⟨rfl,rfl⟩⟩,fun o=>⟨⟨i,by rw [hnt];exact nxt i rfl (by simp only [hmR];rw [if_neg (by omega),if_neg (by omega)]) o⟩,mu⟩⟩
    ·intro hf
     simp only [facts_cons,facts_nil,le_t,le_f,lt_t,lt_f,eq_t,eq_f,d_v,d_c,D1,D2,D5,D6,h20',hnE,q1,q6,and_true] at hf
     have h9:=D9 (by omega)
     rw [h9] at hf
     exact ⟨⟨_,rfl,.inr ⟨rfl,rfl⟩⟩,fun o=>⟨⟨i,by rw [hnt];exact nxt i rfl (by simp only [hmR];rw [if_neg (by omega),if_neg (by omega)]) o⟩,mu⟩⟩
    ·intro hf
     simp only [facts_cons,facts_nil,le_t,le_f,lt_t,lt_f,eq_t,eq_f,d_v,d_c,D1,D2,D5,D6,h20',hnE,q1,q6,and_true] at hf
     omega
    ·intro hf
     simp only [facts_cons,facts_nil,le_t,le_f,lt_t,lt_f,eq_t,eq_f,d_v,d_c,D1,D2,D5,D6,h20',hnE,q1,q6,and_true] at hf
     exact ⟨⟨_,rfl,.inr ⟨rfl,rfl⟩⟩,fun o=>⟨⟨i,by rw [hnt];exact nxt i rfl (by simp only [hmR];rw [if_neg (by omega),if_neg (by omega)]) o⟩,mu⟩⟩
    ·intro hf
     simp only [facts_cons,facts_nil,le_t,le_f,lt_t,lt_f,eq_t,eq_f,d_v,d_c,D1,D2,D5,D6,h20',hnE,q1,q6,and_true] at hf
     have h9:=D9 (by omega)
     rw [h9] at hf
     exact ⟨rfl,fin _ (by show E.i 21=_;simp only [hmR];rw [if_neg (by omega),if_pos (by omega)])⟩
    ·intro hf
     simp only [facts_cons,facts_nil,le_t,le_f,lt_t,lt_f,eq_t,eq_f,d_v,d_c,D1,D2,D5,D6,h20',hnE,q1,q6,and_true] at hf
     have h9:=D9 (by omega)
     rw [h9] at hf
     exact ⟨⟨_,rfl,.inr ⟨rfl,rfl⟩⟩,fun o=>⟨⟨i,by rw [hnt];exact nxt i rfl (by simp only [hmR];rw [if_neg (by omega),if_neg (by omega)]) o⟩,mu⟩⟩
    ·intro hf
     simp only [facts_cons,facts_nil,le_t,le_f,lt_t,lt_f,eq_t,eq_f,d_v,d_c,D1,D2,D5,D6,h20',hnE,q1,q6,and_true] at hf
     have h9:=D9 (by omega)
     rw [h9] at hf
     exact ⟨⟨_,rfl,.inr ⟨rfl,rfl⟩⟩,fun o=>⟨⟨i,by rw [hnt];exact nxt i rfl (by simp only [hmR];rw [if_neg (by omega),if_neg (by omega)]) o⟩,mu⟩⟩
    ·intro hf
     simp only [facts_cons,facts_nil,le_t,le_f,lt_t,lt_f,eq_t,eq_f,d_v,d_c,D1,D2,D5,D6,h20',hnE,q1,q6,and_true] at hf
     omega
    ·intro hf
     simp only [facts_cons,facts_nil,le_t,le_f,lt_t,lt_f,eq_t,eq_f,d_v,d_c,D1,D2,D5,D6,h20',hnE,q1,q6,and_true] at hf
     exact ⟨⟨_,rfl,.inr ⟨rfl,rfl⟩⟩,fun o=>⟨⟨i,by rw [hnt];exact nxt i rfl (by simp only [hmR];rw [if_neg (by omega),if_neg (by omega)]) o⟩,mu⟩⟩
    ·intro hf
     simp only [facts_cons,facts_nil,le_t,le_f,lt_t,lt_f,eq_t,eq_f,d_v,d_c,D1,D2,D5,D6,h20',hnE,q1,q6,and_true] at hf
     omega
noncomputable def h59ax0:Vl:= .go 0 [(21,(.v 40)),(20,(.c 0))] [] [] [((.le (.c 1) (.v 40)),true),((.le (.v 40) (.c 61)),true),((.ap 2 (.a (.v 2) (.i (.v 40) .nil))),true)] (.code (.loop (loopB (prm59 Try.prog).P 59 2))) (loopK (prm59 Try.prog).P 59 2)
noncomputable def h59als:List Vl:=[h59ax0]
noncomputable def h59p0e0:SE:= .add (.v 20) (.v 21)
noncomputable def h59p0e1:SE:= .shr .u64 h59p0e0 (.c 1)
noncomputable def h59p0e2:SE:= .wrap .i64 h59p0e1
noncomputable def h59p0e3:SE:= .mul h59p0e2 (.c 2)
noncomputable def h59p0e4:SE:= .rd (.v 2) h59p0e3
noncomputable def h59p0e5:SE:= .add h59p0e2 (.c 1)
noncomputable def h59p0e6:SE:= .wrap .i64 h59p0e5
noncomputable def h59p0e7:SE:= .ap 9 (.a (.v 2) (.i (.v 40) (.i (.v 1) .nil)))
noncomputable def h59p0x0:Vl:= .go 0 [(21,h59p0e2)] [] [] [((.le h59p0e4 (.v 1)),true),((.lt h59p0e2 (.v 40)),true),((.le (.c 0) h59p0e2),true),((.lt (.v 20) (.v 21)),true),((.le (.c 1) (.v 40)),true),((.le (.v 40) (.c 61)),true),((.ap 2 (.a (.v 2) (.i (.v 40) .nil))),true),((.le (.c 0) (.v 20)),true),((.le (.v 20) (.c 61)),true),((.le (.c 0) (.v 21)),true),((.le (.v 21) (.c 61)),true),((.le (.v 20) (.v 21)),true),((.le (.v 21) (.v 40)),true)] (.exit .normal) (.loop (loopB (prm59 Try.prog).P 59 2)::loopK (prm59 Try.prog).P 59 2)
noncomputable def h59p0x1:Vl:= .go 0 [(20,h59p0e6)] [] [] [((.le h59p0e4 (.v 1)),false),((.lt h59p0e2 (.v 40)),true),((.le (.c 0) h59p0e2),true),((.lt (.v 20) (.v 21)),true),((.le (.c 1) (.v 40)),true),((.le (.v 40) (.c 61)),true),((.ap 2 (.a (.v 2) (.i (.v 40) .nil))),true),((.le (.c 0) (.v 20)),true),((.le (.v 20) (.c 61)),true),((.le (.c 0) (.v 21)),true),((.le (.v 21) (.c 61)),true),((.le (.v 20) (.v 21)),true),((.le (.v 21) (.v 40)),true)] (.exit .normal) (.loop (loopB (prm59 Try.prog).P 59 2)::loopK (prm59 Try.prog).P 59 2)
noncomputable def h59p0x2:Vl:= .dead [((.lt h59p0e2 (.v 40)),false),((.le (.c 0) h59p0e2),true),((.lt (.v 20) (.v 21)),true),((.le (.c 1) (.v 40)),true),((.le (.v 40) (.c 61)),true),((.ap 2 (.a (.v 2) (.i (.v 40) .nil))),true),((.le (.c 0) (.v 20)),true),((.le (.v 20) (.c 61)),true),((.le (.c 0) (.v 21)),true),((.le (.v 21) (.c 61)),true),((.le (.v 20) (.v 21)),true),((.le (.v 21) (.v 40)),true)]
noncomputable def h59p0x3:Vl:= .dead [((.le (.c 0) h59p0e2),false),((.lt (.v 20) (.v 21)),true),((.le (.c 1) (.v 40)),true),((.le (.v 40) (.c 61)),true),((.ap 2 (.a (.v 2) (.i (.v 40) .nil))),true),((.le (.c 0) (.v 20)),true),((.le (.v 20) (.c 61)),true),((.le (.c 0) (.v 21)),true),((.le (.v 21) (.c 61)),true),((.le (.v 20) (.v 21)),true),((.le (.v 21) (.v 40)),true)]
noncomputable def h59p0x4:Vl:= .out 0 [.i (.v 20) h59p0e7,.i (.v 41) (.v 41),.i (.v 42) (.v 42),.i (.v 43) (.v 43),.i (.v 44) (.v 44),.a (.v 2) (.v 2) (.v 40) 2,.i (.v 40) (.v 40),.i (.v 1) (.v 1)] [((.lt (.v 20) (.v 21)),false),((.le (.c 1) (.v 40)),true),((.le (.v 40) (.c 61)),true),((.ap 2 (.a (.v 2) (.i (.v 40) .nil))),true),((.le (.c 0) (.v 20)),true),((.le (.v 20) (.c 61)),true),((.le (.c 0) (.v 21)),true),((.le (.v 21) (.c 61)),true),((.le (.v 20) (.v 21)),true),((.le (.v 21) (.v 40)),true)]
noncomputable def h59p0ls:List Vl:=[h59p0x0,h59p0x1,h59p0x2,h59p0x3,h59p0x4]
theorem h59p0run:(run (prm59 Try.prog) 900 (ptD (pts59 Try.prog) 0 59)).map (vOf (prm59 Try.prog) ct59 (pts59 Try.prog))=h59p0ls:=by kernel_rfl
noncomputable def h53ae0:SE:= .sub (.v 40) (.c 1)
noncomputable def h53ae1:SE:= .mul h53ae0 (.c 2)
noncomputable def h53ae2:SE:= .rd (.v 2) h53ae1
noncomputable def h53ae3:SE:= .rd (.v 2) (.c 1)
noncomputable def h53ae4:SE:= .ap 9 (.a (.v 2) (.i (.v 40) (.i (.v 1) .nil)))
noncomputable def h53ae5:SE:= .mul h53ae4 (.c 2)
noncomputable def h53ae6:SE:= .add h53ae5 (.c 1)
noncomputable def h53ae7:SE:= .rd (.v 2) h53ae6
noncomputable def h53ax0:Vl:= .out 0 [.b (.c false) (.ap 7 (.a (.v 2) (.i (.v 40) (.i (.v 1) .nil)))),.i (.v 41) (.v 41),.i (.v 42) (.v 42),.i (.v 43) (.v 43),.i (.v 44) (.v 44),.a (.v 2) (.v 2) (.v 40) 2,.i (.v 40) (.v 40)] [((.lt (.v 1) h53ae2),true),((.lt h53ae0 (.v 40)),true),((.le (.c 1) (.v 40)),true),((.le (.v 40) (.c 61)),true),((.le (.c 0) (.v 1)),true),((.le (.v 1) (.c 400)),true),((.ap 2 (.a (.v 2) (.i (.v 40) .nil))),true)]
noncomputable def h53ax1:Vl:= .out 0 [.b (.c false) (.ap 7 (.a (.v 2) (.i (.v 40) (.i (.v 1) .nil)))),.i (.v 41) (.v 41),.i (.v 42) (.v 42),.i (.v 43) (.v 43),.i (.v 44) (.v 44),.a (.v 2) (.v 2) (.v 40) 2,.i (.v 40) (.v 40)] [((.lt h53ae3 (.v 1)),true),((.lt (.v 1) h53ae2),false),((.lt h53ae0 (.v 40)),true),((.le (.c 1) (.v 40)),true),((.le (.v 40) (.c 61)),true),((.le (.c 0) (.v 1)),true),((.le (.v 1) (.c 400)),true),((.ap 2 (.a (.v 2) (.i (.v 40) .nil))),true)]
noncomputable def h53ax2:Vl:= .out 0 [.b (.le (.v 1) h53ae7) (.ap 7 (.a (.v 2) (.i (.v 40) (.i (.v 1) .nil)))),.i (.v 41) (.v 41),.i (.v 42) (.v 42),.i (.v 43) (.v 43),.i (.v 44) (.v 44),.a (.v 2) (.v 2) (.v 40) 2,.i (.v 40) (.v 40)] [((.lt h53ae4 (.v 40)),true),((.le h53ae4 (.c 60)),true),((.le (.c 0) h53ae4),true),((.lt h53ae3 (.v 1)),false),((.lt (.v 1) h53ae2),false),((.lt h53ae0 (.v 40)),true),((.le (.c 1) (.v 40)),true),((.le (.v 40) (.c 61)),true),((.le (.c 0) (.v 1)),true),((.le (.v 1) (.c 400)),true),((.ap 2 (.a (.v 2) (.i (.v 40) .nil))),true)]
noncomputable def h53ax3:Vl:= .dead [((.lt h53ae4 (.v 40)),false),((.le h53ae4 (.c 60)),true),((.le (.c 0) h53ae4),true),((.lt h53ae3 (.v 1)),false),((.lt (.v 1) h53ae2),false),((.lt h53ae0 (.v 40)),true),((.le (.c 1) (.v 40)),true),((.le (.v 40) (.c 61)),true),((.le (.c 0) (.v 1)),true),((.le (.v 1) (.c 400)),true),((.ap 2 (.a (.v 2) (.i (.v 40) .nil))),true)]
noncomputable def h53ax4:Vl:= .dead [((.le h53ae4 (.c 60)),false),((.le (.c 0) h53ae4),true),((.lt h53ae3 (.v 1)),false),((.lt (.v 1) h53ae2),false),((.lt h53ae0 (.v 40)),true),((.le (.c 1) (.v 40)),true),((.le (.v 40) (.c 61)),true),((.le (.c 0) (.v 1)),true),((.le (.v 1) (.c 400)),true),((.ap 2 (.a (.v 2) (.i (.v 40) .nil))),true)]
noncomputable def h53ax5:Vl:= .dead [((.le (.c 0) h53ae4),false),((.lt h53ae3 (.v 1)),false),((.lt (.v 1) h53ae2),false),((.lt h53ae0 (.v 40)),true),((.le (.c 1) (.v 40)),true),((.le (.v 40) (.c 61)),true),((.le (.c 0) (.v 1)),true),((.le (.v 1) (.c 400)),true),((.ap 2 (.a (.v 2) (.i (.v 40) .nil))),true)]
noncomputable def h53ax6:Vl:= .dead [((.lt h53ae0 (.v 40)),false),((.le (.c 1) (.v 40)),true),((.le (.v 40) (.c 61)),true),((.le (.c 0) (.v 1)),true),((.le (.v 1) (.c 400)),true),((.ap 2 (.a (.v 2) (.i (.v 40) .nil))),true)]
noncomputable def h53als:List Vl:=[h53ax0,h53ax1,h53ax2,h53ax3,h53ax4,h53ax5,h53ax6]
theorem prm59_ok (E:Env) (hE:E.fn=fns):PrmOk E (prm59 Try.prog):=prm_ok E hE (by intro c hc;cases hc) (by intro b hb;cases hb)
theorem rd_of {E:Env} (hE:E.fn=fns) {m:Nat} (hm:E.i 40=m) (h:rdF.1.den E=true):RgD (E.a 2) m:=by
 have e':E.fn.g 2 [.a (fun j=>E.a 2 j),.i (E.i 40)]=true:=h
 rw [hE] at e'
 have e2: @decide (RgD (fun j=>E.a 2 j) (E.i 40).toNat) (Classical.propDecidable _)=true:=e'
 have:= @of_decide_eq_true _ (Classical.propDecidable _) e2
 rw [hm] at this;exact this
theorem of_rd {E:Env} (hE:E.fn=fns) {m:Nat} (hm:E.i 40=m) (h:RgD (E.a 2) m):rdF.1.den E=true:=by
 show E.fn.g 2 [.a (fun j=>E.a 2 j),.i (E.i 40)]=true
 rw [hE]
 show @decide (RgD (fun j=>E.a 2 j) (E.i 40).toNat) (Classical.propDecidable _)=true
 rw [hm]
 exact @decide_eq_true _ (Classical.propDecidable _) h
theorem fi_den {E:Env} (hE:E.fn=fns) {m:Nat} (hm:E.i 40=m):(f3 9 (.v 2) (.v 40) (.v 1)).den E=fiR (E.a 2) (E.i 1) m∧(b3 7 (.v 2) (.v 40) (.v 1)).den E=acks (E.a 2) m (E.i 1):=by
 refine ⟨?_,?_⟩<;>(simp only [f3,b3,SB.den,SE.den,AE.den,SL.den,hE])
 ·show ((fiR (fun j=>E.a 2 j) (E.i 1) (E.i 40).toNat:Nat):Int)=_;rw [hm];rfl
 ·show acks (fun j=>E.a 2 j) (E.i 40).toNat (E.i 1)=_;rw [hm];rfl
theorem pre59 {E0:Env} (hE:E0.fn=fns) (hF:Facts E0 ct59.pre): ∃m:Nat,E0.i 40=m∧1≤m∧m≤61∧RgD (E0.a 2) m:=by
 have h:=hF rdF (by simp [ct59])
 have a:1≤E0.i 40:=of_decide_eq_true (hF (.le (.c 1) (.v 40),true) (by simp [ct59,bd]))
 have b:E0.i 40≤61:=of_decide_eq_true (hF (.le (.v 40) (.c 61),true) (by simp [ct59,bd]))
 exact ⟨(E0.i 40).toNat,by omega,by omega,by omega,rd_of hE (by omega) h⟩
structure I59 (m:Nat) (E0 E:Env) (lo hi:Nat):Prop where
 s:Sm2 E0 E
 i20:E.i 20=(lo:Int)
 i21:E.i 21=(hi:Int)
 lh:lo≤hi
 hm:hi≤m
 h1: ∀j,j<lo→E0.i 1<E0.a 2 (j*2)
 h2:hi<m→E0.a 2 (hi*2)≤E0.i 1
theorem sm2_put {E0 E:Env} (h:Sm2 E0 E) {k:Nat} (hk:k=20∨k=21) (x:SE) (o:Nat→Value):Sm2 E0 (E.put [(k,x)] [] [] o):=by
 refine ⟨fun m h1 h2=>?_,h.b,h.a⟩
 show (match fnd m [(k,x)] with|some e=>e.den E|none=>E.i m)=_
 simp only [fnd,if_neg (show¬k=m by omega)];exact h.i m h1 h2
theorem ct59_ok:CtOk Try.prog fns ct59:=by
 refine ct_of_pts (p:=prm59 Try.prog) (pts:=pts59 Try.prog) (n:=900) (c0:=enterD (prm59 Try.prog) ct59) (fun E hE=>prm59_ok E hE) rfl (by intro q hq;cases hq) Try.func59 (by kernel_rfl) ?_ (fun E0 _ E=> ∃lo hi,I59 (E0.i 40).toNat E0 E lo hi) (fun E0 _ E=>(E.i 21 - E.i 20).toNat) h59als (by kernel_rfl) ?_ ?_
 ·intro t ht
  simp only [pts59,List.mem_cons,List.not_mem_nil,or_false] at ht
  subst ht
  exact ⟨by kernel_rfl,by decide⟩
 ·intro E hE hF
  obtain ⟨m,hm,m1,m61,hr⟩:=pre59 hE hF
  refine ⟨fun a ha=>?_,fun x hx=>?_⟩
  ·obtain rfl:=Option.some.inj ha;intro q hq;cases hq
  ·unfold h59als at hx
   simp only [List.mem_cons,List.not_mem_nil,or_false] at hx
   subst hx
   intro hf
   refine ⟨⟨_,rfl,.inl ⟨rfl,rfl⟩⟩,fun o=>⟨⟨0,m,⟨fun k h1 h2=>?_,rfl,rfl⟩,rfl,hm,Nat.zero_le _,by omega,fun j h=>absurd h (Nat.not_lt_zero _),fun h=>by omega⟩,fun b hb=>by cases hb⟩⟩
   show (match fnd k [(21,SE.v 40),(20,SE.c 0)] with|some e=>e.den E|none=>E.i k)=_
   simp only [fnd,if_neg (Ne.symm h1),if_neg (Ne.symm h2)]
 ·intro kk t ht
  have hk:kk=0:=by
   have:=(List.getElem?_eq_some_iff.1 ht).1
   simp [pts59] at this;omega
  subst hk
  refine ⟨h59p0ls,by rw [←ptD_some ht ct59.g];exact h59p0run,fun E0 E hE0 hE hF0 ⟨lo,hi,hI⟩=>?_⟩
  obtain ⟨m,hm,m1,m61,hr⟩:=pre59 hE0 hF0
  have hmt:(E0.i 40).toNat=m:=by omega
  rw [hmt] at hI
  obtain ⟨hS,h20,h21,hlh,hhm,g1,g2⟩:=hI
  have q40:=hS.i 40 (by decide) (by decide);have q1:=hS.i 1 (by decide) (by decide)
  have qa:E.a 2=E0.a 2:=by rw [hS.a]
  have hmE:E.i 40=m:=q40.trans hm
  refine ⟨?_,fun x hx=>?_⟩
  ·obtain rfl:=Option.some.inj ht
   show Facts E ([((.le (.c 1) (.v 40)),true),((.le (.v 40) (.c 61)),true),(rdF.1,true),((.le (.c 0) (.v 20)),true),((.le (.v 20) (.c 61)),true),((.le (.c 0) (.v 21)),true),((.le (.v 21) (.c 61)),true),((.le (.v 20) (.v 21)),true),((.le (.v 21) (.v 40)),true)])
   have hsr:rdF.1.den E=true:=of_rd hE hmE (by rw [qa];exact hr)
   simp only [facts_cons,facts_nil,le_t,d_c,d_v,and_true]
   refine ⟨by omega,by omega,hsr,by omega,by omega,by omega,by omega,by omega,by omega⟩
  ·unfold h59p0ls at hx
   simp only [List.mem_cons,List.not_mem_nil,or_false] at hx
   obtain ⟨t,ht⟩: ∃t,(lo+hi)/2=t:=⟨_,rfl⟩
   have D2:h59p0e2.den E=(t:Int):=by
    show IntKind.i64.wrap ((E.i 20+E.i 21).fdiv (2^min (1:Int).toNat IntKind.u64.bits))=_
    have e:(2:Int)^min (1:Int).toNat IntKind.u64.bits=2:=by decide
    rw [e,h20,h21,Int.fdiv_eq_ediv_of_nonneg _ (by decide)]
    have e2:((lo:Int)+(hi:Int))/2=(t:Int):=by omega
    rw [e2]
    exact wrap_id (by simp [IntKind.min,IntKind.max,IntKind.bits,IntKind.signed];omega)
   have D6:h59p0e6.den E=(t:Int)+1:=by
    show IntKind.i64.wrap (h59p0e2.den E+1)=_
    rw [D2]
    exact wrap_id (by simp [IntKind.min,IntKind.max,IntKind.bits,IntKind.signed];omega)
   have D4:h59p0e4.den E=E0.a 2 (t*2):=by
    show E.a 2 (h59p0e2.den E*2).toNat=_
    rw [qa,D2,show ((t:Int)*2).toNat=t*2 by omega]
   rcases hx with rfl|rfl|rfl|rfl|rfl
   ·intro hf
    simp only [facts_cons,facts_nil,le_t,le_f,lt_t,lt_f,d_v,d_c,D2,D4,h20,h21,hmE,q1,and_true] at hf
    refine ⟨⟨_,rfl,.inr ⟨rfl,rfl⟩⟩,fun o=>⟨⟨lo,t,?_⟩,fun b hb=>?_⟩⟩
    ·rw [hmt]
     exact ⟨sm2_put hS (.inr rfl) _ o,h20,D2,by omega,by omega,g1,fun _=>by omega⟩
    ·obtain rfl:=Option.some.inj hb
     show (h59p0e2.den E - E.i 20).toNat<(E.i 21 - E.i 20).toNat
     rw [D2];omega
   ·intro hf
    simp only [facts_cons,facts_nil,le_t,le_f,lt_t,lt_f,d_v,d_c,D2,D4,h20,h21,hmE,q1,and_true] at hf
    refine ⟨⟨_,rfl,.inr ⟨rfl,rfl⟩⟩,fun o=>⟨⟨t+1,hi,?_⟩,fun b hb=>?_⟩⟩
    ·rw [hmt]
     refine ⟨sm2_put hS (.inl rfl) _ o,?_,h21,by omega,hhm,fun j hj=>?_,g2⟩
     ·show h59p0e6.den E=_
      rw [D6];omega
     ·rcases Nat.lt_or_ge j t with h|h
      ·have:=hr.gap j t h (by omega);have:=hr.le t (by omega);omega
      ·have:j=t:=by omega
       subst this;omega
    ·obtain rfl:=Option.some.inj hb
     show (E.i 21 - h59p0e6.den E).toNat<(E.i 21 - E.i 20).toNat
     rw [D6];omega
   ·intro hf
    simp only [facts_cons,facts_nil,le_t,le_f,lt_t,lt_f,d_v,d_c,D2,h20,h21,hmE,q1,and_true] at hf
    omega
   ·intro hf
    simp only [facts_cons,facts_nil,le_t,le_f,lt_t,lt_f,d_v,d_c,D2,h20,h21,hmE,q1,and_true] at hf
    omega
   ·intro hf
    simp only [facts_cons,facts_nil,le_t,le_f,lt_t,lt_f,d_v,d_c,h20,h21,hmE,q1,and_true] at hf
    have hlo:lo=hi:=by omega
    subst hlo
    have hfi:fiR (E0.a 2) (E0.i 1) m=lo:=fiR_eq hr hhm g1 g2
    have e7:h59p0e7.den E0=_:=(fi_den hE0 hm).1
    refine ⟨rfl,?_⟩
    simp only [List.forall_mem_cons,List.not_mem_nil,false_imp_iff,implies_true,and_true,true_and,Eqn.ok]
    refine ⟨by rw [e7,hfi];exact h20,hS.i 41 (by decide) (by decide),hS.i 42 (by decide) (by decide),hS.i 43 (by decide) (by decide),hS.i 44 (by decide) (by decide),fun j _=>?_,hS.i 40 (by decide) (by decide),hS.i 1 (by decide) (by decide)⟩
    show E.a 2 j=E0.a 2 j
    rw [qa]
theorem prm53_ok (E:Env) (hE:E.fn=fns):PrmOk E (prm53 Try.prog):=prm_ok E hE (by
 intro c hc
 simp only [List.mem_cons,List.not_mem_nil,or_false] at hc
 subst hc;exact ct59_ok) (by intro b hb;cases hb)
theorem ct53_ok:CtOk Try.prog fns ct53:=by
 refine ct_of_pts (p:=prm53 Try.prog) (pts:=[]) (n:=900) (c0:=enterD (prm53 Try.prog) ct53) (fun E hE=>prm53_ok E hE) rfl (by intro q hq;cases hq) Try.func53 (by kernel_rfl) (by intro t ht;cases ht) (fun _ _ _=>True) (fun _ _ _=>0) h53als (by kernel_rfl) ?_ (by intro i t ht;cases ht)
 intro E hE hF
 have h:=hF rdF (by simp [ct53])
 have a:1≤E.i 40:=of_decide_eq_true (hF (.le (.c 1) (.v 40),true) (by simp [ct53,bd]))
 have b:E.i 40≤61:=of_decide_eq_true (hF (.le (.v 40) (.c 61),true) (by simp [ct53,bd]))
 obtain ⟨m,hm⟩: ∃m:Nat,E.i 40=m:=⟨(E.i 40).toNat,by omega⟩
 have hr:=rd_of hE hm h
 obtain ⟨dF,dA⟩:=fi_den hE hm
 have D0:h53ae0.den E=(m:Int) - 1:=by show E.i 40 - 1=_;rw [hm]
 have D2:h53ae2.den E=E.a 2 ((m - 1)*2):=by
  show E.a 2 ((E.i 40 - 1)*2).toNat=_
  rw [show ((E.i 40 - 1)*2).toNat=(m - 1)*2 by omega]
 have D3:h53ae3.den E=E.a 2 1:=rfl
 have D4:h53ae4.den E=_:=dF
 have hex:E.a 2 ((m - 1)*2)≤E.i 1→fiR (E.a 2) (E.i 1) m<m∧acks (E.a 2) m (E.i 1)=decide (E.i 1≤E.a 2 (fiR (E.a 2) (E.i 1) m*2+1)):=fun hle=>by
  obtain ⟨k,hk1,hk2,hk3⟩: ∃k,k<m∧(∀j,j<k→E.i 1<E.a 2 (j*2))∧E.a 2 (k*2)≤E.i 1:=by
   have key: ∀d,d<m→(∀j,j<m - 1 - d→E.i 1<E.a 2 (j*2))∨ ∃k,k<m∧(∀j,j<k→E.i 1<E.a 2 (j*2))∧E.a 2 (k*2)≤E.i 1:=by
    intro d
    rcases Nat.lt_or_ge d (m - 1) with hd|hd
    ·intro _
     have: ∀s,s≤m - 1→(∀j,j<s→E.i 1<E.a 2 (j*2))∨ ∃k,k<m∧(∀j,j<k→E.i 1<E.a 2 (j*2))∧E.a 2 (k*2)≤E.i 1:=by
      intro s
      induction s with
      |zero=>intro _;left;intro j hj;omega
      |succ s ih=>
       intro hs
       rcases ih (by omega) with h'|h'
       ·by_cases h2:E.i 1<E.a 2 (s*2)
        ·left;intro j hj
         rcases Nat.lt_or_ge j s with h3|h3
         ·exact h' j h3
         ·have:j=s:=by omega
          subst this;exact h2
        ·exact .inr ⟨s,by omega,h',Int.not_lt.1 h2⟩
       ·exact .inr h'
     exact this _ (by omega)
    ·intro _;left;intro j hj;omega
   rcases key 0 (by omega) with h'|h'
   ·exact ⟨m - 1,by omega,fun j hj=>h' j (by omega),hle⟩
   ·exact h'
  have e:=fiR_eq hr (by omega:k≤m) hk2 (fun _=>hk3)
  rw [e]
  exact ⟨hk1,acks_at hr hk1 hk2 hk3⟩
 refine ⟨fun a ha=>?_,fun x hx=>?_⟩
 ·obtain rfl:=Option.some.inj ha;intro q hq;cases hq
 ·unfold h53als at hx
  simp only [List.mem_cons,List.not_mem_nil,or_false] at hx
  have fin: ∀B:SB,B.den E=acks (E.a 2) m (E.i 1)→ ∀q∈([.b B (.ap 7 (.a (.v 2) (.i (.v 40) (.i (.v 1) .nil)))),.i (.v 41) (.v 41),.i (.v 42) (.v 42),.i (.v 43) (.v 43),.i (.v 44) (.v 44),.a (.v 2) (.v 2) (.v 40) 2,.i (.v 40) (.v 40)]:List Eqn),q.ok E E:=fun B hB=>by
   simp only [List.forall_mem_cons,List.not_mem_nil,false_imp_iff,implies_true,and_true,true_and,Eqn.ok]
   exact hB.trans dA.symm
  rcases hx with rfl|rfl|rfl|rfl|rfl|rfl|rfl
  ·intro hf
   have h1:=hf (SB.lt (.v 1) h53ae2,true) (by simp)
   simp only [lt_t,d_v,D2] at h1
   refine ⟨rfl,fin _ ?_⟩
   rw [acks_no (fun i hi hh=>?_)]; ·rfl
   rcases Nat.lt_or_ge i (m - 1) with h2|h2
   ·have:=hr.gap i (m - 1) h2 (by omega);have:=hr.le (m - 1) (by omega);omega
   ·have:i=m - 1:=by omega
    subst this;omega
  ·intro hf
   have h1:=hf (SB.lt h53ae3 (.v 1),true) (by simp)
   simp only [lt_t,d_v,D3] at h1
   refine ⟨rfl,fin _ ?_⟩
   rw [acks_no (fun i hi hh=>?_)]; ·rfl
   rcases Nat.eq_zero_or_pos i with h2|h2
   ·subst h2;simp at hh;omega
   ·have:=hr.gap 0 i h2 hi;have:=hr.le 0 (by omega);simp at*;omega
  ·intro hf
   have h1:=hf (SB.lt (.v 1) h53ae2,false) (by simp)
   simp only [lt_f,d_v,D2] at h1
   obtain ⟨e1,e2⟩:=hex h1
   refine ⟨rfl,fin _ ?_⟩
   rw [e2]
   show decide (E.i 1≤E.a 2 (h53ae4.den E*2+1).toNat)=_
   rw [D4,show ((fiR (E.a 2) (E.i 1) m:Int)*2+1).toNat=fiR (E.a 2) (E.i 1) m*2+1 by omega]
  ·intro hf
   have h1:=hf (SB.lt (.v 1) h53ae2,false) (by simp)
   have h2:=hf (SB.lt h53ae4 (.v 40),false) (by simp)
   simp only [lt_f,d_v,D2,D4,hm] at h1 h2
   have:=(hex h1).1;omega
  ·intro hf
   have h1:=hf (SB.lt (.v 1) h53ae2,false) (by simp)
   have h2:=hf (SB.le h53ae4 (.c 60),false) (by simp)
   simp only [lt_f,le_f,d_v,d_c,D2,D4,hm] at h1 h2
   have:=(hex h1).1;omega
  ·intro hf
   have h2:=hf (SB.le (.c 0) h53ae4,false) (by simp)
   simp only [le_f,d_c,D4] at h2
   omega
  ·intro hf
   have h2:=hf (SB.lt h53ae0 (.v 40),false) (by simp)
   simp only [lt_f,d_v,D0,hm] at h2
   omega
noncomputable def h41te0:SE:= .rd (.v 2) (.c 1)
noncomputable def h41tx0:Vl:= .out 0 [.b (.c false) (.ap 21 (.i (.v 36) (.i (.v 1) (.a (.v 2) (.i (.v 40) .nil))))),.i (.v 31) (.v 31),.i (.v 32) (.v 32),.i (.v 33) (.v 33),.i (.v 6) (.v 6),.b (.v 0) (.v 0),.i (.v 34) (.v 34),.i (.v 35) (.v 35),.i (.v 36) (.v 36),.b (.v 1) (.v 1),.i (.v 37) (.v 37),.i (.v 38) (.v 38),.i (.v 39) (.v 39),.a (.v 0) (.v 0) (.v 0) 2,.i (.v 0) (.v 0),.i (.v 41) (.v 41),.i (.v 42) (.v 42),.i (.v 43) (.v 43),.i (.v 44) (.v 44),.a (.v 2) (.v 2) (.v 40) 2,.i (.v 40) (.v 40)] [((.lt (.v 1) (.v 36)),true),((.le (.c 0) (.v 1)),true),((.le (.v 1) (.c 400)),true),((.le (.c 1) (.v 40)),true),((.le (.v 40) (.c 61)),true),((.ap 2 (.a (.v 2) (.i (.v 40) .nil))),true)]
noncomputable def h41tx1:Vl:= .out 0 [.b (.not (.ap 7 (.a (.v 2) (.i (.v 40) (.i (.v 1) .nil))))) (.ap 21 (.i (.v 36) (.i (.v 1) (.a (.v 2) (.i (.v 40) .nil))))),.i (.v 31) (.v 31),.i (.v 32) (.v 32),.i (.v 33) (.v 33),.i (.v 6) (.v 6),.b (.v 0) (.v 0),.i (.v 34) (.v 34),.i (.v 35) (.v 35),.i (.v 36) (.v 36),.b (.v 1) (.v 1),.i (.v 37) (.v 37),.i (.v 38) (.v 38),.i (.v 39) (.v 39),.a (.v 0) (.v 0) (.v 0) 2,.i (.v 0) (.v 0),.i (.v 41) (.v 41),.i (.v 42) (.v 42),.i (.v 43) (.v 43),.i (.v 44) (.v 44),.a (.v 2) (.v 2) (.v 40) 2,.i (.v 40) (.v 40)] [((.lt (.v 1) h41te0),true),((.lt (.v 1) (.v 36)),false),((.le (.c 0) (.v 1)),true),((.le (.v 1) (.c 400)),true),((.le (.c 1) (.v 40)),true),((.le (.v 40) (.c 61)),true),((.ap 2 (.a (.v 2) (.i (.v 40) .nil))),true)]
noncomputable def h41tx2:Vl:= .out 0 [.b (.c false) (.ap 21 (.i (.v 36) (.i (.v 1) (.a (.v 2) (.i (.v 40) .nil))))),.i (.v 31) (.v 31),.i (.v 32) (.v 32),.i (.v 33) (.v 33),.i (.v 6) (.v 6),.b (.v 0) (.v 0),.i (.v 34) (.v 34),.i (.v 35) (.v 35),.i (.v 36) (.v 36),.b (.v 1) (.v 1),.i (.v 37) (.v 37),.i (.v 38) (.v 38),.i (.v 39) (.v 39),.a (.v 0) (.v 0) (.v 0) 2,.i (.v 0) (.v 0),.i (.v 41) (.v 41),.i (.v 42) (.v 42),.i (.v 43) (.v 43),.i (.v 44) (.v 44),.a (.v 2) (.v 2) (.v 40) 2,.i (.v 40) (.v 40)] [((.lt (.v 1) h41te0),false),((.lt (.v 1) (.v 36)),false),((.le (.c 0) (.v 1)),true),((.le (.v 1) (.c 400)),true),((.le (.c 1) (.v 40)),true),((.le (.v 40) (.c 61)),true),((.ap 2 (.a (.v 2) (.i (.v 40) .nil))),true)]
noncomputable def h41tls:List Vl:=[h41tx0,h41tx1,h41tx2]
noncomputable def h54te0:SE:= .sub (.v 35) (.c 1)
noncomputable def h54te1:SE:= .ap 7 (.a (.v 0) (.i (.v 0) (.i h54te0 (.i (.v 6) .nil))))
noncomputable def h54te2:SE:= .rd (.v 2) (.c 1)
noncomputable def h54te3:SE:= .sub h54te2 (.c 1)
noncomputable def h54tx0:Vl:= .out 0 [.b (.c false) (.ap 22 (.a (.v 0) (.i (.v 0) (.i (.v 35) (.i (.v 6) (.a (.v 2) .nil)))))),.i (.v 31) (.v 31),.i (.v 32) (.v 32),.i (.v 33) (.v 33),.i (.v 6) (.v 6),.b (.v 0) (.v 0),.i (.v 34) (.v 34),.i (.v 35) (.v 35),.i (.v 36) (.v 36),.b (.v 1) (.v 1),.i (.v 37) (.v 37),.i (.v 38) (.v 38),.i (.v 39) (.v 39),.a (.v 0) (.v 0) (.v 0) 2,.i (.v 0) (.v 0),.i (.v 41) (.v 41),.i (.v 42) (.v 42),.i (.v 43) (.v 43),.i (.v 44) (.v 44),.a (.v 2) (.v 2) (.v 40) 2,.i (.v 40) (.v 40)] [((.lt (.v 35) (.c 1)),true),((.le (.c 1) (.v 0)),true),((.le (.v 0) (.c 61)),true),((.le (.c 0) (.v 35)),true),((.le (.v 35) (.c 401)),true),((.le (.c (-1)) (.v 6)),true),((.le (.v 6) (.c 1000)),true),((.le (.c 1) (.v 40)),true),((.le (.v 40) (.c 61)),true),((.ap 1 (.a (.v 0) (.i (.v 0) .nil))),true),((.ap 2 (.a (.v 2) (.i (.v 40) .nil))),true)]
noncomputable def h54tx1:Vl:= .out 0 [.b (.c false) (.ap 22 (.a (.v 0) (.i (.v 0) (.i (.v 35) (.i (.v 6) (.a (.v 2) .nil)))))),.i (.v 31) (.v 31),.i (.v 32) (.v 32),.i (.v 33) (.v 33),.i (.v 6) (.v 6),.b (.v 0) (.v 0),.i (.v 34) (.v 34),.i (.v 35) (.v 35),.i (.v 36) (.v 36),.b (.v 1) (.v 1),.i (.v 37) (.v 37),.i (.v 38) (.v 38),.i (.v 39) (.v 39),.a (.v 0) (.v 0) (.v 0) 2,.i (.v 0) (.v 0),.i (.v 41) (.v 41),.i (.v 42) (.v 42),.i (.v 43) (.v 43),.i (.v 44) (.v 44),.a (.v 2) (.v 2) (.v 40) 2,.i (.v 40) (.v 40)] [((.eq h54te1 (.c (-1))),true),((.lt (.v 35) (.c 1)),false),((.le (.c 1) (.v 0)),true),((.le (.v 0) (.c 61)),true),((.le (.c 0) (.v 35)),true),((.le (.v 35) (.c 401)),true),((.le (.c (-1)) (.v 6)),true),((.le (.v 6) (.c 1000)),true),((.le (.c 1) (.v 40)),true),((.le (.v 40) (.c 61)),true),((.ap 1 (.a (.v 0) (.i (.v 0) .nil))),true),((.ap 2 (.a (.v 2) (.i (.v 40) .nil))),true)]
noncomputable def h54tx2:Vl:= .out 0 [.b (.c false) (.ap 22 (.a (.v 0) (.i (.v 0) (.i (.v 35) (.i (.v 6) (.a (.v 2) .nil)))))),.i (.v 31) (.v 31),.i (.v 32) (.v 32),.i (.v 33) (.v 33),.i (.v 6) (.v 6),.b (.v 0) (.v 0),.i (.v 34) (.v 34),.i (.v 35) (.v 35),.i (.v 36) (.v 36),.b (.v 1) (.v 1),.i (.v 37) (.v 37),.i (.v 38) (.v 38),.i (.v 39) (.v 39),.a (.v 0) (.v 0) (.v 0) 2,.i (.v 0) (.v 0),.i (.v 41) (.v 41),.i (.v 42) (.v 42),.i (.v 43) (.v 43),.i (.v 44) (.v 44),.a (.v 2) (.v 2) (.v 40) 2,.i (.v 40) (.v 40)] [((.lt h54te1 h54te2),true),((.eq h54te1 (.c (-1))),false),((.lt (.v 35) (.c 1)),false),((.le (.c 1) (.v 0)),true),((.le (.v 0) (.c 61)),true),((.le (.c 0) (.v 35)),true),((.le (.v 35) (.c 401)),true),((.le (.c (-1)) (.v 6)),true),((.le (.v 6) (.c 1000)),true),((.le (.c 1) (.v 40)),true),((.le (.v 40) (.c 61)),true),((.ap 1 (.a (.v 0) (.i (.v 0) .nil))),true),((.ap 2 (.a (.v 2) (.i (.v 40) .nil))),true)]
noncomputable def h54tx3:Vl:= .out 0 [.b (.lt h54te3 h54te1) (.ap 22 (.a (.v 0) (.i (.v 0) (.i (.v 35) (.i (.v 6) (.a (.v 2) .nil)))))),.i (.v 31) (.v 31),.i (.v 32) (.v 32),.i (.v 33) (.v 33),.i (.v 6) (.v 6),.b (.v 0) (.v 0),.i (.v 34) (.v 34),.i (.v 35) (.v 35),.i (.v 36) (.v 36),.b (.v 1) (.v 1),.i (.v 37) (.v 37),.i (.v 38) (.v 38),.i (.v 39) (.v 39),.a (.v 0) (.v 0) (.v 0) 2,.i (.v 0) (.v 0),.i (.v 41) (.v 41),.i (.v 42) (.v 42),.i (.v 43) (.v 43),.i (.v 44) (.v 44),.a (.v 2) (.v 2) (.v 40) 2,.i (.v 40) (.v 40)] [((.le h54te2 (.c 1000)),true),((.le (.c 0) h54te2),true),((.lt h54te1 h54te2),false),((.eq h54te1 (.c (-1))),false),((.lt (.v 35) (.c 1)),false),((.le (.c 1) (.v 0)),true),((.le (.v 0) (.c 61)),true),((.le (.c 0) (.v 35)),true),((.le (.v 35) (.c 401)),true),((.le (.c (-1)) (.v 6)),true),((.le (.v 6) (.c 1000)),true),((.le (.c 1) (.v 40)),true),((.le (.v 40) (.c 61)),true),((.ap 1 (.a (.v 0) (.i (.v 0) .nil))),true),((.ap 2 (.a (.v 2) (.i (.v 40) .nil))),true)]
noncomputable def h54tx4:Vl:= .dead [((.le h54te2 (.c 1000)),false),((.le (.c 0) h54te2),true),((.lt h54te1 h54te2),false),((.eq h54te1 (.c (-1))),false),((.lt (.v 35) (.c 1)),false),((.le (.c 1) (.v 0)),true),((.le (.v 0) (.c 61)),true),((.le (.c 0) (.v 35)),true),((.le (.v 35) (.c 401)),true),((.le (.c (-1)) (.v 6)),true),((.le (.v 6) (.c 1000)),true),((.le (.c 1) (.v 40)),true),((.le (.v 40) (.c 61)),true),((.ap 1 (.a (.v 0) (.i (.v 0) .nil))),true),((.ap 2 (.a (.v 2) (.i (.v 40) .nil))),true)]
noncomputable def h54tx5:Vl:= .dead [((.le (.c 0) h54te2),false),((.lt h54te1 h54te2),false),((.eq h54te1 (.c (-1))),false),((.lt (.v 35) (.c 1)),false),((.le (.c 1) (.v 0)),true),((.le (.v 0) (.c 61)),true),((.le (.c 0) (.v 35)),true),((.le (.v 35) (.c 401)),true),((.le (.c (-1)) (.v 6)),true),((.le (.v 6) (.c 1000)),true),((.le (.c 1) (.v 40)),true),((.le (.v 40) (.c 61)),true),((.ap 1 (.a (.v 0) (.i (.v 0) .nil))),true),((.ap 2 (.a (.v 2) (.i (.v 40) .nil))),true)]
noncomputable def h54tls:List Vl:=[h54tx0,h54tx1,h54tx2,h54tx3,h54tx4,h54tx5]
theorem prm41t_ok (E:Env) (hE:E.fn=fns):PrmOk E (prm41t Try.prog):=prm_ok E hE (by
 intro c hc
 simp only [List.mem_cons,List.not_mem_nil,or_false] at hc
 subst hc;exact ct53_ok) (by intro b hb;cases hb)
theorem ct41t_ok:CtOk Try.prog fns ct41t:=by
 refine ct_of_pts (p:=prm41t Try.prog) (pts:=[]) (n:=900) (c0:=enterD (prm41t Try.prog) ct41t) (fun E hE=>prm41t_ok E hE) rfl (by intro q hq;cases hq) Try.func41 (by kernel_rfl) (by intro t ht;cases ht) (fun _ _ _=>True) (fun _ _ _=>0) h41tls (by kernel_rfl) ?_ (by intro i t ht;cases ht)
 intro E hE hF
 have a:1≤E.i 40:=of_decide_eq_true (hF (.le (.c 1) (.v 40),true) (by simp [ct41t,bd]))
 obtain ⟨m,hm⟩: ∃m:Nat,E.i 40=m:=⟨(E.i 40).toNat,by omega⟩
 have dA:=(fi_den hE hm).2
 have dM:msE.den E=(decide (E.i 36≤E.i 1∧E.i 1<E.a 2 1)&&!acks (E.a 2) m (E.i 1)):=by
  simp only [msE,SB.den,SL.den,AE.den,SE.den,hE]
  show (decide (E.i 36≤E.i 1∧E.i 1<E.a 2 1)&&!acks (fun j=>E.a 2 j) (E.i 40).toNat (E.i 1))=_
  rw [hm];rfl
 have DR: ∀x:SE,x= .rd (.v 2) (.c 1)→x.den E=E.a 2 1:=fun x h=>by rw [h];rfl
 have DR:=DR _ (rfl:h41te0=_)
 refine ⟨fun a ha=>?_,fun x hx=>?_⟩
 ·obtain rfl:=Option.some.inj ha;intro q hq;cases hq
 ·unfold h41tls at hx
  simp only [List.mem_cons,List.not_mem_nil,or_false] at hx
  rcases hx with rfl|rfl|rfl
  ·intro hf
   refine ⟨rfl,?_⟩
   simp only [List.forall_mem_cons,List.not_mem_nil,false_imp_iff,implies_true,and_true,true_and,Eqn.ok]
   refine Eq.trans ?_ dM.symm
   have hd:decide (E.i 36≤E.i 1∧E.i 1<E.a 2 1)=false:=by
    simp only [facts_cons,facts_nil,lt_t,lt_f,d_v,DR,and_true] at hf
    simp only [decide_eq_false_iff_not];omega
   rw [hd];rfl
  ·intro hf
   refine ⟨rfl,?_⟩
   simp only [List.forall_mem_cons,List.not_mem_nil,false_imp_iff,implies_true,and_true,true_and,Eqn.ok]
   refine Eq.trans ?_ dM.symm
   have hd:decide (E.i 36≤E.i 1∧E.i 1<E.a 2 1)=true:=by
    simp only [facts_cons,facts_nil,lt_t,lt_f,d_v,DR,and_true] at hf
    simp only [decide_eq_true_eq];omega
   rw [hd]
   show (!((b3 7 (.v 2) (.v 40) (.v 1)).den E))=_
   rw [dA];rfl
  ·intro hf
   refine ⟨rfl,?_⟩
   simp only [List.forall_mem_cons,List.not_mem_nil,false_imp_iff,implies_true,and_true,true_and,Eqn.ok]
   refine Eq.trans ?_ dM.symm
   have hd:decide (E.i 36≤E.i 1∧E.i 1<E.a 2 1)=false:=by
    simp only [facts_cons,facts_nil,lt_t,lt_f,d_v,DR,and_true] at hf
    simp only [decide_eq_false_iff_not];omega
   rw [hd];rfl
theorem prm54t_ok (E:Env) (hE:E.fn=fns):PrmOk E (prm54t Try.prog):=prm_ok E hE (by
 intro c hc
 simp only [List.mem_cons,List.not_mem_nil,or_false] at hc
 subst hc;exact ct61a_ok) (by intro b hb;cases hb)
theorem nm_den {E:Env} (hE:E.fn=fns) {n:Nat} (hn:E.i 0=n):nmE.den E=(decide (1≤E.i 35)&&decide (hm (E.a 0) n (E.i 35 - 1) (E.i 6)≠ -1∧E.a 2 1≤hm (E.a 0) n (E.i 35 - 1) (E.i 6)∧E.a 2 1 - 1<hm (E.a 0) n (E.i 35 - 1) (E.i 6))):=by
 simp only [nmE,SB.den,SL.den,AE.den,SE.den,hE]
 show (decide (1≤E.i 35)&&decide (hm (fun j=>E.a 0 j) (E.i 0).toNat (E.i 35 - 1) (E.i 6)≠ -1∧E.a 2 1≤hm (fun j=>E.a 0 j) (E.i 0).toNat (E.i 35 - 1) (E.i 6)∧E.a 2 1 - 1<hm (fun j=>E.a 0 j) (E.i 0).toNat (E.i 35 - 1) (E.i 6)))=_
 rw [hn];rfl
theorem ct54t_ok:CtOk Try.prog fns ct54t:=by
 refine ct_of_pts (p:=prm54t Try.prog) (pts:=[]) (n:=900) (c0:=enterD (prm54t Try.prog) ct54t) (fun E hE=>prm54t_ok E hE) rfl (by intro q hq;cases hq) Try.func54 (by kernel_rfl) (by intro t ht;cases ht) (fun _ _ _=>True) (fun _ _ _=>0) h54tls (by kernel_rfl) ?_ (by intro i t ht;cases ht)
 intro E hE hF
 have a:1≤E.i 0:=of_decide_eq_true (hF (.le (.c 1) (.v 0),true) (by simp [ct54t,bd]))
 have a4:1≤E.i 40:=of_decide_eq_true (hF (.le (.c 1) (.v 40),true) (by simp [ct54t,bd]))
 obtain ⟨n,hn⟩: ∃n:Nat,E.i 0=n:=⟨(E.i 0).toNat,by omega⟩
 obtain ⟨m,hm'⟩: ∃m:Nat,E.i 40=m:=⟨(E.i 40).toNat,by omega⟩
 have hd:RgD (E.a 2) m:=rd_of hE hm' (hF rdF (by simp [ct54t]))
 have l0:=hd.lo 0 (by omega)
 have l1:=hd.le 0 (by omega)
 have l2:=hd.hi 0 (by omega)
 simp only [Nat.zero_mul,Nat.zero_add] at l0 l1 l2
 have dM:=nm_den hE hn
 have D1:h54te1.den E=hm (E.a 0) n (E.i 35 - 1) (E.i 6):=by
  simp only [h54te1,h54te0,SE.den,SL.den,AE.den,hE]
  show hm (fun j=>E.a 0 j) (E.i 0).toNat (E.i 35 - 1) (E.i 6)=_
  rw [hn];rfl
 have D2:h54te2.den E=E.a 2 1:=rfl
 have D3:h54te3.den E=E.a 2 1 - 1:=rfl
 generalize hm (E.a 0) n (E.i 35 - 1) (E.i 6)=H at dM D1
 refine ⟨fun a ha=>?_,fun x hx=>?_⟩
 ·obtain rfl:=Option.some.inj ha;intro q hq;cases hq
 ·unfold h54tls at hx
  simp only [List.mem_cons,List.not_mem_nil,or_false] at hx
  rcases hx with rfl|rfl|rfl|rfl|rfl|rfl
  all_goals intro hf
  all_goals simp only [facts_cons,facts_nil,lt_t,lt_f,le_t,le_f,eq_t,eq_f,d_v,d_c,D1,D2,D3,and_true] at hf
  all_goals first|omega|skip
  all_goals
   refine ⟨rfl,?_⟩
   simp only [List.forall_mem_cons,List.not_mem_nil,false_imp_iff,implies_true,and_true,true_and,Eqn.ok]
   refine Eq.trans ?_ dM.symm
   rw [Bool.eq_iff_iff]
   simp only [lt_t,D1,D3,d_bc,Bool.and_eq_true,decide_eq_true_eq,Bool.false_eq_true,false_iff,not_and]
   omega
noncomputable def h30aae0:SE:= .add (.v 31) (.c 1)
noncomputable def h30aae1:SE:= .ite (.eq (.v 50) (.c 3)) h30aae0 (.v 31)
noncomputable def h30aae2:SE:= .add (.v 32) (.c 1)
noncomputable def h30aae3:SE:= .ite (.eq (.v 50) (.c 2)) h30aae2 (.v 32)
noncomputable def h30aae4:SE:= .add (.v 33) (.c 1)
noncomputable def h30aae5:SE:= .ite (.eq (.v 50) (.c 4)) h30aae4 (.v 33)
noncomputable def h30aae6:AE:= .ap 3 (.a (.v 0) (.i (.v 0) (.i (.v 1) .nil)))
noncomputable def h30aae7:SE:= .ap 3 (.a (.v 0) (.i (.v 0) (.i (.v 1) .nil)))
noncomputable def h30aae8:SE:= .add (.v 0) (.c 1)
noncomputable def h30aax0:Vl:= .out 0 [.i h30aae0 h30aae1,.i (.v 32) h30aae3,.i (.v 33) h30aae5,.i (.v 6) (.v 6),.b (.c true) (.not (.and (.not (.v 0)) (.not (.v 2)))),.a h30aae6 h30aae6 h30aae7 2,.i h30aae7 h30aae7] [((.v 2),true),((.eq (.v 50) (.c 3)),true),((.le (.c 1) h30aae7),true),((.le h30aae7 h30aae8),true),((.ap 1 (.a h30aae6 (.i h30aae7 .nil))),true),((.le (.c 0) (.v 0)),true),((.le (.v 0) (.c 60)),true),((.le (.c 0) (.v 1)),true),((.le (.v 1) (.c 400)),true),((.ap 1 (.a (.v 0) (.i (.v 0) .nil))),true),((.lt (.v 1) (.v 6)),false),((.ap 6 (.a (.v 0) (.i (.v 0) (.i (.v 1) .nil)))),false),((.le (.c 0) (.v 31)),true),((.le (.v 31) (.c 1000)),true),((.le (.c 0) (.v 32)),true),((.le (.v 32) (.c 1000)),true),((.le (.c 0) (.v 33)),true),((.le (.v 33) (.c 1000)),true)]
noncomputable def h30aax1:Vl:= .out 0 [.i h30aae0 h30aae1,.i (.v 32) h30aae3,.i (.v 33) h30aae5,.i (.v 6) (.v 6),.b (.v 0) (.not (.and (.not (.v 0)) (.not (.v 2)))),.a h30aae6 h30aae6 h30aae7 2,.i h30aae7 h30aae7] [((.v 2),false),((.eq (.v 50) (.c 3)),true),((.le (.c 1) h30aae7),true),((.le h30aae7 h30aae8),true),((.ap 1 (.a h30aae6 (.i h30aae7 .nil))),true),((.le (.c 0) (.v 0)),true),((.le (.v 0) (.c 60)),true),((.le (.c 0) (.v 1)),true),((.le (.v 1) (.c 400)),true),((.ap 1 (.a (.v 0) (.i (.v 0) .nil))),true),((.lt (.v 1) (.v 6)),false),((.ap 6 (.a (.v 0) (.i (.v 0) (.i (.v 1) .nil)))),false),((.le (.c 0) (.v 31)),true),((.le (.v 31) (.c 1000)),true),((.le (.c 0) (.v 32)),true),((.le (.v 32) (.c 1000)),true),((.le (.c 0) (.v 33)),true),((.le (.v 33) (.c 1000)),true)]
noncomputable def h30aax2:Vl:= .out 0 [.i (.v 31) h30aae1,.i h30aae2 h30aae3,.i (.v 33) h30aae5,.i (.v 6) (.v 6),.b (.c true) (.not (.and (.not (.v 0)) (.not (.v 2)))),.a h30aae6 h30aae6 h30aae7 2,.i h30aae7 h30aae7] [((.v 2),true),((.eq (.v 50) (.c 2)),true),((.eq (.v 50) (.c 3)),false),((.le (.c 1) h30aae7),true),((.le h30aae7 h30aae8),true),((.ap 1 (.a h30aae6 (.i h30aae7 .nil))),true),((.le (.c 0) (.v 0)),true),((.le (.v 0) (.c 60)),true),((.le (.c 0) (.v 1)),true),((.le (.v 1) (.c 400)),true),((.ap 1 (.a (.v 0) (.i (.v 0) .nil))),true),((.lt (.v 1) (.v 6)),false),((.ap 6 (.a (.v 0) (.i (.v 0) (.i (.v 1) .nil)))),false),((.le (.c 0) (.v 31)),true),((.le (.v 31) (.c 1000)),true),((.le (.c 0) (.v 32)),true),((.le (.v 32) (.c 1000)),true),((.le (.c 0) (.v 33)),true),((.le (.v 33) (.c 1000)),true)]
noncomputable def h30aax3:Vl:= .out 0 [.i (.v 31) h30aae1,.i h30aae2 h30aae3,.i (.v 33) h30aae5,.i (.v 6) (.v 6),.b (.v 0) (.not (.and (.not (.v 0)) (.not (.v 2)))),.a h30aae6 h30aae6 h30aae7 2,.i h30aae7 h30aae7] [((.v 2),false),((.eq (.v 50) (.c 2)),true),((.eq (.v 50) (.c 3)),false),((.le (.c 1) h30aae7),true),((.le h30aae7 h30aae8),true),((.ap 1 (.a h30aae6 (.i h30aae7 .nil))),true),((.le (.c 0) (.v 0)),true),((.le (.v 0) (.c 60)),true),((.le (.c 0) (.v 1)),true),((.le (.v 1) (.c 400)),true),((.ap 1 (.a (.v 0) (.i (.v 0) .nil))),true),((.lt (.v 1) (.v 6)),false),((.ap 6 (.a (.v 0) (.i (.v 0) (.i (.v 1) .nil)))),false),((.le (.c 0) (.v 31)),true),((.le (.v 31) (.c 1000)),true),((.le (.c 0) (.v 32)),true),((.le (.v 32) (.c 1000)),true),((.le (.c 0) (.v 33)),true),((.le (.v 33) (.c 1000)),true)]
noncomputable def h30aax4:Vl:= .out 0 [.i (.v 31) h30aae1,.i (.v 32) h30aae3,.i h30aae4 h30aae5,.i (.v 6) (.v 6),.b (.c true) (.not (.and (.not (.v 0)) (.not (.v 2)))),.a h30aae6 h30aae6 h30aae7 2,.i h30aae7 h30aae7] [((.v 2),true),((.eq (.v 50) (.c 4)),true),((.eq (.v 50) (.c 2)),false),((.eq (.v 50) (.c 3)),false),((.le (.c 1) h30aae7),true),((.le h30aae7 h30aae8),true),((.ap 1 (.a h30aae6 (.i h30aae7 .nil))),true),((.le (.c 0) (.v 0)),true),((.le (.v 0) (.c 60)),true),((.le (.c 0) (.v 1)),true),((.le (.v 1) (.c 400)),true),((.ap 1 (.a (.v 0) (.i (.v 0) .nil))),true),((.lt (.v 1) (.v 6)),false),((.ap 6 (.a (.v 0) (.i (.v 0) (.i (.v 1) .nil)))),false),((.le (.c 0) (.v 31)),true),((.le (.v 31) (.c 1000)),true),((.le (.c 0) (.v 32)),true),((.le (.v 32) (.c 1000)),true),((.le (.c 0) (.v 33)),true),((.le (.v 33) (.c 1000)),true)]
noncomputable def h30aax5:Vl:= .out 0 [.i (.v 31) h30aae1,.i (.v 32) h30aae3,.i h30aae4 h30aae5,.i (.v 6) (.v 6),.b (.v 0) (.not (.and (.not (.v 0)) (.not (.v 2)))),.a h30aae6 h30aae6 h30aae7 2,.i h30aae7 h30aae7] [((.v 2),false),((.eq (.v 50) (.c 4)),true),((.eq (.v 50) (.c 2)),false),((.eq (.v 50) (.c 3)),false),((.le (.c 1) h30aae7),true),((.le h30aae7 h30aae8),true),((.ap 1 (.a h30aae6 (.i h30aae7 .nil))),true),((.le (.c 0) (.v 0)),true),((.le (.v 0) (.c 60)),true),((.le (.c 0) (.v 1)),true),((.le (.v 1) (.c 400)),true),((.ap 1 (.a (.v 0) (.i (.v 0) .nil))),true),((.lt (.v 1) (.v 6)),false),((.ap 6 (.a (.v 0) (.i (.v 0) (.i (.v 1) .nil)))),false),((.le (.c 0) (.v 31)),true),((.le (.v 31) (.c 1000)),true),((.le (.c 0) (.v 32)),true),((.le (.v 32) (.c 1000)),true),((.le (.c 0) (.v 33)),true),((.le (.v 33) (.c 1000)),true)]
noncomputable def h30aax6:Vl:= .out 0 [.i (.v 31) h30aae1,.i (.v 32) h30aae3,.i (.v 33) h30aae5,.i (.v 6) (.v 6),.b (.c true) (.not (.and (.not (.v 0)) (.not (.v 2)))),.a h30aae6 h30aae6 h30aae7 2,.i h30aae7 h30aae7] [((.v 2),true),((.eq (.v 50) (.c 4)),false),((.eq (.v 50) (.c 2)),false),((.eq (.v 50) (.c 3)),false),((.le (.c 1) h30aae7),true),((.le h30aae7 h30aae8),true),((.ap 1 (.a h30aae6 (.i h30aae7 .nil))),true),((.le (.c 0) (.v 0)),true),((.le (.v 0) (.c 60)),true),((.le (.c 0) (.v 1)),true),((.le (.v 1) (.c 400)),true),((.ap 1 (.a (.v 0) (.i (.v 0) .nil))),true),((.lt (.v 1) (.v 6)),false),((.ap 6 (.a (.v 0) (.i (.v 0) (.i (.v 1) .nil)))),false),((.le (.c 0) (.v 31)),true),((.le (.v 31) (.c 1000)),true),((.le (.c 0) (.v 32)),true),((.le (.v 32) (.c 1000)),true),((.le (.c 0) (.v 33)),true),((.le (.v 33) (.c 1000)),true)]
noncomputable def h30aax7:Vl:= .out 0 [.i (.v 31) h30aae1,.i (.v 32) h30aae3,.i (.v 33) h30aae5,.i (.v 6) (.v 6),.b (.v 0) (.not (.and (.not (.v 0)) (.not (.v 2)))),.a h30aae6 h30aae6 h30aae7 2,.i h30aae7 h30aae7] [((.v 2),false),((.eq (.v 50) (.c 4)),false),((.eq (.v 50) (.c 2)),false),((.eq (.v 50) (.c 3)),false),((.le (.c 1) h30aae7),true),((.le h30aae7 h30aae8),true),((.ap 1 (.a h30aae6 (.i h30aae7 .nil))),true),((.le (.c 0) (.v 0)),true),((.le (.v 0) (.c 60)),true),((.le (.c 0) (.v 1)),true),((.le (.v 1) (.c 400)),true),((.ap 1 (.a (.v 0) (.i (.v 0) .nil))),true),((.lt (.v 1) (.v 6)),false),((.ap 6 (.a (.v 0) (.i (.v 0) (.i (.v 1) .nil)))),false),((.le (.c 0) (.v 31)),true),((.le (.v 31) (.c 1000)),true),((.le (.c 0) (.v 32)),true),((.le (.v 32) (.c 1000)),true),((.le (.c 0) (.v 33)),true),((.le (.v 33) (.c 1000)),true)]
noncomputable def h30aals:List Vl:=[h30aax0,h30aax1,h30aax2,h30aax3,h30aax4,h30aax5,h30aax6,h30aax7]
theorem prm30a_ok {z:Bool} (E:Env) (hE:E.fn=fns):PrmOk E (prm30 Try.prog z):=prm_ok E hE (by
 intro c hc
 simp only [List.mem_cons,List.not_mem_nil,or_false] at hc
 subst hc;exact ct40_of z) (by intro b hb;cases hb)
theorem ct30_of (z:Bool):CtOk Try.prog fns (ct30 z):=by
 refine ct_of_pts (p:=prm30 Try.prog z) (pts:=[]) (n:=900) (c0:=enterD (prm30 Try.prog z) (ct30 z)) (fun E hE=>prm30a_ok E hE) rfl (by intro q hq;cases hq) Try.func30 (by cases z<;>kernel_rfl) (by intro t ht;cases ht) (fun _ _ _=>True) (fun _ _ _=>0) h30aals (by cases z<;>kernel_rfl) ?_ (by intro i t ht;cases ht)
 intro E hE hF
 obtain ⟨n,hn,hn60,p0,p1,hr⟩:=pre50 (s:=true) hE (fun q hq=>hF q (by
  have hq':q∈(bd (.v 0) 0 60++bd (.v 1) 0 400)++[rgF (.v 0) (.v 0)]:=hq
  simp only [ct30,List.mem_append] at hq'⊢
  rcases hq' with (h|h)|h
  ·simp [h]
  ·simp [h]
  ·simp at h;simp [h]))
 have D1:h30aae1.den E=if (E.i 50==3)=true then E.i 31+1 else E.i 31:=rfl
 have D3:h30aae3.den E=if (E.i 50==2)=true then E.i 32+1 else E.i 32:=rfl
 have D5:h30aae5.den E=if (E.i 50==4)=true then E.i 33+1 else E.i 33:=rfl
 have D0:h30aae0.den E=E.i 31+1:=rfl
 have D2:h30aae2.den E=E.i 32+1:=rfl
 have D4:h30aae4.den E=E.i 33+1:=rfl
 have DB:(SB.not (.and (.not (.v 0)) (.not (.v 2)))).den E=(!(!E.b 0&&!E.b 2)):=rfl
 have DT:(SB.c true).den E=true:=rfl
 have DV: ∀k,(SB.v k).den E=E.b k:=fun _=>rfl
 refine ⟨fun a ha=>?_,fun x hx=>?_⟩
 ·obtain rfl:=Option.some.inj ha;exact ad_facts hE hn p0 (by omega) hr
 ·unfold h30aals at hx
  simp only [List.mem_cons,List.not_mem_nil,or_false] at hx
  rcases hx with rfl|rfl|rfl|rfl|rfl|rfl|rfl|rfl
  all_goals
   intro hf
   refine ⟨rfl,?_⟩
   simp only [facts_cons,facts_nil,eq_t,eq_f,d_v,d_c,DV,and_true] at hf
   simp only [List.forall_mem_cons,List.not_mem_nil,false_imp_iff,implies_true,and_true,true_and,Eqn.ok]
   simp only [D0,D1,D2,D3,D4,D5,DB,DT,DV,d_v,beq_iff_eq]
   cases hb0:E.b 0<;>cases hb2:E.b 2<;>simp_all
theorem ct30a_ok:CtOk Try.prog fns (ct30 true):=ct30_of true
theorem ct30k_ok:CtOk Try.prog fns (ct30 false):=ct30_of false
end Go.Proofs.Ytgianhjmjiiadaa
end
