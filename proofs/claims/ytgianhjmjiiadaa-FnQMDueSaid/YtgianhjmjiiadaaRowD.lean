/- A frame that tells what came is due when it should be: at once, or when the alarm rings. Conditions: none. -/
import Derived.Test.YtgianhjmjiiadaaQmAc
import Derived.Test.YtgianhjmjiiadaaQmJk
import Derived.Test.YtgianhjmjiiadaaQmW
import Derived.KernelRfl
import Derived.Test.YtgianhjmjiiadaaQmAg
import Derived.Test.YtgianhjmjiiadaaQmE
import Derived.Test.YtgianhjmjiiadaaRows
import Derived.Test.YtgianhjmjiiadaaSyNs
import Derived.WalkKit
import Derived.ProofKit
import Derived.OpenShut
import Derived.ChangeOld
import Derived.Below
import Derived.SizedLaws
section
set_option autoImplicit true
set_option relaxedAutoImplicit true
set_option linter.unusedVariables false
set_option linter.unusedSimpArgs false
set_option maxRecDepth 100000
set_option maxHeartbeats 4000000
namespace Go.Proofs.Ytgianhjmjiiadaa
open Go Go.Sy Go.RowKit
noncomputable def h8iax0:Vl:= .go 0 [(100,(.c 0)),(133,(.c 0)),(132,(.c 0)),(131,(.c 0)),(110,(.c 0))] zcy [] [za,zb,(ze,true)] (.code (.loop (loopB (prm8k Try.prog).P 8 7))) (loopK (prm8k Try.prog).P 8 7)
noncomputable def h8ials:List Vl:=[h8iax0]
theorem h8iarun {z:Bool}:(run (prm8k Try.prog) 900 (enterD (prm8k Try.prog) (ct8k z))).map (vOf (prm8k Try.prog) (ct8k z) (pts8k Try.prog z))=h8ials:=by cases z<;>kernel_rfl
noncomputable def h8ip0e0:SE:= .mul (.v 110) (.c 6)
noncomputable def h8ip0e1:SE:= .rd (.v 5) h8ip0e0
noncomputable def h8ip0e2:SE:= .add (.v 110) (.c 1)
noncomputable def h8ip0e3:SE:= .mul (.v 110) (.c 128)
noncomputable def h8ip0e4:AE:= .ap 1 (.a (.v 124) (.i h8ip0e3 (.a (.v 20) .nil)))
noncomputable def h8ip0e5:AE:= .tl (.v 123) (.v 110) (.i (.v 1001) .nil)
noncomputable def h8ip0e6:AE:= .tl (.v 122) (.v 110) (.i (.c 0) .nil)
noncomputable def h8ip0e7:AE:= .tl (.v 121) (.v 110) (.i (.v 1000) .nil)
noncomputable def h8ip0e8:SE:= .mul (.v 110) (.c 8)
noncomputable def h8ip0e9:AE:= .tl (.v 120) h8ip0e8 zbx
noncomputable def h8ip0e10:SE:= .add h8ip0e0 (.c 2)
noncomputable def h8ip0e11:SE:= .rd (.v 5) h8ip0e10
noncomputable def h8ip0e12:SE:= .add h8ip0e0 (.c 3)
noncomputable def h8ip0e13:SE:= .rd (.v 5) h8ip0e12
noncomputable def h8ip0e14:SE:= .add h8ip0e0 (.c 1)
noncomputable def h8ip0e15:SE:= .rd (.v 5) h8ip0e14
noncomputable def h8ip0e16:SE:= .ap 3 (.a (.v 100) (.i (.v 100) (.i h8ip0e11 .nil)))
noncomputable def h8ip0e17:SE:= .ite (.eq h8ip0e15 (.c 3)) (.c 4) (.c 1)
noncomputable def h8ip0e18:SE:= .ite (.eq h8ip0e15 (.c 2)) (.c 3) h8ip0e17
noncomputable def h8ip0e19:SE:= .ite (.eq h8ip0e15 (.c 1)) (.c 2) h8ip0e18
noncomputable def h8ip0e20:SE:= .add (.v 133) (.c 1)
noncomputable def h8ip0e21:SE:= .ite (.eq h8ip0e19 (.c 4)) h8ip0e20 (.v 133)
noncomputable def h8ip0e22:SE:= .add (.v 132) (.c 1)
noncomputable def h8ip0e23:SE:= .ite (.eq h8ip0e19 (.c 2)) h8ip0e22 (.v 132)
noncomputable def h8ip0e24:SE:= .add (.v 131) (.c 1)
noncomputable def h8ip0e25:SE:= .ite (.eq h8ip0e19 (.c 3)) h8ip0e24 (.v 131)
noncomputable def h8ip0e26:SE:= .add h8ip0e0 (.c 4)
noncomputable def h8ip0e27:SE:= .rd (.v 5) h8ip0e26
noncomputable def h8ip0e28:AE:= .tl (.v 120) h8ip0e8 zby
noncomputable def h8ip0e29:AE:= .ap 3 (.a (.v 100) (.i (.v 100) (.i h8ip0e11 .nil)))
noncomputable def h8ip0e30:SE:= .add (.v 100) (.c 1)
noncomputable def h8ip0e31:AE:= .ap 8 zbz
noncomputable def h8ip0e32:AE:= .tl (.v 120) h8ip0e8 (.b (.ap 6 (.a (.v 100) (.i (.v 100) (.i h8ip0e11 .nil)))) (.b (.c false) zbw))
noncomputable def h8ip0e33:AE:= .ap 23 (.a (.v 5) .nil)
noncomputable def h8ip0e34:AE:= .ap 24 (.a (.v 5) .nil)
noncomputable def h8ip0e35:AE:= .ap 25 (.a (.v 5) .nil)
noncomputable def h8ip0f0:Fx:=[za,zb,(ze,true),zb0,zcz,zb2,zb3,zb4,zb6,zbo,zbp,zca,zc0,zbq,zc1]
noncomputable def h8ip0f1:Fx:=((.eq h8ip0e1 (.c 2)),false)::zcn::h8ip0f0
noncomputable def zee:Fx:=((.eq h8ip0e1 (.c 4)),false)::h8ip0f1
noncomputable def h8ip0f2:Fx:=((.le (.c 0) h8ip0e15),true)::zee
noncomputable def zef:Fx:=((.le h8ip0e15 (.c 3)),true)::h8ip0f2
noncomputable def h8ip0f3:Fx:=((.le (.c 0) h8ip0e11),true)::zef
noncomputable def zeg:Fx:=((.le h8ip0e11 (.c 400)),true)::h8ip0f3
noncomputable def h8ip0f4:Fx:=((.le (.c 0) h8ip0e13),true)::zeg
noncomputable def zeh:SB:= .le h8ip0e13 (.c 1000000000000000)
noncomputable def h8ip0f5:Fx:=(zeh,true)::h8ip0f4
noncomputable def zei:Fx:=((.eq h8ip0e1 (.c 0)),false)::h8ip0f5
noncomputable def h8ip0f6:Fx:=((.eq h8ip0e1 (.c 1)),true)::zei
noncomputable def h8ip0f7:Fx:=zcp::h8ip0f6
noncomputable def h8ip0f8:Fx:=((.eq h8ip0e1 (.c 1)),false)::zei
noncomputable def h8ip0x0:Vl:= .dead (((.eq h8ip0e1 (.c 2)),true)::zcn::h8ip0f0)
noncomputable def h8ip0x1:Vl:= .dead (((.eq h8ip0e1 (.c 4)),true)::h8ip0f1)
noncomputable def zej:List (Nat×SE):=[(110,h8ip0e2)]
noncomputable def zek:List (Nat×AE):=[(124,h8ip0e4),(123,h8ip0e5),(122,h8ip0e6),(121,h8ip0e7),(120,h8ip0e9)]
noncomputable def zel:Fx:=((.eq h8ip0e1 (.c 0)),true)::h8ip0f5
noncomputable def h8ip0x2:Vl:= .go 0 zej [] zek (((.ap 6 (.a (.v 100) (.i (.v 100) (.i h8ip0e11 .nil)))),true)::zel) (.exit .normal) (.loop (loopB (prm8k Try.prog).P 8 7)::loopK (prm8k Try.prog).P 8 7)
noncomputable def zem:List (Nat×SE):=[(100,h8ip0e16),(133,h8ip0e21),(132,h8ip0e23),(131,h8ip0e25),(110,h8ip0e2)]
noncomputable def zen:List (Nat×AE):=[(124,h8ip0e4),(123,h8ip0e5),(122,h8ip0e6),(121,h8ip0e7),(120,h8ip0e28),(100,h8ip0e29)]
noncomputable def h8ip0x3:Vl:= .go 0 zem [(100,(.not (.and (.not (.v 100)) (.eq h8ip0e27 (.c 0)))))] zen (((.le (.c 1) h8ip0e16),true)::((.le h8ip0e16 h8ip0e30),true)::((.ap 1 (.a h8ip0e29 (.i h8ip0e16 .nil))),true)::((.ap 6 (.a (.v 100) (.i (.v 100) (.i h8ip0e11 .nil)))),false)::zel) (.exit .normal) (.loop (loopB (prm8k Try.prog).P 8 7)::loopK (prm8k Try.prog).P 8 7)
noncomputable def h8ip0x4:Vl:= .dead (zcq::h8ip0f6)
noncomputable def h8ip0x5:Vl:= .go 2 zc2 zcy [(102,h8ip0e31)] (zcr::h8ip0f7) (.code (.loop (loopB (prm8k Try.prog).P 8 19))) (loopK (prm8k Try.prog).P 8 19)
noncomputable def zeo:List (Nat×AE):=[(124,h8ip0e4),(123,h8ip0e5),(122,h8ip0e6),(121,h8ip0e7),(120,h8ip0e28)]
noncomputable def h8ip0x6:Vl:= .go 0 zej [] zeo (zcs::h8ip0f7) (.exit .normal) (.loop (loopB (prm8k Try.prog).P 8 7)::loopK (prm8k Try.prog).P 8 7)
noncomputable def zep:List (Nat×AE):=[(124,h8ip0e4),(123,h8ip0e5),(122,h8ip0e6),(121,h8ip0e7),(120,h8ip0e32)]
noncomputable def h8ip0x7:Vl:= .go 0 zej [] zep (((.eq h8ip0e1 (.c 3)),true)::h8ip0f8) (.exit .normal) (.loop (loopB (prm8k Try.prog).P 8 7)::loopK (prm8k Try.prog).P 8 7)
noncomputable def h8ip0x8:Vl:= .go 0 zej [] zeo (((.eq h8ip0e1 (.c 3)),false)::h8ip0f8) (.exit .normal) (.loop (loopB (prm8k Try.prog).P 8 7)::loopK (prm8k Try.prog).P 8 7)
noncomputable def h8ip0x9:Vl:= .dead ((zeh,false)::h8ip0f4)
noncomputable def h8ip0x10:Vl:= .dead (((.le (.c 0) h8ip0e13),false)::zeg)
noncomputable def h8ip0x11:Vl:= .dead (((.le h8ip0e11 (.c 400)),false)::h8ip0f3)
noncomputable def h8ip0x12:Vl:= .dead (((.le (.c 0) h8ip0e11),false)::zef)
noncomputable def h8ip0x13:Vl:= .dead (((.le h8ip0e15 (.c 3)),false)::h8ip0f2)
noncomputable def h8ip0x14:Vl:= .dead (((.le (.c 0) h8ip0e15),false)::zee)
noncomputable def h8ip0x15:Vl:= .out 0 [.a (.v 5) (.v 5) (.v 60) 6,.i (.v 60) (.v 60),.p 1000 (.i (.v 110) (.a (.v 120) (.a (.v 121) (.a (.v 122) (.a (.v 123) (.a (.v 124) .nil)))))) (.i (.v 60) (.a h8ip0e33 (.a (.v 500) (.a h8ip0e34 (.a (.v 501) (.a h8ip0e35 .nil))))))] (zct::h8ip0f0)
noncomputable def h8ip0ls:List Vl:=[h8ip0x0,h8ip0x1,h8ip0x2,h8ip0x3,h8ip0x4,h8ip0x5,h8ip0x6,h8ip0x7,h8ip0x8,h8ip0x9,h8ip0x10,h8ip0x11,h8ip0x12,h8ip0x13,h8ip0x14,h8ip0x15]
theorem h8ip0run {z:Bool}:(run (prm8k Try.prog) 900 (ptD (pts8k Try.prog z) 0 8)).map (vOf (prm8k Try.prog) (ct8k z) (pts8k Try.prog z))=h8ip0ls:=by cases z<;>kernel_rfl
noncomputable def h8ip1e0:SE:= .mul (.v 110) (.c 6)
noncomputable def h8ip1e1:SE:= .rd (.v 5) h8ip1e0
noncomputable def h8ip1e2:SE:= .add (.v 110) (.c 1)
noncomputable def h8ip1e3:SE:= .mul (.v 110) (.c 128)
noncomputable def h8ip1e4:AE:= .ap 1 (.a (.v 124) (.i h8ip1e3 (.a (.v 20) .nil)))
noncomputable def h8ip1e5:AE:= .tl (.v 123) (.v 110) (.i (.v 1001) .nil)
noncomputable def h8ip1e6:AE:= .tl (.v 122) (.v 110) (.i (.c 0) .nil)
noncomputable def h8ip1e7:AE:= .tl (.v 121) (.v 110) (.i (.v 1000) .nil)
noncomputable def h8ip1e8:SE:= .mul (.v 110) (.c 8)
noncomputable def h8ip1e9:AE:= .tl (.v 120) h8ip1e8 zbx
noncomputable def h8ip1e10:SE:= .add h8ip1e0 (.c 2)
noncomputable def h8ip1e11:SE:= .rd (.v 5) h8ip1e10
noncomputable def h8ip1e12:SE:= .add h8ip1e0 (.c 3)
noncomputable def h8ip1e13:SE:= .rd (.v 5) h8ip1e12
noncomputable def h8ip1e14:SE:= .add h8ip1e0 (.c 1)
noncomputable def h8ip1e15:SE:= .rd (.v 5) h8ip1e14
noncomputable def h8ip1e16:SE:= .ap 3 (.a (.v 100) (.i (.v 100) (.i h8ip1e11 .nil)))
noncomputable def h8ip1e17:SE:= .ite (.eq h8ip1e15 (.c 3)) (.c 4) (.c 1)
noncomputable def h8ip1e18:SE:= .ite (.eq h8ip1e15 (.c 2)) (.c 3) h8ip1e17
noncomputable def h8ip1e19:SE:= .ite (.eq h8ip1e15 (.c 1)) (.c 2) h8ip1e18
noncomputable def h8ip1e20:SE:= .add (.v 133) (.c 1)
noncomputable def h8ip1e21:SE:= .ite (.eq h8ip1e19 (.c 4)) h8ip1e20 (.v 133)
noncomputable def h8ip1e22:SE:= .add (.v 132) (.c 1)
noncomputable def h8ip1e23:SE:= .ite (.eq h8ip1e19 (.c 2)) h8ip1e22 (.v 132)
noncomputable def h8ip1e24:SE:= .add (.v 131) (.c 1)
noncomputable def h8ip1e25:SE:= .ite (.eq h8ip1e19 (.c 3)) h8ip1e24 (.v 131)
noncomputable def h8ip1e26:SE:= .add h8ip1e0 (.c 4)
noncomputable def h8ip1e27:SE:= .rd (.v 5) h8ip1e26
noncomputable def h8ip1e28:AE:= .tl (.v 120) h8ip1e8 zby
noncomputable def h8ip1e29:AE:= .ap 3 (.a (.v 100) (.i (.v 100) (.i h8ip1e11 .nil)))
noncomputable def h8ip1e30:SE:= .add (.v 100) (.c 1)
noncomputable def h8ip1e31:AE:= .ap 8 zbz
noncomputable def h8ip1e32:AE:= .tl (.v 120) h8ip1e8 (.b (.ap 6 (.a (.v 100) (.i (.v 100) (.i h8ip1e11 .nil)))) (.b (.c false) zbw))
noncomputable def h8ip1f0:Fx:=[za,zb,(ze,true),zb0,zcz,zb2,zb3,zb4,zb6,zbo,zbp,zca,zc0,zbq,zc1,zcv,zcw,zcx]
noncomputable def h8ip1f1:Fx:=((.eq h8ip1e1 (.c 2)),false)::zcn::h8ip1f0
noncomputable def zeq:Fx:=((.eq h8ip1e1 (.c 4)),false)::h8ip1f1
noncomputable def h8ip1f2:Fx:=((.le (.c 0) h8ip1e15),true)::zeq
noncomputable def zer:Fx:=((.le h8ip1e15 (.c 3)),true)::h8ip1f2
noncomputable def h8ip1f3:Fx:=((.le (.c 0) h8ip1e11),true)::zer
noncomputable def zes:Fx:=((.le h8ip1e11 (.c 400)),true)::h8ip1f3
noncomputable def h8ip1f4:Fx:=((.le (.c 0) h8ip1e13),true)::zes
noncomputable def zet:SB:= .le h8ip1e13 (.c 1000000000000000)
noncomputable def h8ip1f5:Fx:=(zet,true)::h8ip1f4
noncomputable def zeu:Fx:=((.eq h8ip1e1 (.c 0)),false)::h8ip1f5
noncomputable def h8ip1f6:Fx:=((.eq h8ip1e1 (.c 1)),true)::zeu
noncomputable def h8ip1f7:Fx:=zcp::h8ip1f6
noncomputable def h8ip1f8:Fx:=((.eq h8ip1e1 (.c 1)),false)::zeu
noncomputable def h8ip1x0:Vl:= .dead (((.eq h8ip1e1 (.c 2)),true)::zcn::h8ip1f0)
noncomputable def h8ip1x1:Vl:= .dead (((.eq h8ip1e1 (.c 4)),true)::h8ip1f1)
noncomputable def zev:List (Nat×SE):=[(110,h8ip1e2)]
noncomputable def zew:List (Nat×AE):=[(124,h8ip1e4),(123,h8ip1e5),(122,h8ip1e6),(121,h8ip1e7),(120,h8ip1e9)]
noncomputable def zex:Fx:=((.eq h8ip1e1 (.c 0)),true)::h8ip1f5
noncomputable def h8ip1x2:Vl:= .go 1 zev [] zew (((.ap 6 (.a (.v 100) (.i (.v 100) (.i h8ip1e11 .nil)))),true)::zex) (.exit .normal) (.loop (loopB (prm8k Try.prog).P 8 7)::loopK (prm8k Try.prog).P 8 7)
noncomputable def zey:List (Nat×SE):=[(100,h8ip1e16),(133,h8ip1e21),(132,h8ip1e23),(131,h8ip1e25),(110,h8ip1e2)]
noncomputable def zez:List (Nat×AE):=[(124,h8ip1e4),(123,h8ip1e5),(122,h8ip1e6),(121,h8ip1e7),(120,h8ip1e28),(100,h8ip1e29)]
noncomputable def h8ip1x3:Vl:= .go 1 zey [(100,(.not (.and (.not (.v 100)) (.eq h8ip1e27 (.c 0)))))] zez (((.le (.c 1) h8ip1e16),true)::((.le h8ip1e16 h8ip1e30),true)::((.ap 1 (.a h8ip1e29 (.i h8ip1e16 .nil))),true)::((.ap 6 (.a (.v 100) (.i (.v 100) (.i h8ip1e11 .nil)))),false)::zex) (.exit .normal) (.loop (loopB (prm8k Try.prog).P 8 7)::loopK (prm8k Try.prog).P 8 7)
noncomputable def h8ip1x4:Vl:= .dead (zcq::h8ip1f6)
noncomputable def h8ip1x5:Vl:= .go 2 zc2 zcy [(102,h8ip1e31)] (zcr::h8ip1f7) (.code (.loop (loopB (prm8k Try.prog).P 8 19))) (loopK (prm8k Try.prog).P 8 19)
noncomputable def ze0:List (Nat×AE):=[(124,h8ip1e4),(123,h8ip1e5),(122,h8ip1e6),(121,h8ip1e7),(120,h8ip1e28)]
noncomputable def h8ip1x6:Vl:= .go 1 zev [] ze0 (zcs::h8ip1f7) (.exit .normal) (.loop (loopB (prm8k Try.prog).P 8 7)::loopK (prm8k Try.prog).P 8 7)
noncomputable def ze1:List (Nat×AE):=[(124,h8ip1e4),(123,h8ip1e5),(122,h8ip1e6),(121,h8ip1e7),(120,h8ip1e32)]
noncomputable def h8ip1x7:Vl:= .go 1 zev [] ze1 (((.eq h8ip1e1 (.c 3)),true)::h8ip1f8) (.exit .normal) (.loop (loopB (prm8k Try.prog).P 8 7)::loopK (prm8k Try.prog).P 8 7)
noncomputable def h8ip1x8:Vl:= .go 1 zev [] ze0 (((.eq h8ip1e1 (.c 3)),false)::h8ip1f8) (.exit .normal) (.loop (loopB (prm8k Try.prog).P 8 7)::loopK (prm8k Try.prog).P 8 7)
noncomputable def h8ip1x9:Vl:= .dead ((zet,false)::h8ip1f4)
noncomputable def h8ip1x10:Vl:= .dead (((.le (.c 0) h8ip1e13),false)::zes)
noncomputable def h8ip1x11:Vl:= .dead (((.le h8ip1e11 (.c 400)),false)::h8ip1f3)
noncomputable def h8ip1x12:Vl:= .dead (((.le (.c 0) h8ip1e11),false)::zer)
noncomputable def h8ip1x13:Vl:= .dead (((.le h8ip1e15 (.c 3)),false)::h8ip1f2)
noncomputable def h8ip1x14:Vl:= .dead (((.le (.c 0) h8ip1e15),false)::zeq)
noncomputable def h8ip1x15:Vl:= .out 0 [.a (.v 5) (.v 5) (.v 60) 6,.i (.v 60) (.v 60),.p 1000 (.i (.v 110) (.a (.v 120) (.a (.v 121) (.a (.v 122) (.a (.v 123) (.a (.v 124) .nil)))))) (.i (.v 60) (.a h8ip0e33 (.a (.v 500) (.a h8ip0e34 (.a (.v 501) (.a h8ip0e35 .nil))))))] (zct::h8ip1f0)
noncomputable def h8ip1ls:List Vl:=[h8ip1x0,h8ip1x1,h8ip1x2,h8ip1x3,h8ip1x4,h8ip1x5,h8ip1x6,h8ip1x7,h8ip1x8,h8ip1x9,h8ip1x10,h8ip1x11,h8ip1x12,h8ip1x13,h8ip1x14,h8ip1x15]
theorem h8ip1run {z:Bool}:(run (prm8k Try.prog) 900 (ptD (pts8k Try.prog z) 1 8)).map (vOf (prm8k Try.prog) (ct8k z) (pts8k Try.prog z))=h8ip1ls:=by cases z<;>kernel_rfl
noncomputable def h8ip2e0:SE:= .add (.v 150) (.c 1)
noncomputable def h8ip2e1:SE:= .mul (.v 150) (.c 2)
noncomputable def h8ip2e2:SE:= .rd (.v 102) h8ip2e1
noncomputable def h8ip2e3:SE:= .add h8ip2e1 (.c 1)
noncomputable def h8ip2e4:SE:= .rd (.v 102) h8ip2e3
noncomputable def h8ip2e5:AE:= .tl (.v 103) h8ip2e1 (.i h8ip2e2 (.i h8ip2e4 .nil))
noncomputable def h8ip2e6:SE:= .add (.v 110) (.c 1)
noncomputable def h8ip2e7:SE:= .mul (.v 110) (.c 128)
noncomputable def h8ip2e8:AE:= .ap 1 (.a (.v 124) (.i h8ip2e7 (.a (.v 103) .nil)))
noncomputable def h8ip2e9:AE:= .tl (.v 123) (.v 110) (.i (.v 1001) .nil)
noncomputable def h8ip2e10:AE:= .tl (.v 122) (.v 110) (.i (.v 150) .nil)
noncomputable def h8ip2e11:AE:= .tl (.v 121) (.v 110) (.i (.v 1000) .nil)
noncomputable def h8ip2e12:SE:= .mul (.v 110) (.c 8)
noncomputable def h8ip2e13:AE:= .tl (.v 120) h8ip2e12 (.b (.c true) (.b (.c false) (.i (.c 0) (.i (.c 0) (.i (.c 0) (.i (.v 131) (.i (.v 132) (.i (.v 133) .nil))))))))
noncomputable def h8ip2f0:Fx:=[za,zb,(ze,true),zb0,zcz,zb2,zb3,zb4,zb6,zbo,zbp,zca,zc0,zbq,zc1,zcv,zcw,zcx,((.le (.c 0) (.v 150)),true),((.le (.v 150) (.c 51)),true),((.le (.v 150) (.v 140)),true),zcn]
noncomputable def h8ip2x0:Vl:= .go 2 [(150,h8ip2e0)] [] [(103,h8ip2e5)] (((.lt (.v 150) (.v 140)),true)::h8ip2f0) (.exit .normal) (.loop (loopB (prm8k Try.prog).P 8 19)::loopK (prm8k Try.prog).P 8 19)
noncomputable def ze2:List (Nat×AE):=[(124,h8ip2e8),(123,h8ip2e9),(122,h8ip2e10),(121,h8ip2e11),(120,h8ip2e13)]
noncomputable def h8ip2x1:Vl:= .go 1 [(110,h8ip2e6)] [] ze2 (((.lt (.v 150) (.v 140)),false)::h8ip2f0) (.exit .normal) (.loop (loopB (prm8k Try.prog).P 8 7)::loopK (prm8k Try.prog).P 8 7)
noncomputable def h8ip2ls:List Vl:=[h8ip2x0,h8ip2x1]
theorem h8ip2run {z:Bool}:(run (prm8k Try.prog) 900 (ptD (pts8k Try.prog z) 2 8)).map (vOf (prm8k Try.prog) (ct8k z) (pts8k Try.prog z))=h8ip2ls:=by cases z<;>kernel_rfl
theorem prm8k_ok (E:Env) (hE:E.fn=fns):PrmOk E (prm8k Try.prog) where
 bt:=by
  intro b hb
  rw [hE]
  have:b=btRecApp 29 1000 1 rq:=by simpa [prm8k] using hb
  subst this
  obtain ⟨i,z,hi,hz,hzc,his,hib⟩:=info_of i35
  exact btRecApp_ok rokq t29 hi hz (by rw [hzc,his]) his (by omega) (by decide) (by decide)
 ct:=by
  intro c hc
  have:c=ct19∨c=ct39 false∨c=ct30 false∨c=ct33kn∨c=ct33kt:=by simpa [prm8k] using hc
  rw [hE]
  rcases this with rfl|rfl|rfl|rfl|rfl
  ·exact ct19_ok
  ·exact ct39k_ok
  ·exact ct30k_ok
  ·exact ct33kn_ok
  ·exact ct33kt_ok
 mix:=Checked.mixed Try.checked
 okf:=okf_call
 body:=okf_body
 mts:=by intro x hx;cases hx
 dfr:=by
  intro f hf a w
  have:f=13:=by simpa [prm8k] using hf
  subst this
  exact catch_idle a w
 dfk:=by
  intro f hf
  have:f=13:=by simpa [prm8k] using hf
  subst this;decide
theorem outK {E0 E:Env} {i:Nat} {sp:Bool} (hE0:E0.fn=fns) (hE:E.fn=fns) (hR:RK E0 E i) (hin:i=(E0.i 60).toNat) (hn0:0≤E0.i 60) {a:Nat} {es:List Eqn} (ha:a=0:=by rfl)
 (hes:es=[.a (.v 5) (.v 5) (.v 60) 6,.i (.v 60) (.v 60),.p 1000 (.i (.v 110) (.a (.v 120) (.a (.v 121) (.a (.v 122) (.a (.v 123) (.a (.v 124) .nil)))))) (.i (.v 60) (.a (.ap 23 slS) (.a (.v 500) (.a (.ap 24 slS) (.a (.v 501) (.a (.ap 25 slS) .nil))))))]:=by rfl):
 altSel E0 (ct8k sp).alts=(ct8k sp).alts[a]?∧ ∃V,(∀q∈es,q.ok E (E0.upd xb (ct8k sp).nx V))∧ ∀a',(ct8k sp).alts[a]?=some a'→Facts (E0.upd xb (ct8k sp).nx V) a'.xf:=by
 subst ha;subst hes
 obtain ⟨V,hV⟩: ∃V:Env,V={ E0 with a:=fun j=>if j=500 then E.a 121 else E.a 123 }:=⟨_,rfl⟩
 have HU:AgE 500 E0 (E0.upd xb 2 V):=Env.upd_ag E0 xb 2 V
 have HJ:AgP 100 (E0.upd xb 2 V) E:=⟨fun j hj=>(hR.ag.i j hj).trans (HU.i j (by omega)).symm,fun j hj=>(hR.ag.b j hj).trans (HU.b j (by omega)).symm,fun j hj=>(hR.ag.a j hj).trans (HU.a j (by omega)).symm,hR.ag.fn.trans HU.fn.symm⟩
 have hEU:(E0.upd xb 2 V).fn=fns:=HU.fn.trans hE0
 have u60:(E0.upd xb 2 V).i 60=E0.i 60:=HU.i 60 (by decide)
 have u5:(E0.upd xb 2 V).a 5=E0.a 5:=HU.a 5 (by decide)
 have u500:(E0.upd xb 2 V).a 500=E.a 121:=by
  show (if xb≤500∧500<xb+2 then V.a (xb+(500 - xb)) else E0.a 500)=_
  rw [if_pos ⟨by decide,by decide⟩,hV];rfl
 have u501:(E0.upd xb 2 V).a 501=E.a 123:=by
  show (if xb≤501∧501<xb+2 then V.a (xb+(501 - xb)) else E0.a 501)=_
  rw [if_pos ⟨by decide,by decide⟩,hV];rfl
 have av: ∀(j:Nat) (X:Env),(AE.v j).den X=X.a j:=fun j X=>by funext t;simp only [AE.den]
 have hnn:((SE.v 60).den (E0.upd xb 2 V)).toNat=i:=by
  show ((E0.upd xb 2 V).i 60).toNat=i
  rw [u60];exact hin.symm
 have c20: ∀(n:Nat) (f:(Nat→Int)→Nat→Int),(∀l,fns.a n [.a l]=f l)→(AE.ap n slS).den (E0.upd xb 2 V)=f (E0.a 5):=fun n f hf=>by
  funext t;simp only [AE.den,slS,SL.den,hEU]
  show fns.a n [.a (fun j=>(E0.upd xb 2 V).a 5 j)] t=_
  rw [hf,u5]
 refine ⟨rfl,V,?_,fun a' ha'=>(by cases ha';intro q hq;cases hq)⟩
 have r1:(Eqn.a (.v 5) (.v 5) (.v 60) 6).ok E (E0.upd xb 2 V):=Eqn.a_ag HJ _ _ _ rfl
 have r0:(Eqn.i (.v 60) (.v 60)).ok E (E0.upd xb 2 V):=Eqn.i_ag HJ _ rfl
 have r2:(Eqn.p 1000 (.i (.v 110) (.a (.v 120) (.a (.v 121) (.a (.v 122) (.a (.v 123) (.a (.v 124) .nil)))))) (.i (.v 60) (.a (.ap 23 slS) (.a (.v 500) (.a (.ap 24 slS) (.a (.v 501) (.a (.ap 25 slS) .nil))))))).ok E (E0.upd xb 2 V):=by
  refine Eqn.recs rokq hE hEU (by rw [hnn];show (E.i 110).toNat=i;rw [hR.i110];omega) (by rw [av,av,u500]) (by rw [av,av,u501]) (fun j hj=>?_) (fun k hk=>?_) (fun a f u ha hf hu=>?_)
  ·rw [hnn] at hj
   rw [av,c20 23 colA0 (fun l=>rfl)];exact hR.A j hj
  ·rw [hnn] at hk
   rw [av,c20 24 colL0 (fun l=>rfl)]
   have hk':k<i*1:=hk
   exact hR.L k (by omega)
  ·rw [hnn] at ha
   have hf1:f<1:=hf
   have hf0:f=0:=by omega
   subst hf0
   rw [av] at hu⊢
   rw [c20 25 colC0 (fun l=>rfl)]
   have e1:a*rq.m+0=a:=by show a*1+0=a;omega
   rw [e1] at hu⊢
   have e2:(rq.nk 0).length=2:=rfl
   rw [e2,hR.L a (by omega)] at hu
   exact hR.C a (by omega) u hu
 intro q hq
 simp only [List.mem_cons,List.not_mem_nil,or_false] at hq
 rcases hq with rfl|rfl|rfl
 ·exact r1
 ·exact r0
 ·exact r2
theorem h8ip0x3_st {E:Env} (hE:E.fn=fns) (o:Nat→Value):rcvK (ofK false E) ((rsE 2).den E) ((rsE 1).den E) ((SB.eq (rsE 4) (.c 0)).den E)=ofK false (E.put zem [(100,(.not (.and (.not (.v 100)) (.eq h8ip0e27 (.c 0)))))] zen o):=by
 obtain ⟨ii,bb,aa,oo,fn⟩:=E
 have:fn=fns:=hE
 subst this;rfl
theorem h8ip0x5_st {E:Env} (hE:E.fn=fns) (o:Nat→Value):framK (ofK false E)=ofK true (E.put zc2 zcy [(102,h8ip0e31)] o):=by
 obtain ⟨ii,bb,aa,oo,fn⟩:=E
 have:fn=fns:=hE
 subst this;rfl
theorem h8ip0x0_ok {z:Bool} {E0 E:Env} {i b:Nat} (c:CK E0 E i false b):VOkX (pts8k Try.prog z) (ct8k z) IK mu8 (some b) E0 E h8ip0x0:=by
 intro hf
 have hlt:=c.lt (fat hf 1 rfl)
 have h1:=c.kd (n:=2) (fat hf 0 rfl)
 rw [(off_c _ i).1] at h1
 exact (c.P.S.k2 i hlt).1 h1
theorem h8ip0x1_ok {z:Bool} {E0 E:Env} {i b:Nat} (c:CK E0 E i false b):VOkX (pts8k Try.prog z) (ct8k z) IK mu8 (some b) E0 E h8ip0x1:=by
 intro hf
 have hlt:=c.lt (fat hf 2 rfl)
 have h1:=c.kd (n:=4) (fat hf 0 rfl)
 rw [(off_c _ i).1] at h1
 exact (c.P.S.k2 i hlt).2 h1
theorem h8ip0x2_ok {z:Bool} {E0 E:Env} {i b:Nat} (c:CK E0 E i false b):VOkX (pts8k Try.prog z) (ct8k z) IK mu8 (some b) E0 E h8ip0x2:=by
 intro hf
 have hlt:=c.lt (fat hf 10 rfl)
 have hk:=c.kd (n:=0) (fat hf 1 rfl)
 have ho:=(c.old hlt).trans (fat hf 0 rfl)
 refine ⟨⟨_,rfl,.inr ⟨rfl,rfl⟩⟩,fun o=>?_⟩
 have R':RK E0 (E.put zej [] zek o) (i+1):=c.fin hlt (.c false) (.c true) (.c 0) (.c 0) (.c 0) (.c 0) (.c 0) (.v 20) (c.R.ag.put o) rfl rfl (say_old hk ho) rfl (colL_f (frA_f (by rw [hk];decide))).symm rfl (fun u hu=>by rw [show colL0 (E0.a 5) i=_ from colL_f (frA_f (by rw [hk];decide))] at hu;exact absurd hu (Nat.not_lt_zero _))
 exact ⟨IK.mk0 R' (by rw [st_old hk ho];exact ⟨c.S.e,c.S.a,c.S.n0,c.S.m0⟩),fun b' hb=>by cases hb;exact c.mu hlt rfl (by decide)⟩
theorem h8ip0x3_ok {z:Bool} {E0 E:Env} {i b:Nat} (c:CK E0 E i false b):VOkX (pts8k Try.prog z) (ct8k z) IK mu8 (some b) E0 E h8ip0x3:=by
 intro hf
 have hlt:=c.lt (fat hf 13 rfl)
 have hk:=c.kd (n:=0) (fat hf 4 rfl)
 have ho:=(c.old hlt).trans (fat hf 3 rfl)
 have hn:(1:Int)≤h8ip0e16.den E:=le_t.1 (fat hf 0 rfl)
 refine ⟨⟨_,rfl,.inr ⟨rfl,rfl⟩⟩,fun o=>?_⟩
 have R':RK E0 (E.put zem [(100,(.not (.and (.not (.v 100)) (.eq h8ip0e27 (.c 0)))))] zen o) (i+1):=c.fin hlt (.c false) (.c false) (.c 0) (.c 0) (.c 0) (.c 0) (.c 0) (.v 20) (c.R.ag.put o) rfl rfl (say_new hk ho) rfl (colL_f (frA_f (by rw [hk];decide))).symm rfl (fun u hu=>by rw [show colL0 (E0.a 5) i=_ from colL_f (frA_f (by rw [hk];decide))] at hu;exact absurd hu (Nat.not_lt_zero _))
 exact ⟨IK.mk0 R' (SK.of (by rw [st_new hk ho,c.S.rcv _ _ _ c.el,←c.pn,←c.ec];exact h8ip0x3_st c.hE o) (by show 0≤h8ip0e16.den E;omega) (fun h=>(by cases h))),fun b' hb=>by cases hb;exact c.mu hlt rfl (by decide)⟩
theorem h8ip0x4_ok {z:Bool} {E0 E:Env} {i b:Nat} (c:CK E0 E i false b):VOkX (pts8k Try.prog z) (ct8k z) IK mu8 (some b) E0 E h8ip0x4:=by
 intro hf
 exact c.dead1 (fat hf 0 rfl)
theorem h8ip0x5_ok {z:Bool} {E0 E:Env} {i b:Nat} (c:CK E0 E i false b):VOkX (pts8k Try.prog z) (ct8k z) IK mu8 (some b) E0 E h8ip0x5:=by
 intro hf
 have hlt:=c.lt (fat hf 12 rfl)
 have hk:=c.kd (n:=1) (fat hf 2 rfl)
 have ha:=c.asks.trans (show E.b 100=true from fat hf 0 rfl)
 have hfr:=frA_t hk ha
 have hnw:(sAt (offS (E0.a 5)) i).nw=true:=by rw [show (sAt (offS (E0.a 5)) i).nw=E.b 100 from congrArg KS.nw c.S.e];exact fat hf 0 rfl
 have hn1:=c.I.nw hnw
 have hn2:=c.I.n1
 have hn:=c.S.n
 refine ⟨⟨_,rfl,.inl ⟨rfl,rfl⟩⟩,fun o=>?_⟩
 refine ⟨IK.mk2 (q:=0) (E:=(E.put zc2 zcy [(102,h8ip0e31)] o)) ⟨c.R.ag.put o,c.R.i110,c.R.le,c.R.A,c.R.L,c.R.C⟩ (SK.of (by rw [st_fr hk ha,c.S.fram (by omega)];exact h8ip0x5_st c.hE o) c.S.n0 (fun _=>c.S.n0)) ⟨hlt,hfr,rfl,c.S.n0,fun t ht=>absurd ht (Nat.not_lt_zero _)⟩,fun b' hb=>?_⟩
 cases hb
 rw [c.b]
 show (E0.i 60 - E.i 110).toNat*200+(E.i 100 - 0).toNat<_
 omega
theorem h8ip0x6_ok {z:Bool} {E0 E:Env} {i b:Nat} (c:CK E0 E i false b):VOkX (pts8k Try.prog z) (ct8k z) IK mu8 (some b) E0 E h8ip0x6:=by
 intro hf
 have hlt:=c.lt (fat hf 12 rfl)
 have hk:=c.kd (n:=1) (fat hf 2 rfl)
 have ha:=c.asks.trans (show E.b 100=false from fat hf 0 rfl)
 refine ⟨⟨_,rfl,.inr ⟨rfl,rfl⟩⟩,fun o=>?_⟩
 have R':RK E0 (E.put zej [] zeo o) (i+1):=c.fin hlt (.c false) (.c false) (.c 0) (.c 0) (.c 0) (.c 0) (.c 0) (.v 20) (c.R.ag.put o) rfl rfl (say_non hk ha) rfl (colL_f (frA_n ha)).symm rfl (fun u hu=>by rw [show colL0 (E0.a 5) i=_ from colL_f (frA_n ha)] at hu;exact absurd hu (Nat.not_lt_zero _))
 exact ⟨IK.mk0 R' (by rw [st_non hk ha];exact ⟨c.S.e,c.S.a,c.S.n0,c.S.m0⟩),fun b' hb=>by cases hb;exact c.mu hlt rfl (by decide)⟩
theorem h8ip0x7_ok {z:Bool} {E0 E:Env} {i b:Nat} (c:CK E0 E i false b):VOkX (pts8k Try.prog z) (ct8k z) IK mu8 (some b) E0 E h8ip0x7:=by
 intro hf
 have hlt:=c.lt (fat hf 11 rfl)
 have hk:=c.kd (n:=3) (fat hf 0 rfl)
 have hsy:=say_dup hk
 rw [c.old hlt] at hsy
 refine ⟨⟨_,rfl,.inr ⟨rfl,rfl⟩⟩,fun o=>?_⟩
 have R':RK E0 (E.put zej [] zep o) (i+1):=c.fin hlt (.ap 6 (.a (.v 100) (.i (.v 100) (.i h8ip0e11 .nil)))) (.c false) (.c 0) (.c 0) (.c 0) (.c 0) (.c 0) (.v 20) (c.R.ag.put o) rfl rfl (hsy) rfl (colL_f (frA_f (by rw [hk];decide))).symm rfl (fun u hu=>by rw [show colL0 (E0.a 5) i=_ from colL_f (frA_f (by rw [hk];decide))] at hu;exact absurd hu (Nat.not_lt_zero _))
 exact ⟨IK.mk0 R' (by rw [st_else (by rw [hk];decide) (by rw [hk];decide) (by rw [hk];decide)];exact ⟨c.S.e,c.S.a,c.S.n0,c.S.m0⟩),fun b' hb=>by cases hb;exact c.mu hlt rfl (by decide)⟩
theorem h8ip0x8_ok {z:Bool} {E0 E:Env} {i b:Nat} (c:CK E0 E i false b):VOkX (pts8k Try.prog z) (ct8k z) IK mu8 (some b) E0 E h8ip0x8:=by
 intro hf
 have hlt:=c.lt (fat hf 11 rfl)
 have n0:=c.nk (n:=0) (fat hf 2 rfl)
 have n1:=c.nk (n:=1) (fat hf 1 rfl)
 have n2:=c.nk (n:=2) (fat hf 10 rfl)
 have n3:=c.nk (n:=3) (fat hf 0 rfl)
 have n4:=c.nk (n:=4) (fat hf 9 rfl)
 have h3:=c.P.S.off.kd i hlt
 omega
theorem h8ip0x9_ok {z:Bool} {E0 E:Env} {i b:Nat} (c:CK E0 E i false b):VOkX (pts8k Try.prog z) (ct8k z) IK mu8 (some b) E0 E h8ip0x9:=by
 intro hf
 have hlt:=c.lt (fat hf 8 rfl)
 have h1:=le_f.1 (fat hf 0 rfl)
 have h2:=c.tm
 have h3:=c.P.S.off.tm i hlt
 have h4:(rsE 3).den E=h8ip0e13.den E:=rfl
 simp only [d_c] at h1
 omega
theorem h8ip0x10_ok {z:Bool} {E0 E:Env} {i b:Nat} (c:CK E0 E i false b):VOkX (pts8k Try.prog z) (ct8k z) IK mu8 (some b) E0 E h8ip0x10:=by
 intro hf
 have hlt:=c.lt (fat hf 7 rfl)
 have h1:=le_f.1 (fat hf 0 rfl)
 have h2:=c.tm
 have h3:=c.P.S.off.tm i hlt
 have h4:(rsE 3).den E=h8ip0e13.den E:=rfl
 simp only [d_c] at h1
 omega
theorem h8ip0x11_ok {z:Bool} {E0 E:Env} {i b:Nat} (c:CK E0 E i false b):VOkX (pts8k Try.prog z) (ct8k z) IK mu8 (some b) E0 E h8ip0x11:=by
 intro hf
 have hlt:=c.lt (fat hf 6 rfl)
 have h1:=le_f.1 (fat hf 0 rfl)
 have h2:=c.pn
 have h3:=c.P.S.off.pn i hlt
 have h4:(rsE 2).den E=h8ip0e11.den E:=rfl
 simp only [d_c] at h1
 omega
theorem h8ip0x12_ok {z:Bool} {E0 E:Env} {i b:Nat} (c:CK E0 E i false b):VOkX (pts8k Try.prog z) (ct8k z) IK mu8 (some b) E0 E h8ip0x12:=by
 intro hf
 have hlt:=c.lt (fat hf 5 rfl)
 have h1:=le_f.1 (fat hf 0 rfl)
 have h2:=c.pn
 have h3:=c.P.S.off.pn i hlt
 have h4:(rsE 2).den E=h8ip0e11.den E:=rfl
 simp only [d_c] at h1
 omega
theorem h8ip0x13_ok {z:Bool} {E0 E:Env} {i b:Nat} (c:CK E0 E i false b):VOkX (pts8k Try.prog z) (ct8k z) IK mu8 (some b) E0 E h8ip0x13:=by
 intro hf
 have hlt:=c.lt (fat hf 4 rfl)
 have h1:=le_f.1 (fat hf 0 rfl)
 have h2:=c.ec
 have h3:=c.P.S.off.ec i hlt
 have h4:(rsE 1).den E=h8ip0e15.den E:=rfl
 simp only [d_c] at h1
 omega
theorem h8ip0x14_ok {z:Bool} {E0 E:Env} {i b:Nat} (c:CK E0 E i false b):VOkX (pts8k Try.prog z) (ct8k z) IK mu8 (some b) E0 E h8ip0x14:=by
 intro hf
 have hlt:=c.lt (fat hf 3 rfl)
 have h1:=le_f.1 (fat hf 0 rfl)
 have h2:=c.ec
 have h3:=c.P.S.off.ec i hlt
 have h4:(rsE 1).den E=h8ip0e15.den E:=rfl
 simp only [d_c] at h1
 omega
theorem h8ip0x15_ok {z:Bool} {E0 E:Env} {i b:Nat} (c:CK E0 E i false b):VOkX (pts8k Try.prog z) (ct8k z) IK mu8 (some b) E0 E h8ip0x15:=by
 intro hf
 have h1:E.i 60≤E.i 110:=le_of_not_lt' (fat hf 0 rfl)
 have q60:=c.R.ag.i 60 (by decide)
 have hle:=c.R.le
 have hi:=c.R.i110
 have hn0:=c.P.n0
 have hin:i=(E0.i 60).toNat:=by omega
 exact outK c.h0 c.hE c.R hin hn0
theorem h8ip0ls_ok {z:Bool} {E0 E:Env} {i b:Nat} (c:CK E0 E i false b): ∀x∈h8ip0ls,VOkX (pts8k Try.prog z) (ct8k z) IK mu8 (some b) E0 E x:=by
 intro x hx
 unfold h8ip0ls at hx
 simp only [List.mem_cons,List.not_mem_nil,or_false] at hx
 rcases hx with rfl|rfl|rfl|rfl|rfl|rfl|rfl|rfl|rfl|rfl|rfl|rfl|rfl|rfl|rfl|rfl
 ·exact h8ip0x0_ok c
 ·exact h8ip0x1_ok c
 ·exact h8ip0x2_ok c
 ·exact h8ip0x3_ok c
 ·exact h8ip0x4_ok c
 ·exact h8ip0x5_ok c
 ·exact h8ip0x6_ok c
 ·exact h8ip0x7_ok c
 ·exact h8ip0x8_ok c
 ·exact h8ip0x9_ok c
 ·exact h8ip0x10_ok c
 ·exact h8ip0x11_ok c
 ·exact h8ip0x12_ok c
 ·exact h8ip0x13_ok c
 ·exact h8ip0x14_ok c
 ·exact h8ip0x15_ok c
theorem h8ip1x3_st {E:Env} (hE:E.fn=fns) (o:Nat→Value):rcvK (ofK true E) ((rsE 2).den E) ((rsE 1).den E) ((SB.eq (rsE 4) (.c 0)).den E)=ofK true (E.put zey [(100,(.not (.and (.not (.v 100)) (.eq h8ip1e27 (.c 0)))))] zez o):=by
 obtain ⟨ii,bb,aa,oo,fn⟩:=E
 have:fn=fns:=hE
 subst this;rfl
theorem h8ip1x5_st {E:Env} (hE:E.fn=fns) (o:Nat→Value):framK (ofK true E)=ofK true (E.put zc2 zcy [(102,h8ip1e31)] o):=by
 obtain ⟨ii,bb,aa,oo,fn⟩:=E
 have:fn=fns:=hE
 subst this;rfl
theorem h8ip1x0_ok {z:Bool} {E0 E:Env} {i b:Nat} (c:CK E0 E i true b):VOkX (pts8k Try.prog z) (ct8k z) IK mu8 (some b) E0 E h8ip1x0:=by
 intro hf
 have hlt:=c.lt (fat hf 1 rfl)
 have h1:=c.kd (n:=2) (fat hf 0 rfl)
 rw [(off_c _ i).1] at h1
 exact (c.P.S.k2 i hlt).1 h1
theorem h8ip1x1_ok {z:Bool} {E0 E:Env} {i b:Nat} (c:CK E0 E i true b):VOkX (pts8k Try.prog z) (ct8k z) IK mu8 (some b) E0 E h8ip1x1:=by
 intro hf
 have hlt:=c.lt (fat hf 2 rfl)
 have h1:=c.kd (n:=4) (fat hf 0 rfl)
 rw [(off_c _ i).1] at h1
 exact (c.P.S.k2 i hlt).2 h1
theorem h8ip1x2_ok {z:Bool} {E0 E:Env} {i b:Nat} (c:CK E0 E i true b):VOkX (pts8k Try.prog z) (ct8k z) IK mu8 (some b) E0 E h8ip1x2:=by
 intro hf
 have hlt:=c.lt (fat hf 10 rfl)
 have hk:=c.kd (n:=0) (fat hf 1 rfl)
 have ho:=(c.old hlt).trans (fat hf 0 rfl)
 refine ⟨⟨_,rfl,.inr ⟨rfl,rfl⟩⟩,fun o=>?_⟩
 have R':RK E0 (E.put zev [] zew o) (i+1):=c.fin hlt (.c false) (.c true) (.c 0) (.c 0) (.c 0) (.c 0) (.c 0) (.v 20) (c.R.ag.put o) rfl rfl (say_old hk ho) rfl (colL_f (frA_f (by rw [hk];decide))).symm rfl (fun u hu=>by rw [show colL0 (E0.a 5) i=_ from colL_f (frA_f (by rw [hk];decide))] at hu;exact absurd hu (Nat.not_lt_zero _))
 exact ⟨IK.mk1 R' (by rw [st_old hk ho];exact ⟨c.S.e,c.S.a,c.S.n0,c.S.m0⟩),fun b' hb=>by cases hb;exact c.mu hlt rfl (by decide)⟩
theorem h8ip1x3_ok {z:Bool} {E0 E:Env} {i b:Nat} (c:CK E0 E i true b):VOkX (pts8k Try.prog z) (ct8k z) IK mu8 (some b) E0 E h8ip1x3:=by
 intro hf
 have hlt:=c.lt (fat hf 13 rfl)
 have hk:=c.kd (n:=0) (fat hf 4 rfl)
 have ho:=(c.old hlt).trans (fat hf 3 rfl)
 have hn:(1:Int)≤h8ip1e16.den E:=le_t.1 (fat hf 0 rfl)
 refine ⟨⟨_,rfl,.inr ⟨rfl,rfl⟩⟩,fun o=>?_⟩
 have R':RK E0 (E.put zey [(100,(.not (.and (.not (.v 100)) (.eq h8ip1e27 (.c 0)))))] zez o) (i+1):=c.fin hlt (.c false) (.c false) (.c 0) (.c 0) (.c 0) (.c 0) (.c 0) (.v 20) (c.R.ag.put o) rfl rfl (say_new hk ho) rfl (colL_f (frA_f (by rw [hk];decide))).symm rfl (fun u hu=>by rw [show colL0 (E0.a 5) i=_ from colL_f (frA_f (by rw [hk];decide))] at hu;exact absurd hu (Nat.not_lt_zero _))
 exact ⟨IK.mk1 R' (SK.of (by rw [st_new hk ho,c.S.rcv _ _ _ c.el,←c.pn,←c.ec];exact h8ip1x3_st c.hE o) (by show 0≤h8ip1e16.den E;omega) (c.S.m0)),fun b' hb=>by cases hb;exact c.mu hlt rfl (by decide)⟩
theorem h8ip1x4_ok {z:Bool} {E0 E:Env} {i b:Nat} (c:CK E0 E i true b):VOkX (pts8k Try.prog z) (ct8k z) IK mu8 (some b) E0 E h8ip1x4:=by
 intro hf
 exact c.dead1 (fat hf 0 rfl)
theorem h8ip1x5_ok {z:Bool} {E0 E:Env} {i b:Nat} (c:CK E0 E i true b):VOkX (pts8k Try.prog z) (ct8k z) IK mu8 (some b) E0 E h8ip1x5:=by
 intro hf
 have hlt:=c.lt (fat hf 12 rfl)
 have hk:=c.kd (n:=1) (fat hf 2 rfl)
 have ha:=c.asks.trans (show E.b 100=true from fat hf 0 rfl)
 have hfr:=frA_t hk ha
 have hnw:(sAt (offS (E0.a 5)) i).nw=true:=by rw [show (sAt (offS (E0.a 5)) i).nw=E.b 100 from congrArg KS.nw c.S.e];exact fat hf 0 rfl
 have hn1:=c.I.nw hnw
 have hn2:=c.I.n1
 have hn:=c.S.n
 refine ⟨⟨_,rfl,.inl ⟨rfl,rfl⟩⟩,fun o=>?_⟩
 refine ⟨IK.mk2 (q:=0) (E:=(E.put zc2 zcy [(102,h8ip1e31)] o)) ⟨c.R.ag.put o,c.R.i110,c.R.le,c.R.A,c.R.L,c.R.C⟩ (SK.of (by rw [st_fr hk ha,c.S.fram (by omega)];exact h8ip1x5_st c.hE o) c.S.n0 (fun _=>c.S.n0)) ⟨hlt,hfr,rfl,c.S.n0,fun t ht=>absurd ht (Nat.not_lt_zero _)⟩,fun b' hb=>?_⟩
 cases hb
 rw [c.b]
 show (E0.i 60 - E.i 110).toNat*200+(E.i 100 - 0).toNat<_
 omega
theorem h8ip1x6_ok {z:Bool} {E0 E:Env} {i b:Nat} (c:CK E0 E i true b):VOkX (pts8k Try.prog z) (ct8k z) IK mu8 (some b) E0 E h8ip1x6:=by
 intro hf
 have hlt:=c.lt (fat hf 12 rfl)
 have hk:=c.kd (n:=1) (fat hf 2 rfl)
 have ha:=c.asks.trans (show E.b 100=false from fat hf 0 rfl)
 refine ⟨⟨_,rfl,.inr ⟨rfl,rfl⟩⟩,fun o=>?_⟩
 have R':RK E0 (E.put zev [] ze0 o) (i+1):=c.fin hlt (.c false) (.c false) (.c 0) (.c 0) (.c 0) (.c 0) (.c 0) (.v 20) (c.R.ag.put o) rfl rfl (say_non hk ha) rfl (colL_f (frA_n ha)).symm rfl (fun u hu=>by rw [show colL0 (E0.a 5) i=_ from colL_f (frA_n ha)] at hu;exact absurd hu (Nat.not_lt_zero _))
 exact ⟨IK.mk1 R' (by rw [st_non hk ha];exact ⟨c.S.e,c.S.a,c.S.n0,c.S.m0⟩),fun b' hb=>by cases hb;exact c.mu hlt rfl (by decide)⟩
theorem h8ip1x7_ok {z:Bool} {E0 E:Env} {i b:Nat} (c:CK E0 E i true b):VOkX (pts8k Try.prog z) (ct8k z) IK mu8 (some b) E0 E h8ip1x7:=by
 intro hf
 have hlt:=c.lt (fat hf 11 rfl)
 have hk:=c.kd (n:=3) (fat hf 0 rfl)
 have hsy:=say_dup hk
 rw [c.old hlt] at hsy
 refine ⟨⟨_,rfl,.inr ⟨rfl,rfl⟩⟩,fun o=>?_⟩
 have R':RK E0 (E.put zev [] ze1 o) (i+1):=c.fin hlt (.ap 6 (.a (.v 100) (.i (.v 100) (.i h8ip1e11 .nil)))) (.c false) (.c 0) (.c 0) (.c 0) (.c 0) (.c 0) (.v 20) (c.R.ag.put o) rfl rfl (hsy) rfl (colL_f (frA_f (by rw [hk];decide))).symm rfl (fun u hu=>by rw [show colL0 (E0.a 5) i=_ from colL_f (frA_f (by rw [hk];decide))] at hu;exact absurd hu (Nat.not_lt_zero _))
 exact ⟨IK.mk1 R' (by rw [st_else (by rw [hk];decide) (by rw [hk];decide) (by rw [hk];decide)];exact ⟨c.S.e,c.S.a,c.S.n0,c.S.m0⟩),fun b' hb=>by cases hb;exact c.mu hlt rfl (by decide)⟩
theorem h8ip1x8_ok {z:Bool} {E0 E:Env} {i b:Nat} (c:CK E0 E i true b):VOkX (pts8k Try.prog z) (ct8k z) IK mu8 (some b) E0 E h8ip1x8:=by
 intro hf
 have hlt:=c.lt (fat hf 11 rfl)
 have n0:=c.nk (n:=0) (fat hf 2 rfl)
 have n1:=c.nk (n:=1) (fat hf 1 rfl)
 have n2:=c.nk (n:=2) (fat hf 10 rfl)
 have n3:=c.nk (n:=3) (fat hf 0 rfl)
 have n4:=c.nk (n:=4) (fat hf 9 rfl)
 have h3:=c.P.S.off.kd i hlt
 omega
theorem h8ip1x9_ok {z:Bool} {E0 E:Env} {i b:Nat} (c:CK E0 E i true b):VOkX (pts8k Try.prog z) (ct8k z) IK mu8 (some b) E0 E h8ip1x9:=by
 intro hf
 have hlt:=c.lt (fat hf 8 rfl)
 have h1:=le_f.1 (fat hf 0 rfl)
 have h2:=c.tm
 have h3:=c.P.S.off.tm i hlt
 have h4:(rsE 3).den E=h8ip1e13.den E:=rfl
 simp only [d_c] at h1
 omega
theorem h8ip1x10_ok {z:Bool} {E0 E:Env} {i b:Nat} (c:CK E0 E i true b):VOkX (pts8k Try.prog z) (ct8k z) IK mu8 (some b) E0 E h8ip1x10:=by
 intro hf
 have hlt:=c.lt (fat hf 7 rfl)
 have h1:=le_f.1 (fat hf 0 rfl)
 have h2:=c.tm
 have h3:=c.P.S.off.tm i hlt
 have h4:(rsE 3).den E=h8ip1e13.den E:=rfl
 simp only [d_c] at h1
 omega
theorem h8ip1x11_ok {z:Bool} {E0 E:Env} {i b:Nat} (c:CK E0 E i true b):VOkX (pts8k Try.prog z) (ct8k z) IK mu8 (some b) E0 E h8ip1x11:=by
 intro hf
 have hlt:=c.lt (fat hf 6 rfl)
 have h1:=le_f.1 (fat hf 0 rfl)
 have h2:=c.pn
 have h3:=c.P.S.off.pn i hlt
 have h4:(rsE 2).den E=h8ip1e11.den E:=rfl
 simp only [d_c] at h1
 omega
theorem h8ip1x12_ok {z:Bool} {E0 E:Env} {i b:Nat} (c:CK E0 E i true b):VOkX (pts8k Try.prog z) (ct8k z) IK mu8 (some b) E0 E h8ip1x12:=by
 intro hf
 have hlt:=c.lt (fat hf 5 rfl)
 have h1:=le_f.1 (fat hf 0 rfl)
 have h2:=c.pn
 have h3:=c.P.S.off.pn i hlt
 have h4:(rsE 2).den E=h8ip1e11.den E:=rfl
 simp only [d_c] at h1
 omega
theorem h8ip1x13_ok {z:Bool} {E0 E:Env} {i b:Nat} (c:CK E0 E i true b):VOkX (pts8k Try.prog z) (ct8k z) IK mu8 (some b) E0 E h8ip1x13:=by
 intro hf
 have hlt:=c.lt (fat hf 4 rfl)
 have h1:=le_f.1 (fat hf 0 rfl)
 have h2:=c.ec
 have h3:=c.P.S.off.ec i hlt
 have h4:(rsE 1).den E=h8ip1e15.den E:=rfl
 simp only [d_c] at h1
 omega
theorem h8ip1x14_ok {z:Bool} {E0 E:Env} {i b:Nat} (c:CK E0 E i true b):VOkX (pts8k Try.prog z) (ct8k z) IK mu8 (some b) E0 E h8ip1x14:=by
 intro hf
 have hlt:=c.lt (fat hf 3 rfl)
 have h1:=le_f.1 (fat hf 0 rfl)
 have h2:=c.ec
 have h3:=c.P.S.off.ec i hlt
 have h4:(rsE 1).den E=h8ip1e15.den E:=rfl
 simp only [d_c] at h1
 omega
theorem h8ip1x15_ok {z:Bool} {E0 E:Env} {i b:Nat} (c:CK E0 E i true b):VOkX (pts8k Try.prog z) (ct8k z) IK mu8 (some b) E0 E h8ip1x15:=by
 intro hf
 have h1:E.i 60≤E.i 110:=le_of_not_lt' (fat hf 0 rfl)
 have q60:=c.R.ag.i 60 (by decide)
 have hle:=c.R.le
 have hi:=c.R.i110
 have hn0:=c.P.n0
 have hin:i=(E0.i 60).toNat:=by omega
 exact outK c.h0 c.hE c.R hin hn0
theorem h8ip1ls_ok {z:Bool} {E0 E:Env} {i b:Nat} (c:CK E0 E i true b): ∀x∈h8ip1ls,VOkX (pts8k Try.prog z) (ct8k z) IK mu8 (some b) E0 E x:=by
 intro x hx
 unfold h8ip1ls at hx
 simp only [List.mem_cons,List.not_mem_nil,or_false] at hx
 rcases hx with rfl|rfl|rfl|rfl|rfl|rfl|rfl|rfl|rfl|rfl|rfl|rfl|rfl|rfl|rfl|rfl
 ·exact h8ip1x0_ok c
 ·exact h8ip1x1_ok c
 ·exact h8ip1x2_ok c
 ·exact h8ip1x3_ok c
 ·exact h8ip1x4_ok c
 ·exact h8ip1x5_ok c
 ·exact h8ip1x6_ok c
 ·exact h8ip1x7_ok c
 ·exact h8ip1x8_ok c
 ·exact h8ip1x9_ok c
 ·exact h8ip1x10_ok c
 ·exact h8ip1x11_ok c
 ·exact h8ip1x12_ok c
 ·exact h8ip1x13_ok c
 ·exact h8ip1x14_ok c
 ·exact h8ip1x15_ok c
theorem h8ip2x0_ok {z:Bool} {E0 E:Env} {i q b:Nat} (h0:E0.fn=fns) (hE:E.fn=fns) (hR:RK E0 E i) (hS:SK E true (sAt (offS (E0.a 5)) (i+1))) (hI:InK E0 E i q) (hb:b=mu8 E0 2 E):VOkX (pts8k Try.prog z) (ct8k z) IK mu8 (some b) E0 E h8ip2x0:=by
 intro hf
 have h1:E.i 150<E.i 140:=lt_t.1 (fat hf 0 rfl)
 have h2:=hI.i150
 refine ⟨⟨_,rfl,.inr ⟨rfl,rfl⟩⟩,fun o=>⟨IK.mk2 (q:=q+1) (E:=(E.put [(150,h8ip2e0)] [] [(103,h8ip2e5)] o)) ⟨hR.ag.put o,hR.i110,hR.le,hR.A,hR.L,hR.C⟩ ⟨hS.e,hS.a,hS.n0,hS.m0⟩ ⟨hI.lt,hI.fr,?_,?_,fun t ht=>?_⟩,fun b' hb'=>?_⟩⟩
 ·show E.i 150+1=_
  rw [h2];omega
 ·show ((q+1:Nat):Int)≤E.i 140
  omega
 ·show (AE.tl (.v 103) (.mul (.v 150) (.c 2)) (.i (.rd (.v 102) (.mul (.v 150) (.c 2))) (.i (.rd (.v 102) (.add (.mul (.v 150) (.c 2)) (.c 1))) .nil))).den E t=E.a 102 t
  have h3:((SE.mul (.v 150) (.c 2)).den E).toNat=q*2:=by
   show (E.i 150*2).toNat=_
   omega
  have h4:((SE.add (.mul (.v 150) (.c 2)) (.c 1)).den E).toNat=q*2+1:=by
   show (E.i 150*2+1).toNat=_
   omega
  rw [tlE h3]
  split
  ·rename_i h5;exact hI.X t h5
  ·rename_i h5
   have:t=q*2∨t=q*2+1:=by omega
   rcases this with rfl|rfl
   ·rw [Nat.sub_self]
    show E.a 102 ((SE.mul (.v 150) (.c 2)).den E).toNat=_
    rw [h3]
   ·rw [show q*2+1 - q*2=1 by omega]
    show E.a 102 ((SE.add (.mul (.v 150) (.c 2)) (.c 1)).den E).toNat=_
    rw [h4]
 ·cases hb'
  rw [hb]
  show (E0.i 60 - E.i 110).toNat*200+(E.i 140 - (E.i 150+1)).toNat<(E0.i 60 - E.i 110).toNat*200+(E.i 140 - E.i 150).toNat
  omega
theorem h8ip2x1_ok {z:Bool} {E0 E:Env} {i q b:Nat} (h0:E0.fn=fns) (hE:E.fn=fns) (P:PK E0) (hR:RK E0 E i) (hS:SK E true (sAt (offS (E0.a 5)) (i+1))) (hI:InK E0 E i q) (hb:b=mu8 E0 2 E):VOkX (pts8k Try.prog z) (ct8k z) IK mu8 (some b) E0 E h8ip2x1:=by
 intro hf
 have h1:E.i 140≤E.i 150:=lt_f.1 (fat hf 0 rfl)
 have h2:=hI.i150
 have h3:=hI.qm
 have hlt:=hI.lt
 have hk:kdA (offS (E0.a 5)) i=1:=by have:=hI.fr;unfold frA at this;rw [Bool.and_eq_true,decide_eq_true_eq] at this;exact this.1
 have ha:asks (sAt (offS (E0.a 5)) i) (tmA (offS (E0.a 5)) i) (onA (offS (E0.a 5)) i)=true:=by have:=hI.fr;unfold frA at this;rw [Bool.and_eq_true] at this;exact this.2
 have hs:=st_fr hk ha
 have g: ∀{α:Type} (f:KS→α),(∀(s:KS) (B:Nat→Int),f (s.setA B)=f s)→f (kst (fram (sAt (offS (E0.a 5)) i)))=f (ofK true E):=fun f hf=>by
  rw [←hs]
  exact (congrArg f hS.e).trans (hf _ _)
 have hm:((sAt (offS (E0.a 5)) i).n)=(E.i 140).toNat:=g KS.m (fun _ _=>rfl)
 have hB:rvA (sAt (offS (E0.a 5)) i).A (sAt (offS (E0.a 5)) i).n=E.a 102:=g KS.B (fun _ _=>rfl)
 have hc0:(sAt (offS (E0.a 5)) i).c0=E.i 131:=g KS.c0 (fun _ _=>rfl)
 have hc1:(sAt (offS (E0.a 5)) i).c1=E.i 132:=g KS.c1 (fun _ _=>rfl)
 have hce:(sAt (offS (E0.a 5)) i).ce=E.i 133:=g KS.ce (fun _ _=>rfl)
 have hL:colL0 (E0.a 5) i=E.i 150:=by
  unfold colL0 colL
  rw [hI.fr,if_pos rfl,hm];omega
 refine ⟨⟨_,rfl,.inr ⟨rfl,rfl⟩⟩,fun o=>?_⟩
 have hsay:=say_fr hI.fr
 rw [hc0,hc1,hce] at hsay
 have h8:((SE.mul (.v 110) (.c 8)).den E).toNat=i*8:=by
  show (E.i 110*8).toNat=_
  rw [hR.i110];omega
 have h11:((SE.v 110).den E).toNat=i:=by
  show (E.i 110).toNat=_
  rw [hR.i110];omega
 have h128:((SE.mul (.v 110) (.c 128)).den E).toNat=i*128:=by
  show (E.i 110*128).toNat=_
  rw [hR.i110];omega
 have hk1:=ks_k P.S (by have:=P.n1;omega) hR.le
 have R':RK E0 (E.put [(110,h8ip2e6)] [] ze2 o) (i+1):=hR.next hlt (hR.ag.put o) rfl (fun t=>tlE h8 t) (Say.nth0 (f:=(.c true)) (w:=(.c false)) (q:=(.c 0)) (d:=(.c 0)) (a:=(.c 0)) (x:=(.v 131)) (y:=(.v 132)) (z:=(.v 133)) hsay rfl rfl) (fun t=>tlE h11 t) (show E.i 150=_ from hL.symm) (fun t=>catE hE h128 t) (fun u hu=>by
  rw [hL] at hu hk1
  show (AE.v 103).den E u=_
  rw [show (AE.v 103).den E u=E.a 103 u from by simp only [AE.den],hI.X u (by omega),←hB]
  unfold colC0 colC
  rw [show (i*128+u)/128=i by omega,show (i*128+u) % 128=u by omega])
  (fun j hj=>ks_k P.S (by have:=P.n1;omega) (Nat.le_trans hj hR.le))
 refine ⟨IK.mk1 R' ⟨hS.e,hS.a,hS.n0,hS.m0⟩,fun b' hb'=>?_⟩
 cases hb'
 rw [hb]
 show (E0.i 60 - (E.i 110+1)).toNat*200+100<(E0.i 60 - E.i 110).toNat*200+(E.i 140 - E.i 150).toNat
 rw [hR.i110]
 omega
theorem ct8k_of (z:Bool):CtOk Try.prog fns (ct8k z):=by
 refine ct_of_ptsX (p:=prm8k Try.prog) (pts:=pts8k Try.prog z) (n:=900) (c0:=enterD (prm8k Try.prog) (ct8k z)) (fun E hE=>prm8k_ok E hE) rfl (by intro q hq;cases hq) Try.func8 (by cases z<;>kernel_rfl) ?_ IK mu8 h8ials h8iarun ?_ ?_
 ·intro t ht
  simp only [pts8k,List.mem_cons,List.not_mem_nil,or_false] at ht
  rcases ht with rfl|rfl|rfl
  ·exact (by cases z<;>exact ⟨by kernel_rfl,by decide⟩)
  ·exact (by cases z<;>exact ⟨by kernel_rfl,by decide⟩)
  ·exact (by cases z<;>exact ⟨by kernel_rfl,by decide⟩)
 ·intro E0 hE0 hF
  refine ⟨fun a ha=>(by cases ha;intro q hq;cases hq),fun E H1 _ x hx=>?_⟩
  unfold h8ials at hx
  simp only [List.mem_cons,List.not_mem_nil,or_false] at hx
  subst hx
  intro hf
  have H:AgP 100 E0 E:=AgP.trans (by omega) (AgP.refl 100 E0) H1.p
  exact ⟨⟨_,rfl,.inl ⟨rfl,rfl⟩⟩,fun o=>⟨IK.mk0 (i:=0) ⟨H.put o,rfl,Nat.zero_le _,fun t ht=>absurd ht (Nat.not_lt_zero _),fun t ht=>absurd ht (Nat.not_lt_zero _),fun k hk=>absurd hk (Nat.not_lt_zero _)⟩ ⟨rfl,fun h=>absurd rfl h,Int.le_refl 0,fun h=>(by cases h)⟩,fun b hb=>by cases hb⟩⟩
 ·intro k t ht
  have hk:k=0∨k=1∨k=2:=by
   have:=(List.getElem?_eq_some_iff.1 ht).1
   simp [pts8k] at this;omega
  have mk: ∀{E0 E1 E:Env} {i:Nat} {k:Bool} {j:Nat},E0.fn=fns→E1.fn=fns→Facts E0 (ct8k z).pre→AgE 1000 E1 E→j<2→RK E0 E1 i→SK E1 k (sAt (offS (E0.a 5)) i)→CK E0 E i k (mu8 E0 j E1):=fun {E0 E1 E i k j} hE0 hE1 hF0 H1 hj hR hS=>by
   have P:=pre8k hE0 hF0
   refine ⟨hE0,H1.fn.trans hE1,P,hR.up H1,hS.up H1,inv_at P.S.off (by have:=P.n1;omega) i hR.le,?_⟩
   unfold mu8
   rw [if_neg (by omega),H1.i 110 (by decide)]
  rcases hk with rfl|rfl|rfl
  ·obtain rfl:=Option.some.inj ht
   refine ⟨h8ip0ls,h8ip0run,fun E0 E1 hE0 hE1 hF0 hI=>?_⟩
   obtain ⟨i,hR,hS⟩: ∃i,RK E0 E1 i∧SK E1 false (sAt (offS (E0.a 5)) i):=by
    rcases hI with ⟨_,h⟩|⟨h,_⟩|⟨h,_⟩
    ·exact h
    ·cases h
    ·cases h
   have P:=pre8k hE0 hF0
   have hV:=inv_at P.S.off (by have:=P.n1;omega) i hR.le
   exact ⟨pf_ofK hE1 hF0 hR hS (by have:=hR.le;have:=P.n1;omega) hV,fun E H1 _ x hx=>h8ip0ls_ok (mk hE0 hE1 hF0 H1 (by decide) hR hS) x hx⟩
  ·obtain rfl:=Option.some.inj ht
   refine ⟨h8ip1ls,h8ip1run,fun E0 E1 hE0 hE1 hF0 hI=>?_⟩
   obtain ⟨i,hR,hS⟩: ∃i,RK E0 E1 i∧SK E1 true (sAt (offS (E0.a 5)) i):=by
    rcases hI with ⟨h,_⟩|⟨_,h⟩|⟨h,_⟩
    ·cases h
    ·exact h
    ·cases h
   have P:=pre8k hE0 hF0
   have hV:=inv_at P.S.off (by have:=P.n1;omega) i hR.le
   exact ⟨facts_append (pf_ofK hE1 hF0 hR hS (by have:=hR.le;have:=P.n1;omega) hV) (rd_ofK hE1 hS hV),fun E H1 _ x hx=>h8ip1ls_ok (mk hE0 hE1 hF0 H1 (by decide) hR hS) x hx⟩
  ·obtain rfl:=Option.some.inj ht
   refine ⟨h8ip2ls,h8ip2run,fun E0 E1 hE0 hE1 hF0 hI=>?_⟩
   obtain ⟨i,q,hR,hS,hJ⟩: ∃i q,RK E0 E1 i∧SK E1 true (sAt (offS (E0.a 5)) (i+1))∧InK E0 E1 i q:=by
    rcases hI with ⟨h,_⟩|⟨h,_⟩|⟨_,h⟩
    ·cases h
    ·cases h
    ·exact h
   have P:=pre8k hE0 hF0
   have hlt:=hJ.lt
   have hV:=inv_at P.S.off (by have:=P.n1;omega) (i+1) hlt
   have hm:E1.i 140≤51:=by
    have h1:=(hV.k (congrArg KS.k hS.e)).2.1
    rw [show (sAt (offS (E0.a 5)) (i+1)).m=(E1.i 140).toNat from congrArg KS.m hS.e] at h1
    omega
   refine ⟨facts_append (facts_append (facts_append (pf_ofK hE1 hF0 hR hS (by have:=P.n1;omega) hV) (rd_ofK hE1 hS hV)) ?_) ?_,fun E H1 _ x hx=>?_⟩
   ·have h1:=hJ.i150;have h2:=hJ.qm
    simp only [bd,facts_cons,facts_nil,le_t,d_c,d_v,and_true];omega
   ·have h1:=hJ.i150;have h2:=hJ.qm;have h3:=hR.i110;have h4:=hR.ag.i 60 (by decide)
    simp only [facts_cons,facts_nil,le_t,lt_t,d_c,d_v,and_true];omega
   ·have hb:mu8 E0 2 E1=mu8 E0 2 E:=by
     unfold mu8
     rw [H1.i 110 (by decide),H1.i 140 (by decide),H1.i 150 (by decide)]
    unfold h8ip2ls at hx
    simp only [List.mem_cons,List.not_mem_nil,or_false] at hx
    rcases hx with rfl|rfl
    ·exact h8ip2x0_ok hE0 (H1.fn.trans hE1) (hR.up H1) (hS.up H1) (hJ.up H1) hb
    ·exact h8ip2x1_ok hE0 (H1.fn.trans hE1) P (hR.up H1) (hS.up H1) (hJ.up H1) hb
theorem ct8i_ok:CtOk Try.prog fns (ct8k false):=ct8k_of false
theorem ct8s_ok:CtOk Try.prog fns (ct8k true):=ct8k_of true
end Go.Proofs.Ytgianhjmjiiadaa
end
section
set_option autoImplicit true
set_option relaxedAutoImplicit true
set_option linter.unusedVariables false
set_option linter.unusedSimpArgs false
set_option maxHeartbeats 4000000
set_option maxRecDepth 100000
namespace Go.Proofs.Ytgianhjmjiiadaa
open Go Go.Sy Go.RowKit
section
variable {E E0:Env}
def I7 (s:Nat) (E0:Env) (i:Nat) (E:Env):Prop:=J7 s (Nat.beq i 1) E0 E
def m7 (E0:Env) (_:Nat) (E:Env):Nat:=(E0.i 60 - E.i 130).toNat
def ti:Bool→Nat|false=>0|true=>1
theorem ti_beq (t:Bool):Nat.beq (ti t) 1=t:=by cases t<;>rfl
theorem pts7_at (s:Nat) (al t:Bool): ∃q,(pts7 Try.prog s al)[ti t]?=some q∧q.b=loopB Try.prog 7 6∧q.K=loopK Try.prog 7 6:=by cases t<;>exact ⟨_,rfl,rfl,rfl⟩
theorem go_7 {s:Nat} {al t':Bool} {i:Nat} {si:List (Nat×SE)} {sb:List (Nat×SB)} {sa:List (Nat×AE)} {F:Fx} (h:Facts E F→ ∀o,J7 s t' E0 (E.put si sb sa o)∧(E.put si sb sa o).i 130=E.i 130+1∧E.i 130<E0.i 60):
 VOk (pts7 Try.prog s al) (ct7 s al) (I7 s) m7 (some (m7 E0 i E)) E0 E (.go (ti t') si sb sa F (.exit .normal) (.loop (loopB Try.prog 7 6)::loopK Try.prog 7 6)):=by
 intro hF
 obtain ⟨q,h1,h2,h3⟩:=pts7_at s al t'
 refine ⟨⟨q,h1,.inr ⟨rfl,by rw [h2,h3]⟩⟩,fun o=>?_⟩
 obtain ⟨a1,a2,a3⟩:=h hF o
 refine ⟨?_,fun b hb=>?_⟩
 ·show J7 s (Nat.beq (ti t') 1) E0 _
  rw [ti_beq];exact a1
 ·cases hb
  unfold m7
  rw [a2];omega
theorem lt_7 {s:Nat} {t:Bool} (J:J7 s t E0 E) {F:Fx} (hF:Facts E F) (h:dec F (.lt (.v 130) (.v 60))=some true):E.i 130<E0.i 60:=by
 have:=lt_t.1 (dec_ok hF h)
 have e:E.i 130<E.i 60:=this
 rw [J.ag.i 60 (by decide)] at e;exact e
theorem a5_7 {s:Nat} {t:Bool} (J:J7 s t E0 E):E.a 5=E0.a 5:=J.ag.a 5 (by decide)
theorem hi_7 {s:Nat} {t:Bool} (J:J7 s t E0 E):E.i 130=((E.i 130).toNat:Int):=by have:=J.i0;omega
theorem as_7 {s:Nat} {t:Bool} (B:Bd7 s E0) (J:J7 s t E0 E) {F:Fx} (hF:Facts E F) {b:Bool} (h:dec F (asI s)=some b):asS s (spOf E t) (kdA (E0.a 5) (E.i 130).toNat) (tmA (E0.a 5) (E.i 130).toNat) (onA (E0.a 5) (E.i 130).toNat)=b:=by
 rw [←a5_7 J,←asI_den B.s2 t (hi_7 J)];exact dec_ok hF h
theorem cu_7 {s:Nat} {t:Bool} (J:J7 s t E0 E) {F:Fx} (hF:Facts E F) {b:Bool} (h:dec F (cuI s)=some b):cuS s (spOf E t) (kdA (E0.a 5) (E.i 130).toNat) (pnA (E0.a 5) (E.i 130).toNat)=b:=by
 rw [←a5_7 J,←cuI_den t (hi_7 J)];exact dec_ok hF h
theorem re_7 {s:Nat} {t:Bool} (J:J7 s t E0 E) {F:Fx} (hF:Facts E F) {b:Bool} (h:dec F reI=some b):reS (spOf E t) (kdA (E0.a 5) (E.i 130).toNat) (pnA (E0.a 5) (E.i 130).toNat)=b:=by
 rw [←a5_7 J,←reI_den t (hi_7 J)];exact dec_ok hF h
theorem go_F {s:Nat} {al t:Bool} {i:Nat} (hE0:E0.fn=fns) (B:Bd7 s E0) (J:J7 s t E0 E) {F:Fx} (h0:dec F (.lt (.v 130) (.v 60))=some true) (h1:dec F (asI s)=some true):
 VOk (pts7 Try.prog s al) (ct7 s al) (I7 s) m7 (some (m7 E0 i E)) E0 E (.go 1 [(115,c0),(114,c0),(110,.v 112),(130,i1)] [(116,.c false)] [(103,one (.v 100)),(102,one (.v 100))] F (.exit .normal) (.loop (loopB Try.prog 7 6)::loopK Try.prog 7 6)):=
 go_7 (t':=true) fun hF o=>⟨next_F hE0 B J (lt_7 J hF h0) o (as_7 B J hF h1),rfl,lt_7 J hF h0⟩
theorem go_B {s:Nat} {al t:Bool} {i:Nat} (hE0:E0.fn=fns) (B:Bd7 s E0) (J:J7 s t E0 E) {F:Fx} (h0:dec F (.lt (.v 130) (.v 60))=some true) (h1:dec F (asI s)=some false) (h2:dec F (cuI s)=some true):
 VOk (pts7 Try.prog s al) (ct7 s al) (I7 s) m7 (some (m7 E0 i E)) E0 E (.go (ti t) [(111,rs7 2),(130,i1)] [] [(100,cutM (.v 100) (rs7 2))] F (.exit .normal) (.loop (loopB Try.prog 7 6)::loopK Try.prog 7 6)):=
 go_7 fun hF o=>⟨next_B hE0 B J (lt_7 J hF h0) o (as_7 B J hF h1) (cu_7 J hF h2),rfl,lt_7 J hF h0⟩
theorem go_R {s:Nat} {al t:Bool} {i:Nat} (hE0:E0.fn=fns) (B:Bd7 s E0) (J:J7 s t E0 E) {F:Fx} (h0:dec F (.lt (.v 130) (.v 60))=some true) (h1:dec F (asI s)=some false) (h2:dec F (cuI s)=some false) (h3:dec F reI=some true):
 VOk (pts7 Try.prog s al) (ct7 s al) (I7 s) m7 (some (m7 E0 i E)) E0 E (.go (ti t) siR [(116,du7 t)] [(101,up7 101),(100,up7 100)] F (.exit .normal) (.loop (loopB Try.prog 7 6)::loopK Try.prog 7 6)):=
 go_7 fun hF o=>⟨next_R hE0 B J (lt_7 J hF h0) o (as_7 B J hF h1) (cu_7 J hF h2) (re_7 J hF h3),rfl,lt_7 J hF h0⟩
theorem go_N {s:Nat} {al t:Bool} {i:Nat} (hE0:E0.fn=fns) (B:Bd7 s E0) (J:J7 s t E0 E) {F:Fx} (h0:dec F (.lt (.v 130) (.v 60))=some true) (h1:dec F (asI s)=some false) (h2:dec F (cuI s)=some false) (h3:dec F reI=some false):
 VOk (pts7 Try.prog s al) (ct7 s al) (I7 s) m7 (some (m7 E0 i E)) E0 E (.go (ti t) [(130,i1)] [] [] F (.exit .normal) (.loop (loopB Try.prog 7 6)::loopK Try.prog 7 6)):=
 go_7 fun hF o=>⟨next_N hE0 B J (lt_7 J hF h0) o (as_7 B J hF h1) (cu_7 J hF h2) (re_7 J hF h3),rfl,lt_7 J hF h0⟩
theorem end_7 {s:Nat} {al t:Bool} {i:Nat} (J:J7 s t E0 E) {F:Fx}:
 VOk (pts7 Try.prog s al) (ct7 s al) (I7 s) m7 (some (m7 E0 i E)) E0 E (.out 0 [.a (.v 5) (.v 5) (.v 60) 6,.i (.v 60) (.v 60)] F):=fun hF=>by
 refine ⟨rfl,?_⟩
 simp only [List.forall_mem_cons,List.not_mem_nil,false_imp_iff,implies_true,and_true]
 exact ⟨Eqn.a_ag J.ag _ _ _ rfl,Eqn.i_ag J.ag _ rfl⟩
theorem J7.up {s:Nat} {t:Bool} {E1:Env} (J:J7 s t E0 E) (H:AgE 1000 E E1):J7 s t E0 E1:=by
 have e: ∀j,j<1000→E1.i j=E.i j:=fun j hj=>H.i j hj
 have ea: ∀j,j<1000→E1.a j=E.a j:=fun j hj=>H.a j hj
 have eb: ∀j,j<1000→E1.b j=E.b j:=fun j hj=>H.b j hj
 have es:spOf E1 t=spOf E t:=by
  unfold spOf
  rw [e 110 (by omega),e 111 (by omega),e 112 (by omega),e 113 (by omega),e 114 (by omega),e 115 (by omega),eb 116 (by omega),e 117 (by omega),e 118 (by omega),e 119 (by omega),ea 100 (by omega),ea 101 (by omega),ea 102 (by omega),ea 103 (by omega)]
 exact ⟨J.ag.trans (by omega) H.p,by rw [e 130 (by omega)];exact J.i0,by rw [e 130 (by omega)];exact J.le,by rw [e 130 (by omega),es];exact J.R,by rw [ea 100 (by omega),ea 101 (by omega)];exact J.hv,by rw [e 110 (by omega)];exact J.gr,by rw [e 113 (by omega)];exact J.at'⟩
theorem j7_start {s:Nat} (h2:s≤2) (B:Bd7 s E0) (H:AgE 1000 E0 E) (o:Nat→Value):
 J7 s false E0 (E.put [(119,.c 0),(118,.c 0),(117,.c 0),(115,.c 0),(114,.c 0),(113,.c 0),(112,.c (-1)),(111,.c 0),(110,.c (-1)),(130,.c 0)] [(116,.c false)] [(101,.tl (.v 0) (.c 0) .nil),(100,.tl (.v 0) (.c 0) .nil),(122,.v 1001),(121,.v 1000)] o):=by
 have n0:=B.n0
 have hz:(AE.tl (.v 0) (.c 0) .nil).den E=fun _=>0:=by
  funext z
  show (if z<(0:Int).toNat then _ else SL.nth E .nil (z - (0:Int).toNat))=_
  rw [if_neg (by omega)];rfl
 refine ⟨(AgP.trans (by omega) (AgP.refl 100 E0) H.p).put o,by show (0:Int)≤0;omega,by show (0:Int)≤E0.i 60;omega,?_,?_,⟨by show (-1:Int)≤ -1;omega,by show (-1:Int)≤99;omega⟩,⟨by show (0:Int)≤0;omega,by show (0:Int)≤1000000000;omega⟩⟩
 ·have R:=rel_zero
  show Rel s0 (-1) ⟨-1,0,-1,0,0,0,false,false,0,0,0,hvD ((AE.tl (.v 0) (.c 0) .nil).den E) ((AE.tl (.v 0) (.c 0) .nil).den E),hvD (E.a 102) (E.a 103)⟩
  rw [hz]
  exact ⟨R.gr,R.be,R.la,R.lt,R.nw,R.nb,R.ca,R.al,R.du,R.tl,R.e0,R.e1,R.ce,R.db,R.H,fun h=>(by cases h),R.bm⟩
 ·show HvOk ((AE.tl (.v 0) (.c 0) .nil).den E) ((AE.tl (.v 0) (.c 0) .nil).den E)
  rw [hz];exact ⟨fun _ _=>rfl,fun _ h=>absurd rfl h⟩
theorem go_0 {s:Nat} {al:Bool} (h2:s≤2) (B:Bd7 s E0) (H:AgE 1000 E0 E) {F:Fx}:
 VOk (pts7 Try.prog s al) (ct7 s al) (I7 s) m7 none E0 E (.go 0 [(119,.c 0),(118,.c 0),(117,.c 0),(115,.c 0),(114,.c 0),(113,.c 0),(112,.c (-1)),(111,.c 0),(110,.c (-1)),(130,.c 0)] [(116,.c false)] [(101,.tl (.v 0) (.c 0) .nil),(100,.tl (.v 0) (.c 0) .nil),(122,.v 1001),(121,.v 1000)] F (.code (.loop (loopB Try.prog 7 6))) (loopK Try.prog 7 6)):=fun hF=>
 ⟨⟨_,rfl,.inl ⟨rfl,rfl⟩⟩,fun o=>⟨j7_start h2 B H o,fun b hb=>by cases hb⟩⟩
def ct8s (s:Nat):Ct:=if s=2 then ct8 else ct8k (s==1)
theorem prm7_ok {s:Nat} (h8:CtOk Try.prog fns (ct8s s)) (E:Env) (hE:E.fn=fns):PrmOk E (prm7 Try.prog s):=prm_ok E hE (by
 intro c hc
 have:c=ct8s s∨c=ct9∨c=ct12∨c=ct11 false∨c=ct11 true:=by
  simp only [List.mem_cons,List.not_mem_nil,or_false] at hc;exact hc
 rcases this with rfl|rfl|rfl|rfl|rfl
 ·exact h8
 ·exact ct9_ok
 ·exact ct12_ok
 ·exact ct11n_ok
 ·exact ct11t_ok) (by
 intro b hb
 rcases List.mem_cons.1 hb with rfl|hb
 ·exact btMake_ok mok7
 ·exact btL_ok b hb)
theorem ct7_of {s:Nat} {al:Bool} (h2:s≤2) (h8:CtOk Try.prog fns (ct8s s)) (hen:enter (prm7 Try.prog s) 7 (ct7 s al).args (ct7 s al).heap (ct7 s al).pre=some (enterD (prm7 Try.prog s) (ct7 s al)))
 (hv:(ct7 s al).pre.all (fun q=>q.1.vb 100)=true) (ls l0 l1:List Vl)
 (hr:(run (prm7 Try.prog s) 900 (enterD (prm7 Try.prog s) (ct7 s al))).map (vOf (prm7 Try.prog s) (ct7 s al) (pts7 Try.prog s al))=ls)
 (hr0:(run (prm7 Try.prog s) 900 (ptD (pts7 Try.prog s al) 0 7)).map (vOf (prm7 Try.prog s) (ct7 s al) (pts7 Try.prog s al))=l0)
 (hr1:(run (prm7 Try.prog s) 900 (ptD (pts7 Try.prog s al) 1 7)).map (vOf (prm7 Try.prog s) (ct7 s al) (pts7 Try.prog s al))=l1)
 (hK: ∀q∈pts7 Try.prog s al,noRet q.K=true∧(ct7 s al).heap.length≤q.heap.length)
 (h: ∀{E0 E:Env},Bd7 s E0→AgE 1000 E0 E→ ∀x∈ls,VOk (pts7 Try.prog s al) (ct7 s al) (I7 s) m7 none E0 E x)
 (w0: ∀{E E0:Env} {i:Nat},E0.fn=fns→Bd7 s E0→J7 s false E0 E→ ∀x∈l0,VOk (pts7 Try.prog s al) (ct7 s al) (I7 s) m7 (some (m7 E0 i E)) E0 E x)
 (w1: ∀{E E0:Env} {i:Nat},E0.fn=fns→Bd7 s E0→J7 s true E0 E→ ∀x∈l1,VOk (pts7 Try.prog s al) (ct7 s al) (I7 s) m7 (some (m7 E0 i E)) E0 E x):CtOk Try.prog fns (ct7 s al):=by
 have hxf: ∀a∈(ct7 s al).alts,a.xf=[]:=by
  intro a ha
  simp only [ct7,List.mem_cons,List.not_mem_nil,or_false] at ha
  subst ha;rfl
 refine ct_of_ptsX (p:=prm7 Try.prog s) (pts:=pts7 Try.prog s al) (n:=900) (c0:=enterD (prm7 Try.prog s) (ct7 s al)) (fun E hE=>prm7_ok h8 E hE) rfl (by intro q hq;cases hq) Try.func7 hen hK (I7 s) m7 ls hr ?_ ?_
 ·intro E0 hE0 hF
  refine ⟨fun a ha=>?_,fun E H1 _ x hx=>VOk.x rfl hxf (h (bd7_of h2 hE0 hF) H1 x hx)⟩
  cases ha;intro q hq;cases hq
 ·intro i q hq
  have hi:i=0∨i=1:=by
   have:=(List.getElem?_eq_some_iff.1 hq).1
   simp [pts7] at this;omega
  have hm: ∀{E0 E1 E:Env} {i:Nat},AgE 1000 E1 E→m7 E0 i E1=m7 E0 i E:=fun H=>by unfold m7;rw [H.i 130 (by decide)]
  rcases hi with rfl|rfl
  ·obtain rfl:=Option.some.inj hq
   refine ⟨l0,hr0,fun E0 E1 hE0 hE1 hF0 hI=>⟨?_,fun E H1 _ x hx=>VOk.x rfl hxf ?_⟩⟩
   ·exact J7.facts hE0 h2 hF0 hv hI
   ·rw [hm H1];exact w0 hE0 (bd7_of h2 hE0 hF0) (J7.up hI H1) x hx
  ·obtain rfl:=Option.some.inj hq
   refine ⟨l1,hr1,fun E0 E1 hE0 hE1 hF0 hI=>⟨?_,fun E H1 _ x hx=>VOk.x rfl hxf ?_⟩⟩
   ·exact J7.facts hE0 h2 hF0 hv hI
   ·rw [hm H1];exact w1 hE0 (bd7_of h2 hE0 hF0) (J7.up hI H1) x hx
theorem hK7 {s:Nat} {al:Bool} (h:noRet (loopK Try.prog 7 6)=true): ∀q∈pts7 Try.prog s al,noRet q.K=true∧(ct7 s al).heap.length≤q.heap.length:=by
 intro q hq
 simp only [pts7,List.map_cons,List.map_nil,List.mem_cons,List.not_mem_nil,or_false] at hq
 rcases hq with rfl|rfl<;>exact ⟨h,by show 1≤_;simp⟩
theorem w7s2ap0 {i:Nat} (hE0:E0.fn=fns) (B:Bd7 2 E0) (J:J7 2 false E0 E): ∀x∈h7s2ap0ls,VOk (pts7 Try.prog 2 true) (ct7 2 true) (I7 2) m7 (some (m7 E0 i E)) E0 E x:=by
 refine vok_all (kn_ok hE0 B J) (gs:=[h7s2ap0x1,h7s2ap0x25,h7s2ap0x38,h7s2ap0x41,h7s2ap0x49,h7s2ap0x51,h7s2ap0x62]) (by kernel_rfl) ?_
 simp only [List.forall_mem_cons,List.not_mem_nil,false_imp_iff,implies_true,and_true]
 exact ⟨go_F hE0 B J (by kernel_rfl) (by kernel_rfl),go_B hE0 B J (by kernel_rfl) (by kernel_rfl) (by kernel_rfl),go_R hE0 B J (by kernel_rfl) (by kernel_rfl) (by kernel_rfl) (by kernel_rfl),go_N hE0 B J (by kernel_rfl) (by kernel_rfl) (by kernel_rfl) (by kernel_rfl),go_N hE0 B J (by kernel_rfl) (by kernel_rfl) (by kernel_rfl) (by kernel_rfl),go_N hE0 B J (by kernel_rfl) (by kernel_rfl) (by kernel_rfl) (by kernel_rfl),end_7 J⟩
theorem w7s2ap1 {i:Nat} (hE0:E0.fn=fns) (B:Bd7 2 E0) (J:J7 2 true E0 E): ∀x∈h7s2ap1ls,VOk (pts7 Try.prog 2 true) (ct7 2 true) (I7 2) m7 (some (m7 E0 i E)) E0 E x:=by
 refine vok_all (kn_ok hE0 B J) (gs:=[h7s2ap1x1,h7s2ap1x25,h7s2ap1x38,h7s2ap1x41,h7s2ap1x49,h7s2ap1x51,h7s2ap1x62]) (by kernel_rfl) ?_
 simp only [List.forall_mem_cons,List.not_mem_nil,false_imp_iff,implies_true,and_true]
 exact ⟨go_F hE0 B J (by kernel_rfl) (by kernel_rfl),go_B hE0 B J (by kernel_rfl) (by kernel_rfl) (by kernel_rfl),go_R hE0 B J (by kernel_rfl) (by kernel_rfl) (by kernel_rfl) (by kernel_rfl),go_N hE0 B J (by kernel_rfl) (by kernel_rfl) (by kernel_rfl) (by kernel_rfl),go_N hE0 B J (by kernel_rfl) (by kernel_rfl) (by kernel_rfl) (by kernel_rfl),go_N hE0 B J (by kernel_rfl) (by kernel_rfl) (by kernel_rfl) (by kernel_rfl),end_7 J⟩
theorem ct7s2a_ok:CtOk Try.prog fns (ct7 2 true):=ct7_of (by omega) ct8_ok (by kernel_rfl) (by decide) _ _ _ h7s2aerun h7s2ap0run h7s2ap1run (hK7 (by kernel_rfl)) (fun B H x hx=>by
 obtain rfl:=List.mem_singleton.1 hx
 exact go_0 (by omega) B H) w7s2ap0 w7s2ap1
theorem w7s0ap0 {i:Nat} (hE0:E0.fn=fns) (B:Bd7 0 E0) (J:J7 0 false E0 E): ∀x∈h7s0ap0ls,VOk (pts7 Try.prog 0 true) (ct7 0 true) (I7 0) m7 (some (m7 E0 i E)) E0 E x:=by
 refine vok_all (kn_ok hE0 B J) (gs:=[h7s0ap0x3,h7s0ap0x34,h7s0ap0x37,h7s0ap0x45,h7s0ap0x56]) (by kernel_rfl) ?_
 simp only [List.forall_mem_cons,List.not_mem_nil,false_imp_iff,implies_true,and_true]
 exact ⟨go_F hE0 B J (by kernel_rfl) (by kernel_rfl),go_R hE0 B J (by kernel_rfl) (by kernel_rfl) (by kernel_rfl) (by kernel_rfl),go_N hE0 B J (by kernel_rfl) (by kernel_rfl) (by kernel_rfl) (by kernel_rfl),go_N hE0 B J (by kernel_rfl) (by kernel_rfl) (by kernel_rfl) (by kernel_rfl),end_7 J⟩
theorem w7s0ap1 {i:Nat} (hE0:E0.fn=fns) (B:Bd7 0 E0) (J:J7 0 true E0 E): ∀x∈h7s0ap1ls,VOk (pts7 Try.prog 0 true) (ct7 0 true) (I7 0) m7 (some (m7 E0 i E)) E0 E x:=by
 refine vok_all (kn_ok hE0 B J) (gs:=[h7s0ap1x3,h7s0ap1x34,h7s0ap1x37,h7s0ap1x45,h7s0ap1x56]) (by kernel_rfl) ?_
 simp only [List.forall_mem_cons,List.not_mem_nil,false_imp_iff,implies_true,and_true]
 exact ⟨go_F hE0 B J (by kernel_rfl) (by kernel_rfl),go_R hE0 B J (by kernel_rfl) (by kernel_rfl) (by kernel_rfl) (by kernel_rfl),go_N hE0 B J (by kernel_rfl) (by kernel_rfl) (by kernel_rfl) (by kernel_rfl),go_N hE0 B J (by kernel_rfl) (by kernel_rfl) (by kernel_rfl) (by kernel_rfl),end_7 J⟩
theorem ct7s0a_ok:CtOk Try.prog fns (ct7 0 true):=ct7_of (by omega) ct8i_ok (by kernel_rfl) (by decide) _ _ _ h7s0aerun h7s0ap0run h7s0ap1run (hK7 (by kernel_rfl)) (fun B H x hx=>by
 obtain rfl:=List.mem_singleton.1 hx
 exact go_0 (by omega) B H) w7s0ap0 w7s0ap1
theorem w7s1ap0 {i:Nat} (hE0:E0.fn=fns) (B:Bd7 1 E0) (J:J7 1 false E0 E): ∀x∈h7s1ap0ls,VOk (pts7 Try.prog 1 true) (ct7 1 true) (I7 1) m7 (some (m7 E0 i E)) E0 E x:=by
 refine vok_all (kn_ok hE0 B J) (gs:=[h7s1ap0x3,h7s1ap0x34,h7s1ap0x37,h7s1ap0x45,h7s1ap0x56]) (by kernel_rfl) ?_
 simp only [List.forall_mem_cons,List.not_mem_nil,false_imp_iff,implies_true,and_true]
 exact ⟨go_F hE0 B J (by kernel_rfl) (by kernel_rfl),go_R hE0 B J (by kernel_rfl) (by kernel_rfl) (by kernel_rfl) (by kernel_rfl),go_N hE0 B J (by kernel_rfl) (by kernel_rfl) (by kernel_rfl) (by kernel_rfl),go_N hE0 B J (by kernel_rfl) (by kernel_rfl) (by kernel_rfl) (by kernel_rfl),end_7 J⟩
theorem w7s1ap1 {i:Nat} (hE0:E0.fn=fns) (B:Bd7 1 E0) (J:J7 1 true E0 E): ∀x∈h7s1ap1ls,VOk (pts7 Try.prog 1 true) (ct7 1 true) (I7 1) m7 (some (m7 E0 i E)) E0 E x:=by
 refine vok_all (kn_ok hE0 B J) (gs:=[h7s1ap1x3,h7s1ap1x34,h7s1ap1x37,h7s1ap1x45,h7s1ap1x56]) (by kernel_rfl) ?_
 simp only [List.forall_mem_cons,List.not_mem_nil,false_imp_iff,implies_true,and_true]
 exact ⟨go_F hE0 B J (by kernel_rfl) (by kernel_rfl),go_R hE0 B J (by kernel_rfl) (by kernel_rfl) (by kernel_rfl) (by kernel_rfl),go_N hE0 B J (by kernel_rfl) (by kernel_rfl) (by kernel_rfl) (by kernel_rfl),go_N hE0 B J (by kernel_rfl) (by kernel_rfl) (by kernel_rfl) (by kernel_rfl),end_7 J⟩
theorem ct7s1a_ok:CtOk Try.prog fns (ct7 1 true):=ct7_of (by omega) ct8s_ok (by kernel_rfl) (by decide) _ _ _ h7s1aerun h7s1ap0run h7s1ap1run (hK7 (by kernel_rfl)) (fun B H x hx=>by
 obtain rfl:=List.mem_singleton.1 hx
 exact go_0 (by omega) B H) w7s1ap0 w7s1ap1
end
end Go.Proofs.Ytgianhjmjiiadaa
end
section
set_option autoImplicit true
set_option relaxedAutoImplicit true
set_option linter.unusedVariables false
set_option linter.unusedSimpArgs false
set_option maxRecDepth 100000
set_option maxHeartbeats 4000000
namespace Go.Proofs.Ytgianhjmjiiadaa
open Go Go.Sy Go.RowKit
theorem stok_sok {S:Nat→Int} {n:Nat} {sp:Int} (h:STok S n sp):SOk S n:=
 ⟨h.kd,h.ec,fun i hi=>by have:=h.pn i hi;omega,⟨n,fun i hi _=>(h.pn i hi).2,fun i hi hz=>absurd hi (by omega)⟩,fun i hi=>by have:=h.tm i hi;omega,fun i hi hk=>(h.ig i hi hk).1⟩
theorem stok_sok0 {S:Nat→Int} {n:Nat} {sp:Int} (h:STok S n sp) (hs:sp≠2):SOk0 S n:=
 ⟨stok_sok h,fun i hi=>⟨fun k=>hs (h.ig i hi k).2,fun k=>hs (h.k4 i hi k)⟩⟩
theorem stV_iff {E:Env} (hE:E.fn=fns) (A:AE) (n s:SE):(SB.ap 11 (.a A (.i n (.i s .nil)))).den E=true↔STok (A.den E) (n.den E).toNat (s.den E):=by
 show E.fn.g 11 [.a (A.den E),.i (n.den E),.i (s.den E)]=true↔_
 rw [hE]
 exact @decide_eq_true_iff _ (Classical.propDecidable _)
theorem ct7v_of {al:Bool} (h: ∀s,s≤2→CtOk Try.prog fns (ct7 s al)):CtOk Try.prog fns (ct7v al):=by
 refine ct_same (fun E=>ct7 (E.i 30).toNat al) fun E hE hF=>?_
 have hF':=hF
 simp only [ct7v,stV,bd,List.cons_append,List.nil_append,facts_cons,facts_nil,le_t,d_c,d_v,and_true,stV_iff hE] at hF
 obtain ⟨n0,n1,s0,s2,T⟩:=hF
 have e:((E.i 30).toNat:Int)=E.i 30:=by omega
 have a5:(AE.v 5).den E=E.a 5:=by funext t;simp only [AE.den]
 rw [a5] at T
 refine ⟨h _ (by omega),rfl,rfl,rfl,rfl,fun β=>?_,HSame.cons (BSame.refl _ _) (HSame.nil _),?_,_,_,rfl,rfl,rfl,rfl,rfl,rfl,rfl,HSame.cons (BSame.refl _ _) (HSame.nil _)⟩
 ·show SV.denL E β [.int .i64 (.c ((E.i 30).toNat:Int)),.own 0,.bool (.c al)]=SV.denL E β [.int .i64 (.v 30),.own 0,.bool (.c al)]
  simp only [SV.denL,SV.den,d_c,d_v,e]
 ·have hs1:STok (E.a 5) (E.i 60).toNat ((E.i 30).toNat:Int):=by rw [e];exact T
  show Facts E (bd (.v 60) 0 60++stF (E.i 30).toNat)
  refine facts_app.2 ⟨by simp only [bd,facts_cons,facts_nil,le_t,d_c,d_v,and_true];exact ⟨n0,n1⟩,?_⟩
  unfold stF
  refine facts_app.2 ⟨facts_cons.2 ⟨(stV_iff hE _ _ _).2 (by rw [a5];exact hs1),facts_nil.2 trivial⟩,?_⟩
  split
  ·refine facts_cons.2 ⟨?_,facts_nil.2 trivial⟩
   show E.fn.g 10 [.a ((AE.v 5).den E),.i (E.i 60)]=true
   rw [hE,a5]
   exact @decide_eq_true _ (Classical.propDecidable _) (stok_sok T)
  ·rename_i c
   refine facts_cons.2 ⟨?_,facts_nil.2 trivial⟩
   show E.fn.g 13 [.a ((AE.v 5).den E),.i (E.i 60)]=true
   rw [hE,a5]
   exact @decide_eq_true _ (Classical.propDecidable _) (stok_sok0 T (by omega))
theorem prmL_ok {al:Bool} (h:CtOk Try.prog fns (ct7v al)) (E:Env) (hE:E.fn=fns):PrmOk E (prmL Try.prog al):=prm_ok E hE (by
 intro c hc
 have:c=ct6∨c=ct7v al:=by simpa [prmL] using hc
 rcases this with rfl|rfl
 ·exact ct6_ok
 ·exact h) (by intro b hb;cases hb)
theorem prmN_ok (E:Env) (hE:E.fn=fns):PrmOk E (prmN Try.prog) where
 bt:=by
  intro b hb
  rw [hE]
  rcases List.mem_cons.1 hb with rfl|hb
  ·exact btMake_ok mok7
  ·exact btL_ok b hb
 ct:=by
  intro c hc
  have:c=ct9:=by simpa [prmN] using hc
  subst this
  rw [hE];exact ct9_ok
 mix:=Checked.mixed Try.checked
 okf:=okf_call
 body:=okf_body
 mts:=by intro x hx;cases hx
 dfr:=by
  intro f hf a w
  have:f=13:=by simpa [prmN] using hf
  subst this
  exact catch_idle a w
 dfk:=by
  intro f hf
  have:f=13:=by simpa [prmN] using hf
  subst this;decide
theorem out_34 {g:Nat} {pts:List Pt} {I:Env→Nat→Env→Prop} {μ:Env→Nat→Env→Nat} {bnd:Option Nat} {E0 E:Env} (H:AgP 100 E0 E) {F:Fx}:VOkX pts (ct34 g) I μ bnd E0 E (.out 0 [.a (.v 0) (.v 0) (.v 1) 1,.i (.v 1) (.v 1)] F):=fun hf=>by
 refine ⟨rfl,E0,?_,fun a' ha'=>(by cases ha';intro q hq;cases hq)⟩
 rw [show E0.upd xb (ct34 g).nx E0=E0 from upd0 (n:=(ct34 g).nx) E0 rfl]
 simp only [List.forall_mem_cons,List.not_mem_nil,false_imp_iff,implies_true,and_true]
 exact ⟨Eqn.a_ag H _ _ _ rfl,Eqn.i_ag H _ rfl⟩
theorem out_34n {g:Nat} {pts:List Pt} {I:Env→Nat→Env→Prop} {μ:Env→Nat→Env→Nat} {bnd:Option Nat} {E0 E:Env} {F:Fx}:VOkX pts (ct34n g) I μ bnd E0 E (.out 0 [] F):=fun hf=>by
 refine ⟨rfl,E0,?_,fun a' ha'=>(by cases ha';intro q hq;cases hq)⟩
 rw [show E0.upd xb (ct34n g).nx E0=E0 from upd0 (n:=(ct34n g).nx) E0 rfl]
 intro q hq;cases hq
noncomputable def h4e0:SE:= .tmod (.v 2) (.c 3)
noncomputable def h4x0:Vl:= .out 0 [.a (.v 0) (.v 0) (.v 1) 1,.i (.v 1) (.v 1)] [((.lt (.c 2147483647) (.v 1)),true),((.le (.c 0) (.v 1)),true),((.le (.v 1) (.v 3)),true),((.ap 16 (.a (.v 0) (.i (.v 1) .nil))),true),((.le (.c 0) (.v 2)),true),((.le (.v 2) (.c 255)),true)]
noncomputable def h4x1:Vl:= .out 0 [.a (.v 0) (.v 0) (.v 1) 1,.i (.v 1) (.v 1)] [((.le (.c 0) (.v 1000)),true),((.le (.v 1000) (.c 60)),true),((.ap 11 (.a (.v 1000) (.i (.v 1000) (.i h4e0 .nil)))),true),((.lt (.c 2147483647) (.v 1)),false),((.le (.c 0) (.v 1)),true),((.le (.v 1) (.v 3)),true),((.ap 16 (.a (.v 0) (.i (.v 1) .nil))),true),((.le (.c 0) (.v 2)),true),((.le (.v 2) (.c 255)),true)]
noncomputable def h4ls:List Vl:=[h4x0,h4x1]
theorem h4run:(run (prmL Try.prog true) 900 (enterD (prmL Try.prog true) (ct34 4))).map (vOf (prmL Try.prog true) (ct34 4) [])=h4ls:=by kernel_rfl
noncomputable def h4ne0:SE:= .tmod (.v 2) (.c 3)
noncomputable def h4nx0:Vl:= .out 0 [] [((.eq h4ne0 (.c 2)),true),((.eq h4ne0 (.c 0)),true),((.le (.c 0) (.v 2)),true),((.le (.v 2) (.c 255)),true)]
noncomputable def h4nx1:Vl:= .out 0 [] [((.eq h4ne0 (.c 2)),false),((.eq h4ne0 (.c 0)),true),((.le (.c 0) (.v 2)),true),((.le (.v 2) (.c 255)),true)]
noncomputable def h4nx2:Vl:= .out 0 [] [((.eq h4ne0 (.c 2)),true),((.eq h4ne0 (.c 1)),true),((.eq h4ne0 (.c 0)),false),((.le (.c 0) (.v 2)),true),((.le (.v 2) (.c 255)),true)]
noncomputable def h4nx3:Vl:= .out 0 [] [((.eq h4ne0 (.c 2)),false),((.eq h4ne0 (.c 1)),true),((.eq h4ne0 (.c 0)),false),((.le (.c 0) (.v 2)),true),((.le (.v 2) (.c 255)),true)]
noncomputable def h4nx4:Vl:= .out 0 [] [((.eq h4ne0 (.c 2)),true),((.eq h4ne0 (.c 1)),false),((.eq h4ne0 (.c 0)),false),((.le (.c 0) (.v 2)),true),((.le (.v 2) (.c 255)),true)]
noncomputable def h4nx5:Vl:= .out 0 [] [((.eq h4ne0 (.c 2)),false),((.eq h4ne0 (.c 1)),false),((.eq h4ne0 (.c 0)),false),((.le (.c 0) (.v 2)),true),((.le (.v 2) (.c 255)),true)]
noncomputable def h4nls:List Vl:=[h4nx0,h4nx1,h4nx2,h4nx3,h4nx4,h4nx5]
theorem h4nrun:(run (prmN Try.prog) 3000 (enterD (prmN Try.prog) (ct34n 4))).map (vOf (prmN Try.prog) (ct34n 4) [])=h4nls:=by kernel_rfl
theorem ct7vt_ok:CtOk Try.prog fns (ct7v true):=ct7v_of fun s hs=>by
 have:s=0∨s=1∨s=2:=by omega
 rcases this with rfl|rfl|rfl
 ·exact ct7s0a_ok
 ·exact ct7s1a_ok
 ·exact ct7s2a_ok
theorem ct4_ok:CtOk Try.prog fns (ct34 4):=by
 refine ct_of_ptsX (p:=prmL Try.prog true) (pts:=[]) (n:=900) (c0:=enterD (prmL Try.prog true) (ct34 4)) (fun E hE=>prmL_ok ct7vt_ok E hE) rfl (by intro q hq;cases hq) Try.func4 (by kernel_rfl) (by intro t ht;cases ht) (fun _ _ _=>True) (fun _ _ _=>0) h4ls h4run ?_ (by intro i t ht;cases ht)
 intro E0 hE0 hF0
 refine ⟨fun a ha=>(by cases ha;intro q hq;cases hq),fun E H1 _ x hx=>?_⟩
 have H:AgP 100 E0 E:=AgP.trans (by omega) (AgP.refl 100 E0) H1.p
 unfold h4ls at hx
 simp only [List.mem_cons,List.not_mem_nil,or_false] at hx
 rcases hx with rfl|rfl
 ·exact out_34 H
 ·exact out_34 H
theorem ct4n_ok:CtOk Try.prog fns (ct34n 4):=by
 refine ct_of_ptsX (p:=prmN Try.prog) (pts:=[]) (n:=3000) (c0:=enterD (prmN Try.prog) (ct34n 4)) (fun E hE=>prmN_ok E hE) rfl (by intro q hq;cases hq) Try.func4 (by kernel_rfl) (by intro t ht;cases ht) (fun _ _ _=>True) (fun _ _ _=>0) h4nls h4nrun ?_ (by intro i t ht;cases ht)
 intro E0 hE0 hF0
 refine ⟨fun a ha=>(by cases ha;intro q hq;cases hq),fun E H1 _ x hx=>?_⟩
 unfold h4nls at hx
 simp only [List.mem_cons,List.not_mem_nil,or_false] at hx
 rcases hx with rfl|rfl|rfl|rfl|rfl|rfl<;>exact out_34n
end Go.Proofs.Ytgianhjmjiiadaa
end
section
set_option autoImplicit true
set_option relaxedAutoImplicit true
namespace Go.Proofs.Ytgianhjmjiiadaa.fnQMDue
open Go Go.Sy Go.ChangeShapes Go.WideShapes Go.ChangeAt Go.RowKit
set_option linter.unusedVariables false
theorem own:ownKnob Try.prog.godebug=none:=by kernel_rfl
theorem kids:Kids Try.prog (·<Try.prog.types.size):=kids_rows (by kernel_rfl) (by kernel_rfl)
theorem full: ∀t e,t<Try.prog.types.size→Try.prog.underlying t=some (.slice e)→0<Try.prog.cellsOf e:=slices_full_of Try.prog (by kernel_rfl)
noncomputable def envL (y:Int) (len cap:Nat) (A:Nat→Int):Env:={ i:=fun j=>match j with|2=>y|1=>len|3=>cap|_=>0,b:=fun _=>false,a:=fun _ j=>A j,o:=fun _=> .nilIface,fn:=fns }
theorem walk_nil (y:Int) (W:World) (hy:(Lit.int .u8 y).wf=true):
 Calls Try.prog 4 #[.int .u8 y,.slice none 0 0] W fun e W'=>e= .returned (.bool true)∧Below W.heap.size W W':=by
 have h2:=bounds_u8 hy
 have hF:Facts (envL y 0 0 fun _=>0) (ct34n 4).pre:=by
  simp only [ct34n,bd,facts_cons,facts_nil,le_t,d_c,d_v,and_true]
  exact ⟨h2.1,h2.2⟩
 exact law_of_ct (E:=envL y 0 0 fun _=>0) (β:=fun _=>nilBk) (w:=W) ct4n_ok rfl rfl hok_nil hF rfl (by intro s hs;cases hs)
theorem walk_row (y:Int) (W:World) (hy:(Lit.int .u8 y).wf=true) (pl o len cap:Nat) (A:Nat→Int) (hl:len≤cap) (hlt:pl<W.heap.size) (hn:numsAt W [.int .u8] pl o cap A) (hA: ∀j,j<cap*1→0≤A j∧A j≤255):
 Calls Try.prog 4 #[.int .u8 y,.slice (some ⟨pl,o,none⟩) len cap] W fun e W'=>e= .returned (.bool true)∧Below W.heap.size W W':=by
 have h2:=bounds_u8 hy
 have hF:Facts (envL y len cap A) (ct34 4).pre:=by
  intro q hq
  simp only [ct34,codeF,bd,List.cons_append,List.nil_append,List.mem_cons,List.not_mem_nil,or_false] at hq
  rcases hq with rfl|rfl|rfl|rfl|rfl
  ·rw [le_t,d_c,d_v];exact Int.natCast_nonneg len
  ·rw [le_t,d_v,d_v];exact Int.ofNat_le.2 hl
  ·show @decide (∀j:Nat,(j:Int)<(len:Int)→0≤(AE.v 0).den (envL y len cap A) j∧(AE.v 0).den (envL y len cap A) j≤255) (Classical.propDecidable _)=true
   refine @decide_eq_true _ (Classical.propDecidable _) fun j hj=>?_
   have:=hA j (by omega)
   simp only [AE.den];exact this
  ·rw [le_t,d_c,d_v];exact h2.1
  ·rw [le_t,d_c,d_v];exact h2.2
 have hw:HOk (envL y len cap A) (fun _=>{ a:=pl,o:=o,q:=Go.Sy.zr }) (ct34 4).heap W:=hok_nums (n:=cap) (A:=A) hlt hn (fun _ _=>rfl) (by show ((len:Int)).toNat≤cap;omega)
 have:=law_of_ct (E:=envL y len cap A) (w:=W) ct4_ok rfl rfl hw hF rfl (by
  intro s hs bk
  simp only [ct34,List.mem_cons,List.not_mem_nil,or_false] at hs
  subst hs;exact fun hh=>hh)
 exact this
set_option maxRecDepth 100000 in
theorem lifted (os:Os) (started:os.Started) (H:Type) (enc:TypeId×Value→H):
 ReturnsInHanded {} Try.checked os 4 .any (Rows.fnQMDueSpec.pre6 enc Try.prog Try.f4 Rows.fnQMDueRow.domain false) (Rows.fnQMDueSpec.post enc Try.prog Try.f4 false true false false):=by
 refine returnsInHanded_of_change_sized (C:=Try.checked) own started (by kernel_rfl) Try.func4
  (ChangeSpec.witness6 (enc:=enc) (C:=Try.checked) false ⟨#[],#[.int .u8 0,.slice none 0 0],[]⟩ 8 (by kernel_rfl) (by kernel_rfl) (by kernel_rfl) (by kernel_rfl)) ?_
 intro W base args ds gs before hval0 hW hcnd hsz0 _
 have hval: ∀(j:Nat) t v,Try.f4.params[j]?=some t→args[j]?=some v→Value.okWide Try.prog W .any base t v:=hval0
 have hW':=hW
 obtain ⟨p,q,hA0,hV,rfl,hfz,hnd⟩:=hW
 have hA:DataW.TrodAll enc Try.prog W 0 (fun _=>true) true Try.f4.params.toList args.toList ds p:=hA0
 have hlt:=hW'.lt
 have hAk:=hA
 rw [Try.params4] at hA hval
 obtain ⟨v0,vs0,d0,ds0,p0,q0,hargs,rfl,rfl,h0,r0⟩:=trodAll_cons hA
 obtain ⟨v1,vs1,d1,ds1,p1,q1,rfl,rfl,rfl,h1,r1⟩:=trodAll_cons r0
 obtain ⟨rfl,rfl,rfl⟩:=trodAll_nil r1
 obtain rfl:args= #[v0,v1]:=by cases args;simp_all
 obtain ⟨rfl,rfl⟩:=trodVars_none hV
 obtain ⟨a1,rfl,rfl,rfl,w1⟩:=open_int Try.underlying5 (hval 0 5 v0 rfl rfl) h0
 have fin: ∀(e:Ending) (W':World),(e= .returned (.bool true)∧Below W.heap.size W W')→ ∃v,e= .returned v∧Rows.fnQMDueSpec.post enc Try.prog Try.f4 false true false false W #[.int .u8 a1,v1] v W':=fun e W' ⟨he,bel⟩=>by
  subst he
  have hag:=trodAll_again kids full (by intro t ht;revert t;simp only [Try.params4];decide+kernel) bel hAk (fun p hp=>hlt p (List.mem_append_left _ hp))
  exact ⟨_,rfl,_,_,_,[],_,[],hW',trodAll_mk1 (shut_bool Try.underlying4 _),hag,rfl,bel.frame _,fun h=>by cases h⟩
 rcases open_rows (ks:=[.int .u8]) Try.underlying22 (by kernel_rfl) (by decide) (fun _ z=>0≤z∧z≤255)
  (fun n cs' y h=>by
    obtain ⟨f,h1,h2⟩:=el_int Try.underlying5 h
    exact ⟨f,h1,h2⟩) (hval 1 22 v1 rfl rfl) h1 with rfl|⟨pl,o,len,cap,A,rfl,g1,g2,g3,g4,g5⟩
 ·exact (walk_nil a1 W w1).mono fin
 ·exact (walk_row a1 W w1 pl o len cap A g1 g3 g4 g5).mono fin
theorem over:Rows.fnQMDueRow.holds Try.pinned (OpenSpec.ofChange Rows.fnQMDueSpec):=
 OpenClaim.holds_of_wide 4 Try.f4 rfl rfl rfl rfl rfl rfl rfl ⟨rfl,rfl,rfl,rfl,rfl⟩ rfl rfl rfl rfl rfl (by kernel_rfl) Try.func4 (by kernel_rfl)
  (of_decide_eq_true (by kernel_rfl)) (by unfold Func.isWrapper;first|(rw [if_pos (by decide+kernel)];kernel_rfl)|(rw [if_neg (by decide+kernel)];exact ⟨rfl,rfl⟩))
  (fun os started H enc _=>lifted os started H enc)
theorem proved:Rows.FnQMDueSaid:=over
#print axioms proved
end Go.Proofs.Ytgianhjmjiiadaa.fnQMDue
namespace Go.Proofs.Ytgianhjmjiiadaa
theorem fnQMDue_holds:Rows.FnQMDueSaid:=fnQMDue.proved
end Go.Proofs.Ytgianhjmjiiadaa
end
